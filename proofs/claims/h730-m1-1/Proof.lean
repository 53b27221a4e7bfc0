import JvmDerived
import JvmDerived.Pilot.@@N@@Statement
import JvmDerived.Pilot.@@N@@Code
set_option linter.unusedVariables false
set_option linter.unusedSimpArgs false
namespace Jvm.OwnW
open Sem ClassFile Op Lib Jvm.Free Jvm.Stand Jvm.LawKit Jvm.RoadKit
/-- where a walk stands: the method's facts, the heap, nothing old written -/
def Pos (Z : State) (y : MethodName) (bytes : ByteArray) (maxL : Nat) (ret : Option FieldType) (n0 : Nat) (p : Program) (l : Launch) (e : Env) (R : Room) (s : State) (m : MethodId) (args : Array Value) (below : List Frame) (meth : Method) (c : Code) (T : State) (h : Heap) (cells slots : Nat) : Prop :=
  (p.tables.exec = Jvm.exec ∧ c.code = bytes ∧ c.maxLocals = maxL ∧ s.vm.findClass y.cls = some m.cls ∧ meth.name = y.name ∧ meth.sig.returnType = ret ∧ meth.locks = false ∧ Z.Warmed39 s.vm ∧ n0 ≤ s.heap.size) ∧
  ∃ locs, Stand p l e R s m args below meth c T locs cells slots ∧ T.heap = h ∧ Fr n0 locs
/-- the run from t comes to a return of which Q holds -/
def Goes (p : Program) (e : Env) (below : List Frame) (s : State) (n0 kc ks : Nat) (Q : Option Value → Heap → Prop) (t : State) : Prop :=
  ∃ s₂ o, Steps p.tables e below t s₂ ∧ s₂.status = .running ∧ Ended s₂ below o ∧ ∃ v L, o = .returned v ∧ (Q v s₂.heap ∧ Fr n0 L) ∧ FrameEnd s o s₂ L kc ks
/-- a method's contract: called with these arguments at the heap h0 it returns, and Q holds of the value and the heap -/
def Con (l : Launch) (Z : State) (y : MethodName) (bytes : ByteArray) (maxL : Nat) (ret : Option FieldType) (rm : Room) (n0 : Nat) (as : Array Value) (h0 : Heap) (Q : Option Value → Heap → Prop) : Prop :=
  ∀ ws : List Jvm.Cond, MetFree l y (head1 (Jvm.Cond.code y bytes maxL ret :: ws) rm) (fun a U => a = as ∧ Z.Warmed39 U.vm ∧ U.heap = h0) (fun _ _ _ _ _ => True) (fun _ U o U' => ∃ v L, o = .returned v ∧ (Q v U'.heap ∧ Fr n0 L) ∧ FrameEnd U o U' L rm.cells rm.slots)
section Base
variable {Z : State} {y : MethodName} {bytes : ByteArray} {maxL : Nat} {ret : Option FieldType} {n0 : Nat} {p : Program} {l : Launch} {e : Env} {R : Room} {s : State} {m : MethodId} {args : Array Value} {below : List Frame} {meth : Method} {c : Code} {T : State} {h : Heap} {cells slots kc ks : Nat} {Q : Option Value → Heap → Prop} {pc pc' pcY pcN : Nat} {L L' : Array Slot} {S : List Value} {a0 : Array Value}
theorem Goes.via {t t' : State} (k : ∀ target, Steps p.tables e below t' target → Steps p.tables e below t target) (G : Goes p e below s n0 kc ks Q t') : Goes p e below s n0 kc ks Q t := by
  obtain ⟨s₂, o, h1, r⟩ := G
  exact ⟨s₂, o, k _ h1, r⟩
theorem Goes.mono {Q' : Option Value → Heap → Prop} {t : State} (k : ∀ v h, Q' v h → Q v h) (G : Goes p e below s n0 kc ks Q' t) : Goes p e below s n0 kc ks Q t := by
  obtain ⟨s₂, o, h1, h2, h3, v, L, h4, ⟨h5, h6⟩, h7⟩ := G
  exact ⟨s₂, o, h1, h2, h3, v, L, h4, ⟨k _ _ h5, h6⟩, h7⟩
theorem Con.mono {rm : Room} {as : Array Value} {h0 : Heap} {Q' : Option Value → Heap → Prop} (K : Con l Z y bytes maxL ret rm n0 as h0 Q') (k : ∀ v h, Q' v h → Q v h) : Con l Z y bytes maxL ret rm n0 as h0 Q := by
  intro ws p e ha hc hk s m args below hf happ hP hK
  obtain ⟨n, o, h1, h2, h3, v, L, h4, ⟨h5, h6⟩, h7⟩ := K ws p e ha hc hk s m args below hf happ hP hK
  exact ⟨n, o, h1, h2, h3, v, L, h4, ⟨k _ _ h5, h6⟩, h7⟩
theorem Con.body {rm : Room} {as : Array Value} {h0 : Heap} {Ls : Array Slot} (pn : plainFor y = true) (hn0 : n0 ≤ h0.size) (ef : ∀ m, entryFrame m as maxL = mkF m 0 Ls [])
    (H : ∀ p e s m below meth c T, Pos Z y bytes maxL ret n0 p l e rm s m as below meth c T h0 0 0 → Goes p e below s n0 rm.cells rm.slots Q (T.setTop (mkF m 0 Ls []))) : Con l Z y bytes maxL ret rm n0 as h0 Q := by
  intro ws
  refine MetFree.of_bodySF pn hisR ?_
  intro p e s m args below meth c s₁ Bd hml0 hP hK
  obtain ⟨rfl, hZ, hh⟩ := hP
  have X0 : Stand p l e rm s m args below meth c s₁ [] 0 0 := Stand.of_body Bd
  have e0 : s₁.heap = h0 := by rw [← hh, Bd.state]; rfl
  rw [ef]
  exact H p e s m below meth c s₁ ⟨⟨Bd.exec, Bd.bytes, hml0, findClass_of_methodNamed Bd.named, (name_of_methodNamed Bd.named Bd.method).1, Bd.returns, Bd.notSynchronized, hZ, by rw [hh]; exact hn0⟩, [], X0, e0, Fr.nil n0⟩
theorem Pos.sz (P : Pos Z y bytes maxL ret n0 p l e R s m args below meth c T h cells slots) : n0 ≤ h.size := by
  obtain ⟨⟨-, -, -, -, -, -, -, -, hn0⟩, locs, X, rfl, -⟩ := P
  exact Nat.le_trans hn0 X.same.2.1
end Base
namespace G
section Plain
variable {Z : State} {y : MethodName} {bytes : ByteArray} {maxL : Nat} {ret : Option FieldType} {n0 : Nat} {p : Program} {l : Launch} {e : Env} {R : Room} {s : State} {m : MethodId} {args : Array Value} {below : List Frame} {meth : Method} {c : Code} {T : State} {h : Heap} {cells slots kc ks : Nat} {Q : Option Value → Heap → Prop} {pc pc' pcY pcN : Nat} {L L' : Array Slot} {S : List Value} {a0 : Array Value}
theorem iload (P : Pos Z y bytes maxL ret n0 p l e R s m args below meth c T h cells slots) {k : Nat} {v : Int32} (hd : decode bytes pc = .ok (.iload k, 2)) (hl : L[k]? = some (.val (.int v))) (hp : pc + 2 = pc') (k : Goes p e below s n0 kc ks Q (T.setTop (mkF m pc' L (.int v :: S)))) : Goes p e below s n0 kc ks Q (T.setTop (mkF m pc L S)) := by
  obtain ⟨⟨hx, rfl, rfl, hown, hnm, rfl, hlk, hZ, hn0⟩, locs, X, rfl, N⟩ := P
  subst hp
  exact k.via fun t q => XS.iload X.here hx rfl hd hl q
theorem iloadN (P : Pos Z y bytes maxL ret n0 p l e R s m args below meth c T h cells slots) {k : Fin 4} {v : Int32} (hd : decode bytes pc = .ok (.iload_n k, 1)) (hl : L[k.val]? = some (.val (.int v))) (hp : pc + 1 = pc') (k : Goes p e below s n0 kc ks Q (T.setTop (mkF m pc' L (.int v :: S)))) : Goes p e below s n0 kc ks Q (T.setTop (mkF m pc L S)) := by
  obtain ⟨⟨hx, rfl, rfl, hown, hnm, rfl, hlk, hZ, hn0⟩, locs, X, rfl, N⟩ := P
  subst hp
  exact k.via fun t q => XS.iloadN X.here hx rfl hd hl q
theorem lload (P : Pos Z y bytes maxL ret n0 p l e R s m args below meth c T h cells slots) {k : Nat} {v : Int64} (hd : decode bytes pc = .ok (.lload k, 2)) (hl : L[k]? = some (.val (.long v))) (hp : pc + 2 = pc') (k : Goes p e below s n0 kc ks Q (T.setTop (mkF m pc' L (.long v :: S)))) : Goes p e below s n0 kc ks Q (T.setTop (mkF m pc L S)) := by
  obtain ⟨⟨hx, rfl, rfl, hown, hnm, rfl, hlk, hZ, hn0⟩, locs, X, rfl, N⟩ := P
  subst hp
  exact k.via fun t q => XS.lload X.here hx rfl hd hl q
theorem lloadN (P : Pos Z y bytes maxL ret n0 p l e R s m args below meth c T h cells slots) {k : Fin 4} {v : Int64} (hd : decode bytes pc = .ok (.lload_n k, 1)) (hl : L[k.val]? = some (.val (.long v))) (hp : pc + 1 = pc') (k : Goes p e below s n0 kc ks Q (T.setTop (mkF m pc' L (.long v :: S)))) : Goes p e below s n0 kc ks Q (T.setTop (mkF m pc L S)) := by
  obtain ⟨⟨hx, rfl, rfl, hown, hnm, rfl, hlk, hZ, hn0⟩, locs, X, rfl, N⟩ := P
  subst hp
  exact k.via fun t q => XS.lloadN X.here hx rfl hd hl q
theorem aload (P : Pos Z y bytes maxL ret n0 p l e R s m args below meth c T h cells slots) {k : Nat} {v : Value} (hd : decode bytes pc = .ok (.aload k, 2)) (hl : L[k]? = some (.val v)) (hv : v.isRef = true) (hp : pc + 2 = pc') (k : Goes p e below s n0 kc ks Q (T.setTop (mkF m pc' L (v :: S)))) : Goes p e below s n0 kc ks Q (T.setTop (mkF m pc L S)) := by
  obtain ⟨⟨hx, rfl, rfl, hown, hnm, rfl, hlk, hZ, hn0⟩, locs, X, rfl, N⟩ := P
  subst hp
  exact k.via fun t q => XS.aload X.here hx rfl hd hl hv q
theorem aloadN (P : Pos Z y bytes maxL ret n0 p l e R s m args below meth c T h cells slots) {k : Fin 4} {v : Value} (hd : decode bytes pc = .ok (.aload_n k, 1)) (hl : L[k.val]? = some (.val v)) (hv : v.isRef = true) (hp : pc + 1 = pc') (k : Goes p e below s n0 kc ks Q (T.setTop (mkF m pc' L (v :: S)))) : Goes p e below s n0 kc ks Q (T.setTop (mkF m pc L S)) := by
  obtain ⟨⟨hx, rfl, rfl, hown, hnm, rfl, hlk, hZ, hn0⟩, locs, X, rfl, N⟩ := P
  subst hp
  exact k.via fun t q => XS.aloadN X.here hx rfl hd hl hv q
theorem istore (P : Pos Z y bytes maxL ret n0 p l e R s m args below meth c T h cells slots) {k : Nat} {v v' : Int32} (hd : decode bytes pc = .ok (.istore k, 2)) (hv : v = v') (hl : storeLocals L k (.int v') = some L') (hp : pc + 2 = pc') (k : Goes p e below s n0 kc ks Q (T.setTop (mkF m pc' L' S))) : Goes p e below s n0 kc ks Q (T.setTop (mkF m pc L (.int v :: S))) := by
  obtain ⟨⟨hx, rfl, rfl, hown, hnm, rfl, hlk, hZ, hn0⟩, locs, X, rfl, N⟩ := P
  subst hp hv
  exact k.via fun t q => XS.istore X.here hx rfl hd rfl hl q
theorem istoreN (P : Pos Z y bytes maxL ret n0 p l e R s m args below meth c T h cells slots) {k : Fin 4} {v v' : Int32} (hd : decode bytes pc = .ok (.istore_n k, 1)) (hv : v = v') (hl : storeLocals L k.val (.int v') = some L') (hp : pc + 1 = pc') (k : Goes p e below s n0 kc ks Q (T.setTop (mkF m pc' L' S))) : Goes p e below s n0 kc ks Q (T.setTop (mkF m pc L (.int v :: S))) := by
  obtain ⟨⟨hx, rfl, rfl, hown, hnm, rfl, hlk, hZ, hn0⟩, locs, X, rfl, N⟩ := P
  subst hp hv
  exact k.via fun t q => XS.istoreN X.here hx rfl hd rfl hl q
theorem lstore (P : Pos Z y bytes maxL ret n0 p l e R s m args below meth c T h cells slots) {k : Nat} {v v' : Int64} (hd : decode bytes pc = .ok (.lstore k, 2)) (hv : v = v') (hl : storeLocals L k (.long v') = some L') (hp : pc + 2 = pc') (k : Goes p e below s n0 kc ks Q (T.setTop (mkF m pc' L' S))) : Goes p e below s n0 kc ks Q (T.setTop (mkF m pc L (.long v :: S))) := by
  obtain ⟨⟨hx, rfl, rfl, hown, hnm, rfl, hlk, hZ, hn0⟩, locs, X, rfl, N⟩ := P
  subst hp hv
  exact k.via fun t q => XS.lstore X.here hx rfl hd rfl hl q
theorem lstoreN (P : Pos Z y bytes maxL ret n0 p l e R s m args below meth c T h cells slots) {k : Fin 4} {v v' : Int64} (hd : decode bytes pc = .ok (.lstore_n k, 1)) (hv : v = v') (hl : storeLocals L k.val (.long v') = some L') (hp : pc + 1 = pc') (k : Goes p e below s n0 kc ks Q (T.setTop (mkF m pc' L' S))) : Goes p e below s n0 kc ks Q (T.setTop (mkF m pc L (.long v :: S))) := by
  obtain ⟨⟨hx, rfl, rfl, hown, hnm, rfl, hlk, hZ, hn0⟩, locs, X, rfl, N⟩ := P
  subst hp hv
  exact k.via fun t q => XS.lstoreN X.here hx rfl hd rfl hl q
theorem astore (P : Pos Z y bytes maxL ret n0 p l e R s m args below meth c T h cells slots) {k : Nat} {v : Value} (hd : decode bytes pc = .ok (.astore k, 2)) (hv : v.isRef = true) (hl : storeLocals L k v = some L') (hp : pc + 2 = pc') (k : Goes p e below s n0 kc ks Q (T.setTop (mkF m pc' L' S))) : Goes p e below s n0 kc ks Q (T.setTop (mkF m pc L (v :: S))) := by
  obtain ⟨⟨hx, rfl, rfl, hown, hnm, rfl, hlk, hZ, hn0⟩, locs, X, rfl, N⟩ := P
  subst hp
  exact k.via fun t q => XS.astore X.here hx rfl hd rfl hv hl q
theorem astoreN (P : Pos Z y bytes maxL ret n0 p l e R s m args below meth c T h cells slots) {k : Fin 4} {v : Value} (hd : decode bytes pc = .ok (.astore_n k, 1)) (hv : v.isRef = true) (hl : storeLocals L k.val v = some L') (hp : pc + 1 = pc') (k : Goes p e below s n0 kc ks Q (T.setTop (mkF m pc' L' S))) : Goes p e below s n0 kc ks Q (T.setTop (mkF m pc L (v :: S))) := by
  obtain ⟨⟨hx, rfl, rfl, hown, hnm, rfl, hlk, hZ, hn0⟩, locs, X, rfl, N⟩ := P
  subst hp
  exact k.via fun t q => XS.astoreN X.here hx rfl hd rfl hv hl q
theorem iconst (P : Pos Z y bytes maxL ret n0 p l e R s m args below meth c T h cells slots) {i : Int} {v : Int32} (hd : decode bytes pc = .ok (.iconst i, 1)) (hv : Int32.ofInt i = v) (hp : pc + 1 = pc') (k : Goes p e below s n0 kc ks Q (T.setTop (mkF m pc' L (.int v :: S)))) : Goes p e below s n0 kc ks Q (T.setTop (mkF m pc L S)) := by
  obtain ⟨⟨hx, rfl, rfl, hown, hnm, rfl, hlk, hZ, hn0⟩, locs, X, rfl, N⟩ := P
  subst hp hv
  exact k.via fun t q => XS.iconst X.here hx rfl hd q
theorem bipush (P : Pos Z y bytes maxL ret n0 p l e R s m args below meth c T h cells slots) {i : Int} {v : Int32} (hd : decode bytes pc = .ok (.bipush i, 2)) (hv : (Int8.ofInt i).toInt32 = v) (hp : pc + 2 = pc') (k : Goes p e below s n0 kc ks Q (T.setTop (mkF m pc' L (.int v :: S)))) : Goes p e below s n0 kc ks Q (T.setTop (mkF m pc L S)) := by
  obtain ⟨⟨hx, rfl, rfl, hown, hnm, rfl, hlk, hZ, hn0⟩, locs, X, rfl, N⟩ := P
  subst hp hv
  exact k.via fun t q => XS.bipush X.here hx rfl hd q
theorem sipush (P : Pos Z y bytes maxL ret n0 p l e R s m args below meth c T h cells slots) {i : Int} {v : Int32} (hd : decode bytes pc = .ok (.sipush i, 3)) (hv : (Int16.ofInt i).toInt32 = v) (hp : pc + 3 = pc') (k : Goes p e below s n0 kc ks Q (T.setTop (mkF m pc' L (.int v :: S)))) : Goes p e below s n0 kc ks Q (T.setTop (mkF m pc L S)) := by
  obtain ⟨⟨hx, rfl, rfl, hown, hnm, rfl, hlk, hZ, hn0⟩, locs, X, rfl, N⟩ := P
  subst hp hv
  exact k.via fun t q => XS.sipush X.here hx rfl hd q
theorem lconst (P : Pos Z y bytes maxL ret n0 p l e R s m args below meth c T h cells slots) {i : Fin 2} {v : Int64} (hd : decode bytes pc = .ok (.lconst i, 1)) (hv : Int64.ofNat i = v) (hp : pc + 1 = pc') (k : Goes p e below s n0 kc ks Q (T.setTop (mkF m pc' L (.long v :: S)))) : Goes p e below s n0 kc ks Q (T.setTop (mkF m pc L S)) := by
  obtain ⟨⟨hx, rfl, rfl, hown, hnm, rfl, hlk, hZ, hn0⟩, locs, X, rfl, N⟩ := P
  subst hp hv
  exact k.via fun t q => XS.lconst X.here hx rfl hd q
theorem aconstNull (P : Pos Z y bytes maxL ret n0 p l e R s m args below meth c T h cells slots) (hd : decode bytes pc = .ok (.aconst_null, 1)) (hp : pc + 1 = pc') (k : Goes p e below s n0 kc ks Q (T.setTop (mkF m pc' L (.null :: S)))) : Goes p e below s n0 kc ks Q (T.setTop (mkF m pc L S)) := by
  obtain ⟨⟨hx, rfl, rfl, hown, hnm, rfl, hlk, hZ, hn0⟩, locs, X, rfl, N⟩ := P
  subst hp
  exact k.via fun t q => XS.aconstNull X.here hx rfl hd q
theorem iadd (P : Pos Z y bytes maxL ret n0 p l e R s m args below meth c T h cells slots) {x z : Int32} (hd : decode bytes pc = .ok (.iadd, 1)) (hp : pc + 1 = pc') (k : Goes p e below s n0 kc ks Q (T.setTop (mkF m pc' L (.int (x + z) :: S)))) : Goes p e below s n0 kc ks Q (T.setTop (mkF m pc L (.int z :: .int x :: S))) := by
  obtain ⟨⟨hx, rfl, rfl, hown, hnm, rfl, hlk, hZ, hn0⟩, locs, X, rfl, N⟩ := P
  subst hp
  exact k.via fun t q => XS.iadd X.here hx rfl hd rfl q
theorem isub (P : Pos Z y bytes maxL ret n0 p l e R s m args below meth c T h cells slots) {x z : Int32} (hd : decode bytes pc = .ok (.isub, 1)) (hp : pc + 1 = pc') (k : Goes p e below s n0 kc ks Q (T.setTop (mkF m pc' L (.int (x - z) :: S)))) : Goes p e below s n0 kc ks Q (T.setTop (mkF m pc L (.int z :: .int x :: S))) := by
  obtain ⟨⟨hx, rfl, rfl, hown, hnm, rfl, hlk, hZ, hn0⟩, locs, X, rfl, N⟩ := P
  subst hp
  exact k.via fun t q => XS.isub X.here hx rfl hd rfl q
theorem imul (P : Pos Z y bytes maxL ret n0 p l e R s m args below meth c T h cells slots) {x z : Int32} (hd : decode bytes pc = .ok (.imul, 1)) (hp : pc + 1 = pc') (k : Goes p e below s n0 kc ks Q (T.setTop (mkF m pc' L (.int (x * z) :: S)))) : Goes p e below s n0 kc ks Q (T.setTop (mkF m pc L (.int z :: .int x :: S))) := by
  obtain ⟨⟨hx, rfl, rfl, hown, hnm, rfl, hlk, hZ, hn0⟩, locs, X, rfl, N⟩ := P
  subst hp
  exact k.via fun t q => XS.imul X.here hx rfl hd rfl q
theorem iand (P : Pos Z y bytes maxL ret n0 p l e R s m args below meth c T h cells slots) {x z : Int32} (hd : decode bytes pc = .ok (.iand, 1)) (hp : pc + 1 = pc') (k : Goes p e below s n0 kc ks Q (T.setTop (mkF m pc' L (.int (x &&& z) :: S)))) : Goes p e below s n0 kc ks Q (T.setTop (mkF m pc L (.int z :: .int x :: S))) := by
  obtain ⟨⟨hx, rfl, rfl, hown, hnm, rfl, hlk, hZ, hn0⟩, locs, X, rfl, N⟩ := P
  subst hp
  exact k.via fun t q => XS.iand X.here hx rfl hd rfl q
theorem ior (P : Pos Z y bytes maxL ret n0 p l e R s m args below meth c T h cells slots) {x z : Int32} (hd : decode bytes pc = .ok (.ior, 1)) (hp : pc + 1 = pc') (k : Goes p e below s n0 kc ks Q (T.setTop (mkF m pc' L (.int (x ||| z) :: S)))) : Goes p e below s n0 kc ks Q (T.setTop (mkF m pc L (.int z :: .int x :: S))) := by
  obtain ⟨⟨hx, rfl, rfl, hown, hnm, rfl, hlk, hZ, hn0⟩, locs, X, rfl, N⟩ := P
  subst hp
  exact k.via fun t q => XS.ior X.here hx rfl hd rfl q
theorem ixor (P : Pos Z y bytes maxL ret n0 p l e R s m args below meth c T h cells slots) {x z : Int32} (hd : decode bytes pc = .ok (.ixor, 1)) (hp : pc + 1 = pc') (k : Goes p e below s n0 kc ks Q (T.setTop (mkF m pc' L (.int (x ^^^ z) :: S)))) : Goes p e below s n0 kc ks Q (T.setTop (mkF m pc L (.int z :: .int x :: S))) := by
  obtain ⟨⟨hx, rfl, rfl, hown, hnm, rfl, hlk, hZ, hn0⟩, locs, X, rfl, N⟩ := P
  subst hp
  exact k.via fun t q => XS.ixor X.here hx rfl hd rfl q
theorem ishl (P : Pos Z y bytes maxL ret n0 p l e R s m args below meth c T h cells slots) {x z : Int32} (hd : decode bytes pc = .ok (.ishl, 1)) (hp : pc + 1 = pc') (k : Goes p e below s n0 kc ks Q (T.setTop (mkF m pc' L (.int (x <<< (z &&& 31)) :: S)))) : Goes p e below s n0 kc ks Q (T.setTop (mkF m pc L (.int z :: .int x :: S))) := by
  obtain ⟨⟨hx, rfl, rfl, hown, hnm, rfl, hlk, hZ, hn0⟩, locs, X, rfl, N⟩ := P
  subst hp
  exact k.via fun t q => XS.ishl X.here hx rfl hd rfl q
theorem ishr (P : Pos Z y bytes maxL ret n0 p l e R s m args below meth c T h cells slots) {x z : Int32} (hd : decode bytes pc = .ok (.ishr, 1)) (hp : pc + 1 = pc') (k : Goes p e below s n0 kc ks Q (T.setTop (mkF m pc' L (.int (x >>> (z &&& 31)) :: S)))) : Goes p e below s n0 kc ks Q (T.setTop (mkF m pc L (.int z :: .int x :: S))) := by
  obtain ⟨⟨hx, rfl, rfl, hown, hnm, rfl, hlk, hZ, hn0⟩, locs, X, rfl, N⟩ := P
  subst hp
  exact k.via fun t q => XS.ishr X.here hx rfl hd rfl q
theorem iushr (P : Pos Z y bytes maxL ret n0 p l e R s m args below meth c T h cells slots) {x z : Int32} (hd : decode bytes pc = .ok (.iushr, 1)) (hp : pc + 1 = pc') (k : Goes p e below s n0 kc ks Q (T.setTop (mkF m pc' L (.int ((x.toUInt32 >>> (z &&& 31).toUInt32).toInt32) :: S)))) : Goes p e below s n0 kc ks Q (T.setTop (mkF m pc L (.int z :: .int x :: S))) := by
  obtain ⟨⟨hx, rfl, rfl, hown, hnm, rfl, hlk, hZ, hn0⟩, locs, X, rfl, N⟩ := P
  subst hp
  exact k.via fun t q => XS.iushr X.here hx rfl hd rfl q
theorem ladd (P : Pos Z y bytes maxL ret n0 p l e R s m args below meth c T h cells slots) {x z : Int64} (hd : decode bytes pc = .ok (.ladd, 1)) (hp : pc + 1 = pc') (k : Goes p e below s n0 kc ks Q (T.setTop (mkF m pc' L (.long (x + z) :: S)))) : Goes p e below s n0 kc ks Q (T.setTop (mkF m pc L (.long z :: .long x :: S))) := by
  obtain ⟨⟨hx, rfl, rfl, hown, hnm, rfl, hlk, hZ, hn0⟩, locs, X, rfl, N⟩ := P
  subst hp
  exact k.via fun t q => XS.ladd X.here hx rfl hd rfl q
theorem lsub (P : Pos Z y bytes maxL ret n0 p l e R s m args below meth c T h cells slots) {x z : Int64} (hd : decode bytes pc = .ok (.lsub, 1)) (hp : pc + 1 = pc') (k : Goes p e below s n0 kc ks Q (T.setTop (mkF m pc' L (.long (x - z) :: S)))) : Goes p e below s n0 kc ks Q (T.setTop (mkF m pc L (.long z :: .long x :: S))) := by
  obtain ⟨⟨hx, rfl, rfl, hown, hnm, rfl, hlk, hZ, hn0⟩, locs, X, rfl, N⟩ := P
  subst hp
  exact k.via fun t q => XS.lsub X.here hx rfl hd rfl q
theorem lmul (P : Pos Z y bytes maxL ret n0 p l e R s m args below meth c T h cells slots) {x z : Int64} (hd : decode bytes pc = .ok (.lmul, 1)) (hp : pc + 1 = pc') (k : Goes p e below s n0 kc ks Q (T.setTop (mkF m pc' L (.long (x * z) :: S)))) : Goes p e below s n0 kc ks Q (T.setTop (mkF m pc L (.long z :: .long x :: S))) := by
  obtain ⟨⟨hx, rfl, rfl, hown, hnm, rfl, hlk, hZ, hn0⟩, locs, X, rfl, N⟩ := P
  subst hp
  exact k.via fun t q => XS.lmul X.here hx rfl hd rfl q
theorem land (P : Pos Z y bytes maxL ret n0 p l e R s m args below meth c T h cells slots) {x z : Int64} (hd : decode bytes pc = .ok (.land, 1)) (hp : pc + 1 = pc') (k : Goes p e below s n0 kc ks Q (T.setTop (mkF m pc' L (.long (x &&& z) :: S)))) : Goes p e below s n0 kc ks Q (T.setTop (mkF m pc L (.long z :: .long x :: S))) := by
  obtain ⟨⟨hx, rfl, rfl, hown, hnm, rfl, hlk, hZ, hn0⟩, locs, X, rfl, N⟩ := P
  subst hp
  exact k.via fun t q => XS.land X.here hx rfl hd rfl q
theorem lor (P : Pos Z y bytes maxL ret n0 p l e R s m args below meth c T h cells slots) {x z : Int64} (hd : decode bytes pc = .ok (.lor, 1)) (hp : pc + 1 = pc') (k : Goes p e below s n0 kc ks Q (T.setTop (mkF m pc' L (.long (x ||| z) :: S)))) : Goes p e below s n0 kc ks Q (T.setTop (mkF m pc L (.long z :: .long x :: S))) := by
  obtain ⟨⟨hx, rfl, rfl, hown, hnm, rfl, hlk, hZ, hn0⟩, locs, X, rfl, N⟩ := P
  subst hp
  exact k.via fun t q => XS.lor X.here hx rfl hd rfl q
theorem lxor (P : Pos Z y bytes maxL ret n0 p l e R s m args below meth c T h cells slots) {x z : Int64} (hd : decode bytes pc = .ok (.lxor, 1)) (hp : pc + 1 = pc') (k : Goes p e below s n0 kc ks Q (T.setTop (mkF m pc' L (.long (x ^^^ z) :: S)))) : Goes p e below s n0 kc ks Q (T.setTop (mkF m pc L (.long z :: .long x :: S))) := by
  obtain ⟨⟨hx, rfl, rfl, hown, hnm, rfl, hlk, hZ, hn0⟩, locs, X, rfl, N⟩ := P
  subst hp
  exact k.via fun t q => XS.lxor X.here hx rfl hd rfl q
theorem lshl (P : Pos Z y bytes maxL ret n0 p l e R s m args below meth c T h cells slots) {x : Int64} {z : Int32} (hd : decode bytes pc = .ok (.lshl, 1)) (hp : pc + 1 = pc') (k : Goes p e below s n0 kc ks Q (T.setTop (mkF m pc' L (.long (x <<< (z &&& 0x3f).toInt64) :: S)))) : Goes p e below s n0 kc ks Q (T.setTop (mkF m pc L (.int z :: .long x :: S))) := by
  obtain ⟨⟨hx, rfl, rfl, hown, hnm, rfl, hlk, hZ, hn0⟩, locs, X, rfl, N⟩ := P
  subst hp
  exact k.via fun t q => XS.lshl X.here hx rfl hd rfl q
theorem lshr (P : Pos Z y bytes maxL ret n0 p l e R s m args below meth c T h cells slots) {x : Int64} {z : Int32} (hd : decode bytes pc = .ok (.lshr, 1)) (hp : pc + 1 = pc') (k : Goes p e below s n0 kc ks Q (T.setTop (mkF m pc' L (.long (x >>> (z &&& 0x3f).toInt64) :: S)))) : Goes p e below s n0 kc ks Q (T.setTop (mkF m pc L (.int z :: .long x :: S))) := by
  obtain ⟨⟨hx, rfl, rfl, hown, hnm, rfl, hlk, hZ, hn0⟩, locs, X, rfl, N⟩ := P
  subst hp
  exact k.via fun t q => XS.lshr X.here hx rfl hd rfl q
theorem lushr (P : Pos Z y bytes maxL ret n0 p l e R s m args below meth c T h cells slots) {x : Int64} {z : Int32} (hd : decode bytes pc = .ok (.lushr, 1)) (hp : pc + 1 = pc') (k : Goes p e below s n0 kc ks Q (T.setTop (mkF m pc' L (.long ((x.toUInt64 >>> (z &&& 0x3f).toInt64.toUInt64).toInt64) :: S)))) : Goes p e below s n0 kc ks Q (T.setTop (mkF m pc L (.int z :: .long x :: S))) := by
  obtain ⟨⟨hx, rfl, rfl, hown, hnm, rfl, hlk, hZ, hn0⟩, locs, X, rfl, N⟩ := P
  subst hp
  exact k.via fun t q => XS.lushr X.here hx rfl hd rfl q
theorem idiv (P : Pos Z y bytes maxL ret n0 p l e R s m args below meth c T h cells slots) {x z : Int32} (hd : decode bytes pc = .ok (.idiv, 1)) (hz : z ≠ 0) (hp : pc + 1 = pc') (k : Goes p e below s n0 kc ks Q (T.setTop (mkF m pc' L (.int (x / z) :: S)))) : Goes p e below s n0 kc ks Q (T.setTop (mkF m pc L (.int z :: .int x :: S))) := by
  obtain ⟨⟨hx, rfl, rfl, hown, hnm, rfl, hlk, hZ, hn0⟩, locs, X, rfl, N⟩ := P
  subst hp
  exact k.via fun t q => XS.idiv X.here hx rfl hd rfl hz q
theorem irem (P : Pos Z y bytes maxL ret n0 p l e R s m args below meth c T h cells slots) {x z : Int32} (hd : decode bytes pc = .ok (.irem, 1)) (hz : z ≠ 0) (hp : pc + 1 = pc') (k : Goes p e below s n0 kc ks Q (T.setTop (mkF m pc' L (.int (x % z) :: S)))) : Goes p e below s n0 kc ks Q (T.setTop (mkF m pc L (.int z :: .int x :: S))) := by
  obtain ⟨⟨hx, rfl, rfl, hown, hnm, rfl, hlk, hZ, hn0⟩, locs, X, rfl, N⟩ := P
  subst hp
  exact k.via fun t q => iremM X hx rfl hd rfl hz q
theorem ldiv (P : Pos Z y bytes maxL ret n0 p l e R s m args below meth c T h cells slots) {x z : Int64} (hd : decode bytes pc = .ok (.ldiv, 1)) (hz : z ≠ 0) (hp : pc + 1 = pc') (k : Goes p e below s n0 kc ks Q (T.setTop (mkF m pc' L (.long (x / z) :: S)))) : Goes p e below s n0 kc ks Q (T.setTop (mkF m pc L (.long z :: .long x :: S))) := by
  obtain ⟨⟨hx, rfl, rfl, hown, hnm, rfl, hlk, hZ, hn0⟩, locs, X, rfl, N⟩ := P
  subst hp
  exact k.via fun t q => XS.ldiv X.here hx rfl hd rfl hz q
theorem lrem (P : Pos Z y bytes maxL ret n0 p l e R s m args below meth c T h cells slots) {x z : Int64} (hd : decode bytes pc = .ok (.lrem, 1)) (hz : z ≠ 0) (hp : pc + 1 = pc') (k : Goes p e below s n0 kc ks Q (T.setTop (mkF m pc' L (.long (x % z) :: S)))) : Goes p e below s n0 kc ks Q (T.setTop (mkF m pc L (.long z :: .long x :: S))) := by
  obtain ⟨⟨hx, rfl, rfl, hown, hnm, rfl, hlk, hZ, hn0⟩, locs, X, rfl, N⟩ := P
  subst hp
  exact k.via fun t q => XS.lrem X.here hx rfl hd rfl hz (by rw [lrem_mod]; exact q)
theorem ineg (P : Pos Z y bytes maxL ret n0 p l e R s m args below meth c T h cells slots) {x : Int32} (hd : decode bytes pc = .ok (.ineg, 1)) (hp : pc + 1 = pc') (k : Goes p e below s n0 kc ks Q (T.setTop (mkF m pc' L (.int (-x) :: S)))) : Goes p e below s n0 kc ks Q (T.setTop (mkF m pc L (.int x :: S))) := by
  obtain ⟨⟨hx, rfl, rfl, hown, hnm, rfl, hlk, hZ, hn0⟩, locs, X, rfl, N⟩ := P
  subst hp
  exact k.via fun t q => XS.ineg X.here hx rfl hd rfl q
theorem lneg (P : Pos Z y bytes maxL ret n0 p l e R s m args below meth c T h cells slots) {x : Int64} (hd : decode bytes pc = .ok (.lneg, 1)) (hp : pc + 1 = pc') (k : Goes p e below s n0 kc ks Q (T.setTop (mkF m pc' L (.long (-x) :: S)))) : Goes p e below s n0 kc ks Q (T.setTop (mkF m pc L (.long x :: S))) := by
  obtain ⟨⟨hx, rfl, rfl, hown, hnm, rfl, hlk, hZ, hn0⟩, locs, X, rfl, N⟩ := P
  subst hp
  exact k.via fun t q => XS.lneg X.here hx rfl hd rfl q
theorem i2l (P : Pos Z y bytes maxL ret n0 p l e R s m args below meth c T h cells slots) {x : Int32} (hd : decode bytes pc = .ok (.i2l, 1)) (hp : pc + 1 = pc') (k : Goes p e below s n0 kc ks Q (T.setTop (mkF m pc' L (.long (x.toInt64) :: S)))) : Goes p e below s n0 kc ks Q (T.setTop (mkF m pc L (.int x :: S))) := by
  obtain ⟨⟨hx, rfl, rfl, hown, hnm, rfl, hlk, hZ, hn0⟩, locs, X, rfl, N⟩ := P
  subst hp
  exact k.via fun t q => XS.i2l X.here hx rfl hd rfl q
theorem l2i (P : Pos Z y bytes maxL ret n0 p l e R s m args below meth c T h cells slots) {x : Int64} (hd : decode bytes pc = .ok (.l2i, 1)) (hp : pc + 1 = pc') (k : Goes p e below s n0 kc ks Q (T.setTop (mkF m pc' L (.int (x.toInt32) :: S)))) : Goes p e below s n0 kc ks Q (T.setTop (mkF m pc L (.long x :: S))) := by
  obtain ⟨⟨hx, rfl, rfl, hown, hnm, rfl, hlk, hZ, hn0⟩, locs, X, rfl, N⟩ := P
  subst hp
  exact k.via fun t q => XS.l2i X.here hx rfl hd rfl q
theorem i2b (P : Pos Z y bytes maxL ret n0 p l e R s m args below meth c T h cells slots) {x : Int32} (hd : decode bytes pc = .ok (.i2b, 1)) (hp : pc + 1 = pc') (k : Goes p e below s n0 kc ks Q (T.setTop (mkF m pc' L (.int (x.toInt8.toInt32) :: S)))) : Goes p e below s n0 kc ks Q (T.setTop (mkF m pc L (.int x :: S))) := by
  obtain ⟨⟨hx, rfl, rfl, hown, hnm, rfl, hlk, hZ, hn0⟩, locs, X, rfl, N⟩ := P
  subst hp
  exact k.via fun t q => XS.i2b X.here hx rfl hd rfl q
theorem i2s (P : Pos Z y bytes maxL ret n0 p l e R s m args below meth c T h cells slots) {x : Int32} (hd : decode bytes pc = .ok (.i2s, 1)) (hp : pc + 1 = pc') (k : Goes p e below s n0 kc ks Q (T.setTop (mkF m pc' L (.int (x.toInt16.toInt32) :: S)))) : Goes p e below s n0 kc ks Q (T.setTop (mkF m pc L (.int x :: S))) := by
  obtain ⟨⟨hx, rfl, rfl, hown, hnm, rfl, hlk, hZ, hn0⟩, locs, X, rfl, N⟩ := P
  subst hp
  exact k.via fun t q => XS.i2s X.here hx rfl hd rfl q
theorem i2c (P : Pos Z y bytes maxL ret n0 p l e R s m args below meth c T h cells slots) {x : Int32} (hd : decode bytes pc = .ok (.i2c, 1)) (hp : pc + 1 = pc') (k : Goes p e below s n0 kc ks Q (T.setTop (mkF m pc' L (.int (x.toUInt32.toUInt16.toUInt32.toInt32) :: S)))) : Goes p e below s n0 kc ks Q (T.setTop (mkF m pc L (.int x :: S))) := by
  obtain ⟨⟨hx, rfl, rfl, hown, hnm, rfl, hlk, hZ, hn0⟩, locs, X, rfl, N⟩ := P
  subst hp
  exact k.via fun t q => XS.i2c X.here hx rfl hd rfl q
theorem lcmp (P : Pos Z y bytes maxL ret n0 p l e R s m args below meth c T h cells slots) {x z : Int64} (hd : decode bytes pc = .ok (.lcmp, 1)) (hp : pc + 1 = pc') (k : Goes p e below s n0 kc ks Q (T.setTop (mkF m pc' L (.int (lcmpW x z) :: S)))) : Goes p e below s n0 kc ks Q (T.setTop (mkF m pc L (.long z :: .long x :: S))) := by
  obtain ⟨⟨hx, rfl, rfl, hown, hnm, rfl, hlk, hZ, hn0⟩, locs, X, rfl, N⟩ := P
  subst hp
  exact k.via fun t q => XS.lcmp X.here hx rfl hd rfl q
theorem iinc (P : Pos Z y bytes maxL ret n0 p l e R s m args below meth c T h cells slots) {k : Nat} {i : Int} {x v' : Int32} (hd : decode bytes pc = .ok (.iinc k i, 3)) (hl : L[k]? = some (.val (.int x))) (hv : x + Int32.ofInt i = v') (hl' : storeLocals L k (.int v') = some L') (hp : pc + 3 = pc') (k : Goes p e below s n0 kc ks Q (T.setTop (mkF m pc' L' S))) : Goes p e below s n0 kc ks Q (T.setTop (mkF m pc L S)) := by
  obtain ⟨⟨hx, rfl, rfl, hown, hnm, rfl, hlk, hZ, hn0⟩, locs, X, rfl, N⟩ := P
  subst hp hv
  exact k.via fun t q => XS.iinc X.here hx rfl hd hl hl' q
theorem dup (P : Pos Z y bytes maxL ret n0 p l e R s m args below meth c T h cells slots) {v : Value} (hd : decode bytes pc = .ok (.dup, 1)) (hc : v.category = 1) (hp : pc + 1 = pc') (k : Goes p e below s n0 kc ks Q (T.setTop (mkF m pc' L (v :: v :: S)))) : Goes p e below s n0 kc ks Q (T.setTop (mkF m pc L (v :: S))) := by
  obtain ⟨⟨hx, rfl, rfl, hown, hnm, rfl, hlk, hZ, hn0⟩, locs, X, rfl, N⟩ := P
  subst hp
  exact k.via fun t q => XS.dup X.here hx rfl hd rfl hc q
theorem pop (P : Pos Z y bytes maxL ret n0 p l e R s m args below meth c T h cells slots) {v : Value} (hd : decode bytes pc = .ok (.pop, 1)) (hc : v.category = 1) (hp : pc + 1 = pc') (k : Goes p e below s n0 kc ks Q (T.setTop (mkF m pc' L S))) : Goes p e below s n0 kc ks Q (T.setTop (mkF m pc L (v :: S))) := by
  obtain ⟨⟨hx, rfl, rfl, hown, hnm, rfl, hlk, hZ, hn0⟩, locs, X, rfl, N⟩ := P
  subst hp
  exact k.via fun t q => XS.pop X.here hx rfl hd rfl hc q
theorem dupX1 (P : Pos Z y bytes maxL ret n0 p l e R s m args below meth c T h cells slots) {v u : Value} (hd : decode bytes pc = .ok (.dup_x1, 1)) (hc : v.category = 1) (hc' : u.category = 1) (hp : pc + 1 = pc') (k : Goes p e below s n0 kc ks Q (T.setTop (mkF m pc' L (v :: u :: v :: S)))) : Goes p e below s n0 kc ks Q (T.setTop (mkF m pc L (v :: u :: S))) := by
  obtain ⟨⟨hx, rfl, rfl, hown, hnm, rfl, hlk, hZ, hn0⟩, locs, X, rfl, N⟩ := P
  subst hp
  exact k.via fun t q => XS.dupX1 X.here hx rfl hd rfl hc hc' q
theorem dup2 (P : Pos Z y bytes maxL ret n0 p l e R s m args below meth c T h cells slots) {v u : Value} (hd : decode bytes pc = .ok (.dup2, 1)) (hc : v.category = 1) (hc' : u.category = 1) (hp : pc + 1 = pc') (k : Goes p e below s n0 kc ks Q (T.setTop (mkF m pc' L (v :: u :: v :: u :: S)))) : Goes p e below s n0 kc ks Q (T.setTop (mkF m pc L (v :: u :: S))) := by
  obtain ⟨⟨hx, rfl, rfl, hown, hnm, rfl, hlk, hZ, hn0⟩, locs, X, rfl, N⟩ := P
  subst hp
  exact k.via fun t q => XT.dup2 X.here hx rfl hd rfl hc hc' q
theorem pop2L (P : Pos Z y bytes maxL ret n0 p l e R s m args below meth c T h cells slots) {v : Int64} (hd : decode bytes pc = .ok (.pop2, 1)) (hp : pc + 1 = pc') (k : Goes p e below s n0 kc ks Q (T.setTop (mkF m pc' L S))) : Goes p e below s n0 kc ks Q (T.setTop (mkF m pc L (.long v :: S))) := by
  obtain ⟨⟨hx, rfl, rfl, hown, hnm, rfl, hlk, hZ, hn0⟩, locs, X, rfl, N⟩ := P
  subst hp
  refine k.via fun t q => ?_
  jvm_step X.here [X.here.top, hx, hd, Value.category]
  exact q
theorem goto (P : Pos Z y bytes maxL ret n0 p l e R s m args below meth c T h cells slots) {o : Int} (hd : decode bytes pc = .ok (.goto o, 3)) (ho : 0 ≤ (pc : Int) + o) (hp : ((pc : Int) + o).toNat = pc') (k : Goes p e below s n0 kc ks Q (T.setTop (mkF m pc' L S))) : Goes p e below s n0 kc ks Q (T.setTop (mkF m pc L S)) := by
  obtain ⟨⟨hx, rfl, rfl, hown, hnm, rfl, hlk, hZ, hn0⟩, locs, X, rfl, N⟩ := P
  exact k.via fun t q => XS.goto X.here hx rfl (pc0 := pc) (pc' := pc') rfl hd ho hp q
theorem icmp_lt (P : Pos Z y bytes maxL ret n0 p l e R s m args below meth c T h cells slots) {x z : Int32} {o : Int} (hd : decode bytes pc = .ok (.if_icmp .lt o, 3)) (ho : 0 ≤ (pc : Int) + o) (hY : ((pc : Int) + o).toNat = pcY) (hN : pc + 3 = pcN) (kY : x < z → Goes p e below s n0 kc ks Q (T.setTop (mkF m pcY L S))) (kN : ¬ x < z → Goes p e below s n0 kc ks Q (T.setTop (mkF m pcN L S))) : Goes p e below s n0 kc ks Q (T.setTop (mkF m pc L (.int z :: .int x :: S))) := by
  obtain ⟨⟨hx, rfl, rfl, hown, hnm, rfl, hlk, hZ, hn0⟩, locs, X, rfl, N⟩ := P
  by_cases q : x < z
  · exact (kY q).via fun t r => XS.icmpYes X.here hx rfl (pc0 := pc) (pc' := pcY) rfl hd rfl (tlt q).1 ho hY r
  · subst hN
    exact (kN q).via fun t r => XS.icmpNo X.here hx rfl hd rfl (flt q).1 r
theorem if_lt (P : Pos Z y bytes maxL ret n0 p l e R s m args below meth c T h cells slots) {x : Int32} {o : Int} (hd : decode bytes pc = .ok (.ifCond .lt o, 3)) (ho : 0 ≤ (pc : Int) + o) (hY : ((pc : Int) + o).toNat = pcY) (hN : pc + 3 = pcN) (kY : x < 0 → Goes p e below s n0 kc ks Q (T.setTop (mkF m pcY L S))) (kN : ¬ x < 0 → Goes p e below s n0 kc ks Q (T.setTop (mkF m pcN L S))) : Goes p e below s n0 kc ks Q (T.setTop (mkF m pc L (.int x :: S))) := by
  obtain ⟨⟨hx, rfl, rfl, hown, hnm, rfl, hlk, hZ, hn0⟩, locs, X, rfl, N⟩ := P
  by_cases q : x < 0
  · exact (kY q).via fun t r => XS.ifYes X.here hx rfl (pc0 := pc) (pc' := pcY) rfl hd rfl ((if0 _ _).trans (tlt q).1) ho hY r
  · subst hN
    exact (kN q).via fun t r => XS.ifNo X.here hx rfl hd rfl ((if0 _ _).trans (flt q).1) r
theorem icmp_ge (P : Pos Z y bytes maxL ret n0 p l e R s m args below meth c T h cells slots) {x z : Int32} {o : Int} (hd : decode bytes pc = .ok (.if_icmp .ge o, 3)) (ho : 0 ≤ (pc : Int) + o) (hY : ((pc : Int) + o).toNat = pcY) (hN : pc + 3 = pcN) (kY : ¬ x < z → Goes p e below s n0 kc ks Q (T.setTop (mkF m pcY L S))) (kN : x < z → Goes p e below s n0 kc ks Q (T.setTop (mkF m pcN L S))) : Goes p e below s n0 kc ks Q (T.setTop (mkF m pc L (.int z :: .int x :: S))) := by
  obtain ⟨⟨hx, rfl, rfl, hown, hnm, rfl, hlk, hZ, hn0⟩, locs, X, rfl, N⟩ := P
  by_cases q : x < z
  · subst hN
    exact (kN q).via fun t r => XS.icmpNo X.here hx rfl hd rfl (tlt q).2.1 r
  · exact (kY q).via fun t r => XS.icmpYes X.here hx rfl (pc0 := pc) (pc' := pcY) rfl hd rfl (flt q).2.1 ho hY r
theorem if_ge (P : Pos Z y bytes maxL ret n0 p l e R s m args below meth c T h cells slots) {x : Int32} {o : Int} (hd : decode bytes pc = .ok (.ifCond .ge o, 3)) (ho : 0 ≤ (pc : Int) + o) (hY : ((pc : Int) + o).toNat = pcY) (hN : pc + 3 = pcN) (kY : ¬ x < 0 → Goes p e below s n0 kc ks Q (T.setTop (mkF m pcY L S))) (kN : x < 0 → Goes p e below s n0 kc ks Q (T.setTop (mkF m pcN L S))) : Goes p e below s n0 kc ks Q (T.setTop (mkF m pc L (.int x :: S))) := by
  obtain ⟨⟨hx, rfl, rfl, hown, hnm, rfl, hlk, hZ, hn0⟩, locs, X, rfl, N⟩ := P
  by_cases q : x < 0
  · subst hN
    exact (kN q).via fun t r => XS.ifNo X.here hx rfl hd rfl ((if0 _ _).trans (tlt q).2.1) r
  · exact (kY q).via fun t r => XS.ifYes X.here hx rfl (pc0 := pc) (pc' := pcY) rfl hd rfl ((if0 _ _).trans (flt q).2.1) ho hY r
theorem icmp_gt (P : Pos Z y bytes maxL ret n0 p l e R s m args below meth c T h cells slots) {x z : Int32} {o : Int} (hd : decode bytes pc = .ok (.if_icmp .gt o, 3)) (ho : 0 ≤ (pc : Int) + o) (hY : ((pc : Int) + o).toNat = pcY) (hN : pc + 3 = pcN) (kY : z < x → Goes p e below s n0 kc ks Q (T.setTop (mkF m pcY L S))) (kN : ¬ z < x → Goes p e below s n0 kc ks Q (T.setTop (mkF m pcN L S))) : Goes p e below s n0 kc ks Q (T.setTop (mkF m pc L (.int z :: .int x :: S))) := by
  obtain ⟨⟨hx, rfl, rfl, hown, hnm, rfl, hlk, hZ, hn0⟩, locs, X, rfl, N⟩ := P
  by_cases q : z < x
  · exact (kY q).via fun t r => XS.icmpYes X.here hx rfl (pc0 := pc) (pc' := pcY) rfl hd rfl (tlt q).2.2.1 ho hY r
  · subst hN
    exact (kN q).via fun t r => XS.icmpNo X.here hx rfl hd rfl (flt q).2.2.1 r
theorem if_gt (P : Pos Z y bytes maxL ret n0 p l e R s m args below meth c T h cells slots) {x : Int32} {o : Int} (hd : decode bytes pc = .ok (.ifCond .gt o, 3)) (ho : 0 ≤ (pc : Int) + o) (hY : ((pc : Int) + o).toNat = pcY) (hN : pc + 3 = pcN) (kY : 0 < x → Goes p e below s n0 kc ks Q (T.setTop (mkF m pcY L S))) (kN : ¬ 0 < x → Goes p e below s n0 kc ks Q (T.setTop (mkF m pcN L S))) : Goes p e below s n0 kc ks Q (T.setTop (mkF m pc L (.int x :: S))) := by
  obtain ⟨⟨hx, rfl, rfl, hown, hnm, rfl, hlk, hZ, hn0⟩, locs, X, rfl, N⟩ := P
  by_cases q : 0 < x
  · exact (kY q).via fun t r => XS.ifYes X.here hx rfl (pc0 := pc) (pc' := pcY) rfl hd rfl ((if0 _ _).trans (tlt q).2.2.1) ho hY r
  · subst hN
    exact (kN q).via fun t r => XS.ifNo X.here hx rfl hd rfl ((if0 _ _).trans (flt q).2.2.1) r
theorem icmp_le (P : Pos Z y bytes maxL ret n0 p l e R s m args below meth c T h cells slots) {x z : Int32} {o : Int} (hd : decode bytes pc = .ok (.if_icmp .le o, 3)) (ho : 0 ≤ (pc : Int) + o) (hY : ((pc : Int) + o).toNat = pcY) (hN : pc + 3 = pcN) (kY : ¬ z < x → Goes p e below s n0 kc ks Q (T.setTop (mkF m pcY L S))) (kN : z < x → Goes p e below s n0 kc ks Q (T.setTop (mkF m pcN L S))) : Goes p e below s n0 kc ks Q (T.setTop (mkF m pc L (.int z :: .int x :: S))) := by
  obtain ⟨⟨hx, rfl, rfl, hown, hnm, rfl, hlk, hZ, hn0⟩, locs, X, rfl, N⟩ := P
  by_cases q : z < x
  · subst hN
    exact (kN q).via fun t r => XS.icmpNo X.here hx rfl hd rfl (tlt q).2.2.2 r
  · exact (kY q).via fun t r => XS.icmpYes X.here hx rfl (pc0 := pc) (pc' := pcY) rfl hd rfl (flt q).2.2.2 ho hY r
theorem if_le (P : Pos Z y bytes maxL ret n0 p l e R s m args below meth c T h cells slots) {x : Int32} {o : Int} (hd : decode bytes pc = .ok (.ifCond .le o, 3)) (ho : 0 ≤ (pc : Int) + o) (hY : ((pc : Int) + o).toNat = pcY) (hN : pc + 3 = pcN) (kY : ¬ 0 < x → Goes p e below s n0 kc ks Q (T.setTop (mkF m pcY L S))) (kN : 0 < x → Goes p e below s n0 kc ks Q (T.setTop (mkF m pcN L S))) : Goes p e below s n0 kc ks Q (T.setTop (mkF m pc L (.int x :: S))) := by
  obtain ⟨⟨hx, rfl, rfl, hown, hnm, rfl, hlk, hZ, hn0⟩, locs, X, rfl, N⟩ := P
  by_cases q : 0 < x
  · subst hN
    exact (kN q).via fun t r => XS.ifNo X.here hx rfl hd rfl ((if0 _ _).trans (tlt q).2.2.2) r
  · exact (kY q).via fun t r => XS.ifYes X.here hx rfl (pc0 := pc) (pc' := pcY) rfl hd rfl ((if0 _ _).trans (flt q).2.2.2) ho hY r
theorem icmp_eq (P : Pos Z y bytes maxL ret n0 p l e R s m args below meth c T h cells slots) {x z : Int32} {o : Int} (hd : decode bytes pc = .ok (.if_icmp .eq o, 3)) (ho : 0 ≤ (pc : Int) + o) (hY : ((pc : Int) + o).toNat = pcY) (hN : pc + 3 = pcN) (kY : x = z → Goes p e below s n0 kc ks Q (T.setTop (mkF m pcY L S))) (kN : ¬ x = z → Goes p e below s n0 kc ks Q (T.setTop (mkF m pcN L S))) : Goes p e below s n0 kc ks Q (T.setTop (mkF m pc L (.int z :: .int x :: S))) := by
  obtain ⟨⟨hx, rfl, rfl, hown, hnm, rfl, hlk, hZ, hn0⟩, locs, X, rfl, N⟩ := P
  by_cases q : x = z
  · exact (kY q).via fun t r => XS.icmpYes X.here hx rfl (pc0 := pc) (pc' := pcY) rfl hd rfl (teq q).1 ho hY r
  · subst hN
    exact (kN q).via fun t r => XS.icmpNo X.here hx rfl hd rfl (feq q).1 r
theorem if_eq (P : Pos Z y bytes maxL ret n0 p l e R s m args below meth c T h cells slots) {x : Int32} {o : Int} (hd : decode bytes pc = .ok (.ifCond .eq o, 3)) (ho : 0 ≤ (pc : Int) + o) (hY : ((pc : Int) + o).toNat = pcY) (hN : pc + 3 = pcN) (kY : x = 0 → Goes p e below s n0 kc ks Q (T.setTop (mkF m pcY L S))) (kN : ¬ x = 0 → Goes p e below s n0 kc ks Q (T.setTop (mkF m pcN L S))) : Goes p e below s n0 kc ks Q (T.setTop (mkF m pc L (.int x :: S))) := by
  obtain ⟨⟨hx, rfl, rfl, hown, hnm, rfl, hlk, hZ, hn0⟩, locs, X, rfl, N⟩ := P
  by_cases q : x = 0
  · exact (kY q).via fun t r => XS.ifYes X.here hx rfl (pc0 := pc) (pc' := pcY) rfl hd rfl ((if0 _ _).trans (teq q).1) ho hY r
  · subst hN
    exact (kN q).via fun t r => XS.ifNo X.here hx rfl hd rfl ((if0 _ _).trans (feq q).1) r
theorem icmp_ne (P : Pos Z y bytes maxL ret n0 p l e R s m args below meth c T h cells slots) {x z : Int32} {o : Int} (hd : decode bytes pc = .ok (.if_icmp .ne o, 3)) (ho : 0 ≤ (pc : Int) + o) (hY : ((pc : Int) + o).toNat = pcY) (hN : pc + 3 = pcN) (kY : ¬ x = z → Goes p e below s n0 kc ks Q (T.setTop (mkF m pcY L S))) (kN : x = z → Goes p e below s n0 kc ks Q (T.setTop (mkF m pcN L S))) : Goes p e below s n0 kc ks Q (T.setTop (mkF m pc L (.int z :: .int x :: S))) := by
  obtain ⟨⟨hx, rfl, rfl, hown, hnm, rfl, hlk, hZ, hn0⟩, locs, X, rfl, N⟩ := P
  by_cases q : x = z
  · subst hN
    exact (kN q).via fun t r => XS.icmpNo X.here hx rfl hd rfl (teq q).2 r
  · exact (kY q).via fun t r => XS.icmpYes X.here hx rfl (pc0 := pc) (pc' := pcY) rfl hd rfl (feq q).2 ho hY r
theorem if_ne (P : Pos Z y bytes maxL ret n0 p l e R s m args below meth c T h cells slots) {x : Int32} {o : Int} (hd : decode bytes pc = .ok (.ifCond .ne o, 3)) (ho : 0 ≤ (pc : Int) + o) (hY : ((pc : Int) + o).toNat = pcY) (hN : pc + 3 = pcN) (kY : ¬ x = 0 → Goes p e below s n0 kc ks Q (T.setTop (mkF m pcY L S))) (kN : x = 0 → Goes p e below s n0 kc ks Q (T.setTop (mkF m pcN L S))) : Goes p e below s n0 kc ks Q (T.setTop (mkF m pc L (.int x :: S))) := by
  obtain ⟨⟨hx, rfl, rfl, hown, hnm, rfl, hlk, hZ, hn0⟩, locs, X, rfl, N⟩ := P
  by_cases q : x = 0
  · subst hN
    exact (kN q).via fun t r => XS.ifNo X.here hx rfl hd rfl ((if0 _ _).trans (teq q).2) r
  · exact (kY q).via fun t r => XS.ifYes X.here hx rfl (pc0 := pc) (pc' := pcY) rfl hd rfl ((if0 _ _).trans (feq q).2) ho hY r
theorem lif_lt (P : Pos Z y bytes maxL ret n0 p l e R s m args below meth c T h cells slots) {x z : Int64} {o : Int} (hd : decode bytes pc = .ok (.ifCond .lt o, 3)) (ho : 0 ≤ (pc : Int) + o) (hY : ((pc : Int) + o).toNat = pcY) (hN : pc + 3 = pcN) (kY : x < z → Goes p e below s n0 kc ks Q (T.setTop (mkF m pcY L S))) (kN : ¬ x < z → Goes p e below s n0 kc ks Q (T.setTop (mkF m pcN L S))) : Goes p e below s n0 kc ks Q (T.setTop (mkF m pc L (.int (lcmpW x z) :: S))) :=
  if_lt P hd ho hY hN (fun q => kY ((lw_lt x z).mp q)) (fun q => kN (mt (lw_lt x z).mpr q))
theorem lif_ge (P : Pos Z y bytes maxL ret n0 p l e R s m args below meth c T h cells slots) {x z : Int64} {o : Int} (hd : decode bytes pc = .ok (.ifCond .ge o, 3)) (ho : 0 ≤ (pc : Int) + o) (hY : ((pc : Int) + o).toNat = pcY) (hN : pc + 3 = pcN) (kY : ¬ x < z → Goes p e below s n0 kc ks Q (T.setTop (mkF m pcY L S))) (kN : x < z → Goes p e below s n0 kc ks Q (T.setTop (mkF m pcN L S))) : Goes p e below s n0 kc ks Q (T.setTop (mkF m pc L (.int (lcmpW x z) :: S))) :=
  if_ge P hd ho hY hN (fun q => kY (mt (lw_lt x z).mpr q)) (fun q => kN ((lw_lt x z).mp q))
theorem lif_gt (P : Pos Z y bytes maxL ret n0 p l e R s m args below meth c T h cells slots) {x z : Int64} {o : Int} (hd : decode bytes pc = .ok (.ifCond .gt o, 3)) (ho : 0 ≤ (pc : Int) + o) (hY : ((pc : Int) + o).toNat = pcY) (hN : pc + 3 = pcN) (kY : z < x → Goes p e below s n0 kc ks Q (T.setTop (mkF m pcY L S))) (kN : ¬ z < x → Goes p e below s n0 kc ks Q (T.setTop (mkF m pcN L S))) : Goes p e below s n0 kc ks Q (T.setTop (mkF m pc L (.int (lcmpW x z) :: S))) :=
  if_gt P hd ho hY hN (fun q => kY ((lw_gt x z).mp q)) (fun q => kN (mt (lw_gt x z).mpr q))
theorem lif_le (P : Pos Z y bytes maxL ret n0 p l e R s m args below meth c T h cells slots) {x z : Int64} {o : Int} (hd : decode bytes pc = .ok (.ifCond .le o, 3)) (ho : 0 ≤ (pc : Int) + o) (hY : ((pc : Int) + o).toNat = pcY) (hN : pc + 3 = pcN) (kY : ¬ z < x → Goes p e below s n0 kc ks Q (T.setTop (mkF m pcY L S))) (kN : z < x → Goes p e below s n0 kc ks Q (T.setTop (mkF m pcN L S))) : Goes p e below s n0 kc ks Q (T.setTop (mkF m pc L (.int (lcmpW x z) :: S))) :=
  if_le P hd ho hY hN (fun q => kY (mt (lw_gt x z).mpr q)) (fun q => kN ((lw_gt x z).mp q))
theorem lif_eq (P : Pos Z y bytes maxL ret n0 p l e R s m args below meth c T h cells slots) {x z : Int64} {o : Int} (hd : decode bytes pc = .ok (.ifCond .eq o, 3)) (ho : 0 ≤ (pc : Int) + o) (hY : ((pc : Int) + o).toNat = pcY) (hN : pc + 3 = pcN) (kY : x = z → Goes p e below s n0 kc ks Q (T.setTop (mkF m pcY L S))) (kN : ¬ x = z → Goes p e below s n0 kc ks Q (T.setTop (mkF m pcN L S))) : Goes p e below s n0 kc ks Q (T.setTop (mkF m pc L (.int (lcmpW x z) :: S))) :=
  if_eq P hd ho hY hN (fun q => kY ((lw_eq x z).mp q)) (fun q => kN (mt (lw_eq x z).mpr q))
theorem lif_ne (P : Pos Z y bytes maxL ret n0 p l e R s m args below meth c T h cells slots) {x z : Int64} {o : Int} (hd : decode bytes pc = .ok (.ifCond .ne o, 3)) (ho : 0 ≤ (pc : Int) + o) (hY : ((pc : Int) + o).toNat = pcY) (hN : pc + 3 = pcN) (kY : ¬ x = z → Goes p e below s n0 kc ks Q (T.setTop (mkF m pcY L S))) (kN : x = z → Goes p e below s n0 kc ks Q (T.setTop (mkF m pcN L S))) : Goes p e below s n0 kc ks Q (T.setTop (mkF m pc L (.int (lcmpW x z) :: S))) :=
  if_ne P hd ho hY hN (fun q => kY (mt (lw_eq x z).mpr q)) (fun q => kN ((lw_eq x z).mp q))
theorem ldcI (P : Pos Z y bytes maxL ret n0 p l e R s m args below meth c T h cells slots) {i : Nat} {v : Int32} (w : (Jvm.Cond.constant y.cls i v).before a0 Z = true) (hd : decode bytes pc = .ok (.ldc i, 2)) (hp : pc + 2 = pc') (k : Goes p e below s n0 kc ks Q (T.setTop (mkF m pc' L (.int v :: S)))) : Goes p e below s n0 kc ks Q (T.setTop (mkF m pc L S)) := by
  obtain ⟨⟨hx, rfl, rfl, hown, hnm, rfl, hlk, hZ, hn0⟩, locs, X, rfl, N⟩ := P
  subst hp
  exact k.via fun t q => X.ldcInt hx hown (mvT hZ w) (g := mkF m pc L S) rfl hd _ q
theorem ldc2 (P : Pos Z y bytes maxL ret n0 p l e R s m args below meth c T h cells slots) {i : Nat} {v : Int64} (w : (Jvm.Cond.constantLong y.cls i v).before a0 Z = true) (hd : decode bytes pc = .ok (.ldc2_w i, 3)) (hp : pc + 3 = pc') (k : Goes p e below s n0 kc ks Q (T.setTop (mkF m pc' L (.long v :: S)))) : Goes p e below s n0 kc ks Q (T.setTop (mkF m pc L S)) := by
  obtain ⟨⟨hx, rfl, rfl, hown, hnm, rfl, hlk, hZ, hn0⟩, locs, X, rfl, N⟩ := P
  subst hp
  exact k.via fun t q => X.ldc2Long hx hown (mvT hZ w) (g := mkF m pc L S) rfl hd _ q
theorem ireturn (P : Pos Z y bytes maxL ret n0 p l e R s m args below meth c T h cells slots) {z : Int32} (hr' : ret = some .int) (hd : decode bytes pc = .ok (.ireturn, 1)) (hk1 : cells ≤ kc) (hk2 : slots ≤ ks) (hQ : Q (some (.int z)) h) : Goes p e below s n0 kc ks Q (T.setTop (mkF m pc L (.int z :: S))) := by
  obtain ⟨⟨hx, rfl, rfl, hown, hnm, rfl, hlk, hZ, hn0⟩, locs, X, rfl, N⟩ := P
  obtain ⟨fs, hr, hrun, hended, hW, hsame⟩ := X.leave (v := some (.int z)) (fun h => by rw [hr'] at h; cases h) (hlocks := hlk)
  exact ⟨_, _, retOut X hx hr' rfl (Or.inl ⟨rfl, Or.inl rfl, _, rfl⟩) hd hr, hrun, hended, _, _, rfl, ⟨hQ, N⟩, ⟨_, rfl⟩, hW, hsame.mono hk1 hk2⟩
theorem ireturnN (P : Pos Z y bytes maxL ret n0 p l e R s m args below meth c T h cells slots) {z z' : Int32} {t : FieldType} (hr' : ret = some t) (ht : t = .boolean ∨ t = .byte ∨ t = .char ∨ t = .short) (hz : nar t z = z') (hd : decode bytes pc = .ok (.ireturn, 1)) (hk1 : cells ≤ kc) (hk2 : slots ≤ ks) (hQ : Q (some (.int z')) h) : Goes p e below s n0 kc ks Q (T.setTop (mkF m pc L (.int z :: S))) := by
  obtain ⟨⟨hx, rfl, rfl, hown, hnm, rfl, hlk, hZ, hn0⟩, locs, X, rfl, N⟩ := P
  subst hz
  obtain ⟨fs, hr, hrun, hended, hW, hsame⟩ := X.leave (v := some (.int (nar t z))) (fun h => by rw [hr'] at h; cases h) (hlocks := hlk)
  exact ⟨_, _, retN X hx hr' ht hd hr, hrun, hended, _, _, rfl, ⟨hQ, N⟩, ⟨_, rfl⟩, hW, hsame.mono hk1 hk2⟩
theorem lreturn (P : Pos Z y bytes maxL ret n0 p l e R s m args below meth c T h cells slots) {z : Int64} (hr' : ret = some .long) (hd : decode bytes pc = .ok (.lreturn, 1)) (hk1 : cells ≤ kc) (hk2 : slots ≤ ks) (hQ : Q (some (.long z)) h) : Goes p e below s n0 kc ks Q (T.setTop (mkF m pc L (.long z :: S))) := by
  obtain ⟨⟨hx, rfl, rfl, hown, hnm, rfl, hlk, hZ, hn0⟩, locs, X, rfl, N⟩ := P
  obtain ⟨fs, hr, hrun, hended, hW, hsame⟩ := X.leave (v := some (.long z)) (fun h => by rw [hr'] at h; cases h) (hlocks := hlk)
  exact ⟨_, _, retOut X hx hr' rfl (Or.inr (Or.inl ⟨rfl, rfl, _, rfl⟩)) hd hr, hrun, hended, _, _, rfl, ⟨hQ, N⟩, ⟨_, rfl⟩, hW, hsame.mono hk1 hk2⟩
theorem areturn (P : Pos Z y bytes maxL ret n0 p l e R s m args below meth c T h cells slots) {v : Value} {t : FieldType} (hr' : ret = some t) (ht : t.isReference = true) (hv : v.isRef = true) (hn : narrow t v = v) (hd : decode bytes pc = .ok (.areturn, 1)) (hk1 : cells ≤ kc) (hk2 : slots ≤ ks) (hQ : Q (some v) h) : Goes p e below s n0 kc ks Q (T.setTop (mkF m pc L (v :: S))) := by
  obtain ⟨⟨hx, rfl, rfl, hown, hnm, rfl, hlk, hZ, hn0⟩, locs, X, rfl, N⟩ := P
  obtain ⟨fs, hr, hrun, hended, hW, hsame⟩ := X.leave (v := some v) (fun h => by rw [hr'] at h; cases h) (hlocks := hlk)
  exact ⟨_, _, retOut X hx hr' hn (Or.inr (Or.inr (Or.inr (Or.inr ⟨rfl, ht, hv⟩)))) hd hr, hrun, hended, _, _, rfl, ⟨hQ, N⟩, ⟨_, rfl⟩, hW, hsame.mono hk1 hk2⟩
theorem return_ (P : Pos Z y bytes maxL ret n0 p l e R s m args below meth c T h cells slots) (hr' : ret = none) (hd : decode bytes pc = .ok (.return_, 1)) (hk1 : cells ≤ kc) (hk2 : slots ≤ ks) (hQ : Q none h) : Goes p e below s n0 kc ks Q (T.setTop (mkF m pc L [])) := by
  obtain ⟨⟨hx, rfl, rfl, hown, hnm, rfl, hlk, hZ, hn0⟩, locs, X, rfl, N⟩ := P
  obtain ⟨fs, hr, hrun, hended, hW, hsame⟩ := X.leave (v := none) (fun _ => rfl) (hlocks := hlk)
  exact ⟨_, _, X.returnOut hx hr' hd hr, hrun, hended, _, _, rfl, ⟨hQ, N⟩, ⟨_, rfl⟩, hW, hsame.mono hk1 hk2⟩
theorem getF (P : Pos Z y bytes maxL ret n0 p l e R s m args below meth c T h cells slots) {R0 O n d host : String} {i : Nat} {a : Addr} {v : Value} (w : (Jvm.Cond.fieldLink y.cls i R0 n d).before a0 Z = true ∨ (Jvm.Cond.fieldLinkNest y.cls i R0 n d host).before a0 Z = true) (via : Via Z R0 O n d) (F : Fld Z h a O n d v) (hd : decode bytes pc = .ok (.getfield i, 3)) (hp : pc + 3 = pc') (k : ∀ T', Pos Z y bytes maxL ret n0 p l e R s m args below meth c T' h cells slots → Goes p e below s n0 kc ks Q (T'.setTop (mkF m pc' L (v :: S)))) : Goes p e below s n0 kc ks Q (T.setTop (mkF m pc L (.ref a :: S))) := by
  obtain ⟨⟨hx, rfl, rfl, hown, hnm, rfl, hlk, hZ, hn0⟩, locs, X, rfl, N⟩ := P
  subst hp
  obtain ⟨T', X', e', st⟩ := Jvm.RoadKit.getF X hx hZ hown w via rfl F (g := mkF m pc L (.ref a :: S)) rfl rfl hd
  exact (k T' ⟨⟨hx, rfl, rfl, hown, hnm, rfl, hlk, hZ, hn0⟩, locs, X', e', N⟩).via st
theorem putF (P : Pos Z y bytes maxL ret n0 p l e R s m args below meth c T h cells slots) {R0 O n d host C : String} {i kk : Nat} {ty : FieldType} {a : Addr} {v old : Value} (w : (Jvm.Cond.fieldLink y.cls i R0 n d).before a0 Z = true ∨ (Jvm.Cond.fieldLinkNest y.cls i R0 n d host).before a0 Z = true) (via : Via Z R0 O n d) (F : Fld Z h a O n d old) (E : Exa Z h a C) (W : (Jvm.Cond.lays C O n d).before a0 Z = true ∨ ((Jvm.Cond.laysFinal C O n d).before a0 Z = true ∧ y.cls = O ∧ y.name = "<init>")) (wi : (Jvm.Cond.instantiable C kk).before a0 Z = true) (hty : parseFieldDescriptor d = some ty) (hn : narrow ty v = v) (hf : fits ty v = true) (hg : n0 ≤ a) (hd : decode bytes pc = .ok (.putfield i, 3)) (hp : pc + 3 = pc') (k : ∀ T' h', Pos Z y bytes maxL ret n0 p l e R s m args below meth c T' h' cells slots → Wr h h' a (RoadKit.slotOf Z O n d) v → Goes p e below s n0 kc ks Q (T'.setTop (mkF m pc' L S))) : Goes p e below s n0 kc ks Q (T.setTop (mkF m pc L (v :: .ref a :: S))) := by
  obtain ⟨⟨hx, rfl, rfl, hown, hnm, rfl, hlk, hZ, hn0⟩, locs, X, rfl, N⟩ := P
  subst hp
  obtain ⟨T', h', X', e', W', st⟩ := Jvm.RoadKit.putF X hx hZ hown w via rfl F E (W.imp id fun q => ⟨q.1, q.2.1, hnm.trans q.2.2⟩) wi hty hn hf (g := mkF m pc L (v :: .ref a :: S)) rfl rfl hd
  exact (k T' h' ⟨⟨hx, rfl, rfl, hown, hnm, rfl, hlk, hZ, hn0⟩, _, X', e', Fr.snoc X' N hg⟩ W').via st
theorem new (P : Pos Z y bytes maxL ret n0 p l e R s m args below meth c T h cells slots) {C : String} {i n : Nat} {cells' slots' : Nat} (w : (Jvm.Cond.classLink y.cls i C).before a0 Z = true) (wi : (Jvm.Cond.instantiable C n).before a0 Z = true) (wz : (Jvm.Cond.initialized C).before a0 Z = true) (hd : decode bytes pc = .ok (.new i, 3)) (hc : cells + 1 = cells') (hs : slots + n = slots') (hc' : cells' ≤ R.cells) (hs' : slots' ≤ R.slots) (hp : pc + 3 = pc') (k : ∀ T' h' b, b = h.size → n0 ≤ b → Pos Z y bytes maxL ret n0 p l e R s m args below meth c T' h' cells' slots' → Ext h h' → Exa Z h' b C → (∀ {O nm d : String} {ty : FieldType}, Laid Z a0 C O nm d → parseFieldDescriptor d = some ty → Fld Z h' b O nm d (defaultValue ty)) → Goes p e below s n0 kc ks Q (T'.setTop (mkF m pc' L (.ref b :: S)))) : Goes p e below s n0 kc ks Q (T.setTop (mkF m pc L S)) := by
  obtain ⟨⟨hx, rfl, rfl, hown, hnm, rfl, hlk, hZ, hn0⟩, locs, X, rfl, N⟩ := P
  subst hp hc hs
  obtain ⟨T', h', X', e', E', A', D', -, st⟩ := newO X hx hZ hown w wi wz rfl (g := mkF m pc L S) rfl hd hc' hs'
  exact (k T' h' _ rfl (Nat.le_trans hn0 X.same.2.1) ⟨⟨hx, rfl, rfl, hown, hnm, rfl, hlk, hZ, hn0⟩, _, X', e', N⟩ E' A' D').via st
theorem initO (P : Pos Z y bytes maxL ret n0 p l e R s m args below meth c T h cells slots) {i W : Nat} {a : Addr} (w1 : (Jvm.Cond.methodLink y.cls i Lib.objectInit).before a0 Z = true) (w2 : (Jvm.Cond.instanceMethod Lib.objectInit).before a0 Z = true) (w3 : (Jvm.Cond.code Lib.objectInit ⟨#[0xb1]⟩ 1 none).before a0 Z = true) (hsz : L.size = maxL) (hd : decode bytes pc = .ok (.invokespecial i, 3)) (hf : 1 ≤ R.frames) (hW : (S.map fun v => v.category).sum ≤ W) (hl : W + 12 ≤ R.locals) (hp : pc + 3 = pc') (k : ∀ T', Pos Z y bytes maxL ret n0 p l e R s m args below meth c T' h cells slots → Goes p e below s n0 kc ks Q (T'.setTop (mkF m pc' L S))) : Goes p e below s n0 kc ks Q (T.setTop (mkF m pc L (.ref a :: S))) := by
  obtain ⟨⟨hx, rfl, rfl, hown, hnm, rfl, hlk, hZ, hn0⟩, locs, X, rfl, N⟩ := P
  subst hp
  obtain ⟨T', X', e', st⟩ := Jvm.RoadKit.initO X hx hZ hown w1 w2 w3 rfl (g := mkF m pc L (.ref a :: S)) rfl hsz rfl hd hf (W := W) (by have q0 := hW; show 2 * 0 + _ ≤ _; omega) hl
  exact (k T' ⟨⟨hx, rfl, rfl, hown, hnm, rfl, hlk, hZ, hn0⟩, locs, X', e', N⟩).via st
theorem callS (P : Pos Z y bytes maxL ret n0 p l e R s m args below meth c T h cells slots) {y' : MethodName} {bytes' : ByteArray} {maxL' : Nat} {ret' : Option FieldType} {rm : Room} {i W cells' slots' : Nat} {argsL rest : List Value} {Q' : Option Value → Heap → Prop} (w1 : (Jvm.Cond.methodLink y.cls i y').before a0 Z = true) (w2 : (Jvm.Cond.static y').before a0 Z = true) (w3 : (Jvm.Cond.initialized y'.cls).before a0 Z = true) (w4 : (Jvm.Cond.code y' bytes' maxL' ret').before a0 Z = true) (hy : y'.cls ≠ "java/lang/invoke/MethodHandle" ∧ y'.cls ≠ "java/lang/invoke/VarHandle") (K : Con l Z y' bytes' maxL' ret' rm n0 argsL.toArray h Q') (hf : rm.frames + 1 ≤ R.frames) (hl : W + (maxL' + 11) + rm.locals ≤ R.locals) (hc : cells + rm.cells = cells') (hs : slots + rm.slots = slots') (hc' : cells' ≤ R.cells) (hs' : slots' ≤ R.slots) (hlen : ∀ sig, parseMethodDescriptor y'.desc = some sig → argsL.length = sig.parameters.length) (hsz : L.size = maxL) (hst : S = argsL.reverse ++ rest) (hW : (rest.map fun v => v.category).sum ≤ W) (hd : decode bytes pc = .ok (.invokestatic i, 3)) (hp : pc + 3 = pc') (k : ∀ T' h' v, Pos Z y bytes maxL ret n0 p l e R s m args below meth c T' h' cells' slots' → Q' v h' → Goes p e below s n0 kc ks Q (T'.setTop (mkF m pc' L (v.toList ++ rest)))) : Goes p e below s n0 kc ks Q (T.setTop (mkF m pc L S)) := by
  obtain ⟨⟨hx, rfl, rfl, hown, hnm, rfl, hlk, hZ, hn0⟩, locs, X, rfl, N⟩ := P
  subst hp hc hs hst
  obtain ⟨v, _, ⟨T', L1, k1, n1⟩, -, X', ⟨Lc, ⟨hQ, hN⟩, l1, y1, z1⟩, st⟩ := Jvm.LawKit.callS X hx hown (mvT hZ w1) (mvT hZ w2) (mvT hZ w3) (mvT hZ w4) hy (backOf (W := W) (Q := fun v h L => Q' v h ∧ Fr n0 L) (K []) hZ w4 w3 hf hl) (g := mkF m pc L (argsL.reverse ++ rest)) rfl hsz (argsL := argsL) (rest := rest) hlen rfl (by have q0 := hW; show 2 * 0 + _ ≤ _; omega) hd (fun _ _ => ⟨rfl, rfl, hc', hs'⟩)
  dsimp only [Pt.U, Pt.locs, Pt.cells, Pt.slots] at X' l1 y1 z1 st hQ
  subst l1 y1 z1
  exact (k T' _ v ⟨⟨hx, rfl, rfl, hown, hnm, rfl, hlk, hZ, hn0⟩, _, X', rfl, Fr.app N hN⟩ hQ).via st
theorem callI (P : Pos Z y bytes maxL ret n0 p l e R s m args below meth c T h cells slots) {y' : MethodName} {bytes' : ByteArray} {maxL' : Nat} {rm : Room} {i W cells' slots' : Nat} {argsL rest : List Value} {Q' : Option Value → Heap → Prop} {a : Addr} (hy1 : y'.name = "<init>") (w1 : (Jvm.Cond.methodLink y.cls i y').before a0 Z = true) (w2 : (Jvm.Cond.instanceMethod y').before a0 Z = true) (w3 : (Jvm.Cond.initialized y'.cls).before a0 Z = true) (w4 : (Jvm.Cond.code y' bytes' maxL' none).before a0 Z = true) (hy : y'.cls ≠ "java/lang/invoke/MethodHandle" ∧ y'.cls ≠ "java/lang/invoke/VarHandle") (K : Con l Z y' bytes' maxL' none rm n0 (.ref a :: argsL).toArray h Q') (hf : rm.frames + 1 ≤ R.frames) (hl : W + (maxL' + 11) + rm.locals ≤ R.locals) (hc : cells + rm.cells = cells') (hs : slots + rm.slots = slots') (hc' : cells' ≤ R.cells) (hs' : slots' ≤ R.slots) (hlen : ∀ sig, parseMethodDescriptor y'.desc = some sig → argsL.length = sig.parameters.length) (hsz : L.size = maxL) (hst : S = argsL.reverse ++ .ref a :: rest) (hW : (rest.map fun v => v.category).sum ≤ W) (hd : decode bytes pc = .ok (.invokespecial i, 3)) (hp : pc + 3 = pc') (k : ∀ T' h' v, Pos Z y bytes maxL ret n0 p l e R s m args below meth c T' h' cells' slots' → Q' v h' → Goes p e below s n0 kc ks Q (T'.setTop (mkF m pc' L (v.toList ++ rest)))) : Goes p e below s n0 kc ks Q (T.setTop (mkF m pc L S)) := by
  obtain ⟨⟨hx, rfl, rfl, hown, hnm, rfl, hlk, hZ, hn0⟩, locs, X, rfl, N⟩ := P
  subst hp hc hs hst
  obtain ⟨v, _, ⟨T', L1, k1, n1⟩, -, X', ⟨Lc, ⟨hQ, hN⟩, l1, y1, z1⟩, st⟩ := X.specialBack hx hy1 hown (mvT hZ w1) (mvT hZ w2) (mvT hZ w4) hy (backOf (W := W) (Q := fun v h L => Q' v h ∧ Fr n0 L) (K []) hZ w4 w3 hf hl) (g := mkF m pc L (argsL.reverse ++ .ref a :: rest)) rfl hsz (Steps.refl _) (a := a) (argsL := argsL) (rest := rest) hlen rfl (by have q0 := hW; show 2 * 0 + _ ≤ _; omega) hd (fun _ _ => ⟨rfl, rfl, hc', hs'⟩)
  dsimp only [Pt.U, Pt.locs, Pt.cells, Pt.slots] at X' l1 y1 z1 st hQ
  subst l1 y1 z1
  exact (k T' _ v ⟨⟨hx, rfl, rfl, hown, hnm, rfl, hlk, hZ, hn0⟩, _, X', rfl, Fr.app N hN⟩ hQ).via fun _ q => st.trans q
theorem callV (P : Pos Z y bytes maxL ret n0 p l e R s m args below meth c T h cells slots) {y' : MethodName} {bytes' : ByteArray} {maxL' : Nat} {ret' : Option FieldType} {rm : Room} {i W cells' slots' : Nat} {argsL rest : List Value} {Q' : Option Value → Heap → Prop} {a : Addr} {C : String} (w1 : (Jvm.Cond.methodLink y.cls i y').before a0 Z = true) (w2 : (Jvm.Cond.declares y').before a0 Z = true) (w5 : (Jvm.Cond.selects C y' y').before a0 Z = true) (w6 : (Jvm.Cond.instanceMethod y').before a0 Z = true) (w3 : (Jvm.Cond.initialized y'.cls).before a0 Z = true) (w4 : (Jvm.Cond.code y' bytes' maxL' ret').before a0 Z = true) (hy : y'.cls ≠ "java/lang/invoke/MethodHandle" ∧ y'.cls ≠ "java/lang/invoke/VarHandle") (E : Exa Z h a C) (K : Con l Z y' bytes' maxL' ret' rm n0 (.ref a :: argsL).toArray h Q') (hf : rm.frames + 1 ≤ R.frames) (hl : W + (maxL' + 11) + rm.locals ≤ R.locals) (hc : cells + rm.cells = cells') (hs : slots + rm.slots = slots') (hc' : cells' ≤ R.cells) (hs' : slots' ≤ R.slots) (hlen : ∀ sig, parseMethodDescriptor y'.desc = some sig → argsL.length = sig.parameters.length) (hsz : L.size = maxL) (hst : S = argsL.reverse ++ .ref a :: rest) (hW : (rest.map fun v => v.category).sum ≤ W) (hd : decode bytes pc = .ok (.invokevirtual i, 3)) (hp : pc + 3 = pc') (k : ∀ T' h' v, Pos Z y bytes maxL ret n0 p l e R s m args below meth c T' h' cells' slots' → Q' v h' → Goes p e below s n0 kc ks Q (T'.setTop (mkF m pc' L (v.toList ++ rest)))) : Goes p e below s n0 kc ks Q (T.setTop (mkF m pc L S)) := by
  obtain ⟨⟨hx, rfl, rfl, hown, hnm, rfl, hlk, hZ, hn0⟩, locs, X, rfl, N⟩ := P
  obtain ⟨cq, kq, qa, qb, qc⟩ := isOf (T := T) hZ rfl E
  subst hp hc hs hst
  obtain ⟨v, _, ⟨T', L1, k1, n1⟩, -, X', ⟨Lc, ⟨hQ, hN⟩, l1, y1, z1⟩, st⟩ := X.virtualBack hx (y := y') (z := y') hown (mvT hZ w1) (mvT hZ w2) (notFace_of_selects (args := #[]) (mvT hZ w5)) (mvT hZ w5) (mvT hZ w6) hy (backOf (W := W) (Q := fun v h L => Q' v h ∧ Fr n0 L) (K []) hZ w4 w3 hf hl) qa qc (g := mkF m pc L (argsL.reverse ++ .ref a :: rest)) rfl hsz (Steps.refl _) (argsL := argsL) (rest := rest) hlen rfl (by have q0 := hW; show 2 * 0 + _ ≤ _; omega) hd (fun _ _ => ⟨rfl, rfl, hc', hs'⟩)
  dsimp only [Pt.U, Pt.locs, Pt.cells, Pt.slots] at X' l1 y1 z1 st hQ
  subst l1 y1 z1
  exact (k T' _ v ⟨⟨hx, rfl, rfl, hown, hnm, rfl, hlk, hZ, hn0⟩, _, X', rfl, Fr.app N hN⟩ hQ).via fun _ q => st.trans q
theorem callP (P : Pos Z y bytes maxL ret n0 p l e R s m args below meth c T h cells slots) {y' : MethodName} {bytes' : ByteArray} {maxL' : Nat} {ret' : Option FieldType} {rm : Room} {i W cells' slots' : Nat} {argsL rest : List Value} {Q' : Option Value → Heap → Prop} {a : Addr} {C : String} (w1 : (Jvm.Cond.methodLink y.cls i y').before a0 Z = true) {kk : Nat} (wi : (Jvm.Cond.instantiable y'.cls kk).before a0 Z = true) (w6 : (Jvm.Cond.instanceMethod y').before a0 Z = true) (w7 : (Jvm.Cond.privateMethod y').before a0 Z = true) (w3 : (Jvm.Cond.initialized y'.cls).before a0 Z = true) (w4 : (Jvm.Cond.code y' bytes' maxL' ret').before a0 Z = true) (hy : y'.cls ≠ "java/lang/invoke/MethodHandle" ∧ y'.cls ≠ "java/lang/invoke/VarHandle") (E : Exa Z h a C) (K : Con l Z y' bytes' maxL' ret' rm n0 (.ref a :: argsL).toArray h Q') (hf : rm.frames + 1 ≤ R.frames) (hl : W + (maxL' + 11) + rm.locals ≤ R.locals) (hc : cells + rm.cells = cells') (hs : slots + rm.slots = slots') (hc' : cells' ≤ R.cells) (hs' : slots' ≤ R.slots) (hlen : ∀ sig, parseMethodDescriptor y'.desc = some sig → argsL.length = sig.parameters.length) (hsz : L.size = maxL) (hst : S = argsL.reverse ++ .ref a :: rest) (hW : (rest.map fun v => v.category).sum ≤ W) (hd : decode bytes pc = .ok (.invokevirtual i, 3)) (hp : pc + 3 = pc') (k : ∀ T' h' v, Pos Z y bytes maxL ret n0 p l e R s m args below meth c T' h' cells' slots' → Q' v h' → Goes p e below s n0 kc ks Q (T'.setTop (mkF m pc' L (v.toList ++ rest)))) : Goes p e below s n0 kc ks Q (T.setTop (mkF m pc L S)) := by
  obtain ⟨⟨hx, rfl, rfl, hown, hnm, rfl, hlk, hZ, hn0⟩, locs, X, rfl, N⟩ := P
  obtain ⟨cq, q1, q2⟩ := E.cell
  obtain ⟨ci, ki, j1, j2, -, j3, -⟩ := Cond.instantiable_spec wi
  have w5 : (Jvm.Cond.selects y'.cls y' y').before a0 Z = true := selects_self_of_private j1 j2 (by simp only [Bool.or_eq_false_iff] at j3; exact j3.1) (Cond.privateMethod_at w7) w6 hy
  subst hp hc hs hst
  obtain ⟨v, _, ⟨T', L1, k1, n1⟩, -, X', ⟨Lc, ⟨hQ, hN⟩, l1, y1, z1⟩, st⟩ := X.privateBack hx (y := y') hown (mvT hZ w1) (mvT hZ w6) (mvT hZ w5) (Cond.privateMethod_at (mvP hZ w7 (args := #[]))) (mvT hZ w4) hy (backOf (W := W) (Q := fun v h L => Q' v h ∧ Fr n0 L) (K []) hZ w4 w3 hf hl) (g := mkF m pc L (argsL.reverse ++ .ref a :: rest)) rfl hsz (Steps.refl _) (a := a) q1 q2 (argsL := argsL) (rest := rest) hlen rfl (by have q0 := hW; show 2 * 0 + _ ≤ _; omega) hd (fun _ _ => ⟨rfl, rfl, hc', hs'⟩)
  dsimp only [Pt.U, Pt.locs, Pt.cells, Pt.slots] at X' l1 y1 z1 st hQ
  subst l1 y1 z1
  exact (k T' _ v ⟨⟨hx, rfl, rfl, hown, hnm, rfl, hlk, hZ, hn0⟩, _, X', rfl, Fr.app N hN⟩ hQ).via fun _ q => st.trans q
end Plain
end G
/-- an array at a: n places, the i-th holds the int f i -/
def Ints (Z : State) (h : Heap) (a : Addr) (ty : FieldType) (n : Nat) (f : Nat → Int32) : Prop := n < 2 ^ 31 ∧ ∃ c : Cell, Arr Z h a c ty ∧ c.slots.size = n ∧ ∀ i, i < n → c.slots[i]? = some (.int (f i))
def oupd (f : Nat → Int32) (i : Nat) (x : Int32) : Nat → Int32 := fun k => if k = i then x else f k
def lst (l : List Int32) : Nat → Int32 := fun i => l.getD i 0
section Arrays
variable {Z : State} {h h' : Heap} {a b : Addr} {ty : FieldType} {n : Nat} {f : Nat → Int32} {sl : Nat} {v : Value} {ws : List Addr}
theorem Ints.lt (A : Ints Z h a ty n f) : a < h.size := by obtain ⟨_, c, A, -⟩ := A; exact A.lt
theorem Ints.ext (A : Ints Z h a ty n f) (E : Ext h h') : Ints Z h' a ty n f := by obtain ⟨q, c, A, r⟩ := A; exact ⟨q, c, A.ext E, r⟩
theorem Ints.other (A : Ints Z h b ty n f) (W : Wr h h' a sl v) (q : b ≠ a) : Ints Z h' b ty n f := by obtain ⟨r, c, A, r'⟩ := A; exact ⟨r, c, A.other W q, r'⟩
theorem Ints.keep (A : Ints Z h a ty n f) (K : Keep h h' ws) (q : a ∉ ws) : Ints Z h' a ty n f := by obtain ⟨r, c, A, r'⟩ := A; exact ⟨r, c, ⟨K.2.1 a c A.1 q, A.2⟩, r'⟩
theorem Ints.congr {g : Nat → Int32} (A : Ints Z h a ty n f) (q : ∀ i, i < n → f i = g i) : Ints Z h a ty n g := by obtain ⟨r, c, A, s, r'⟩ := A; exact ⟨r, c, A, s, fun i hi => by rw [r' i hi, q i hi]⟩
theorem Ints.same {i : Nat} {x : Int32} (A : Ints Z h a ty n f) (W : Wr h h' a i (.int x)) : Ints Z h' a ty n (oupd f i x) := by
  obtain ⟨q, c, A, s, r⟩ := A
  refine ⟨q, _, A.same W, (sz_set _ _ _).trans s, fun j hj => ?_⟩
  show (c.slots.setIfInBounds i (.int x))[j]? = _
  by_cases e : j = i
  · subst e
    rw [Array.getElem?_setIfInBounds_self_of_lt (by omega)]
    simp [oupd]
  · rw [Array.getElem?_setIfInBounds_ne (Ne.symm e), r j hj]
    simp [oupd, e]
theorem idx {j : Int32} {i : Nat} (hj : j.toInt = (i : Int)) : ¬ j < 0 ∧ j.toNatClampNeg = i := by
  have q : ¬ j < 0 := by rw [Int32.lt_iff_toInt_lt, hj]; show ¬ ((i : Int) < 0); omega
  have r := nat_of q
  exact ⟨q, by omega⟩
theorem idx_in' {j : Int32} {i : Nat} {c : Cell} (hj : j.toInt = (i : Int)) (hi : i < c.slots.size) : ¬ (j < 0 ∨ c.slots.size ≤ j.toNatClampNeg) := by
  obtain ⟨q, r⟩ := idx hj
  rw [r]
  rintro (s | s)
  · exact q s
  · omega
end Arrays
namespace G
section Plain
variable {Z : State} {y : MethodName} {bytes : ByteArray} {maxL : Nat} {ret : Option FieldType} {n0 : Nat} {p : Program} {l : Launch} {e : Env} {R : Room} {s : State} {m : MethodId} {args : Array Value} {below : List Frame} {meth : Method} {c : Code} {T : State} {h : Heap} {cells slots kc ks : Nat} {Q : Option Value → Heap → Prop} {pc pc' pcY pcN : Nat} {L L' : Array Slot} {S : List Value} {a0 : Array Value}
theorem iaload (P : Pos Z y bytes maxL ret n0 p l e R s m args below meth c T h cells slots) {a : Addr} {n i : Nat} {f : Nat → Int32} {j : Int32} (A : Ints Z h a .int n f) (hj : j.toInt = (i : Int)) (hi : i < n) (hd : decode bytes pc = .ok (.iaload, 1)) (hp : pc + 1 = pc') (k : Goes p e below s n0 kc ks Q (T.setTop (mkF m pc' L (.int (f i) :: S)))) : Goes p e below s n0 kc ks Q (T.setTop (mkF m pc L (.int j :: .ref a :: S))) := by
  obtain ⟨⟨hx, rfl, rfl, hown, hnm, rfl, hlk, hZ, hn0⟩, locs, X, rfl, N⟩ := P
  subst hp
  obtain ⟨-, cl, Ar, sz, r⟩ := A
  exact k.via fun t q => X.iaload hx (j := j) (v := .int (f i)) Ar.1 (State.isArrayOf_alike hZ.alike Ar.2.1) Ar.2.2 (idx_in' hj (by omega)) (by rw [(idx hj).2]; exact r i hi) (g := mkF m pc L (.int j :: .ref a :: S)) rfl rfl hd _ q
theorem baload (P : Pos Z y bytes maxL ret n0 p l e R s m args below meth c T h cells slots) {a : Addr} {n i : Nat} {f : Nat → Int32} {j : Int32} (A : Ints Z h a .byte n f) (hj : j.toInt = (i : Int)) (hi : i < n) (hd : decode bytes pc = .ok (.baload, 1)) (hp : pc + 1 = pc') (k : Goes p e below s n0 kc ks Q (T.setTop (mkF m pc' L (.int (f i) :: S)))) : Goes p e below s n0 kc ks Q (T.setTop (mkF m pc L (.int j :: .ref a :: S))) := by
  obtain ⟨⟨hx, rfl, rfl, hown, hnm, rfl, hlk, hZ, hn0⟩, locs, X, rfl, N⟩ := P
  subst hp
  obtain ⟨-, cl, Ar, sz, r⟩ := A
  exact k.via fun t q => X.baloadBytes hx (j := j) (v := .int (f i)) Ar.1 (State.isArrayOf_alike hZ.alike Ar.2.1) Ar.2.2 (idx_in' hj (by omega)) (by rw [(idx hj).2]; exact r i hi) (g := mkF m pc L (.int j :: .ref a :: S)) rfl rfl hd _ q
theorem zaload (P : Pos Z y bytes maxL ret n0 p l e R s m args below meth c T h cells slots) {a : Addr} {n i : Nat} {f : Nat → Int32} {j : Int32} (A : Ints Z h a .boolean n f) (hj : j.toInt = (i : Int)) (hi : i < n) (hd : decode bytes pc = .ok (.baload, 1)) (hp : pc + 1 = pc') (k : Goes p e below s n0 kc ks Q (T.setTop (mkF m pc' L (.int (f i) :: S)))) : Goes p e below s n0 kc ks Q (T.setTop (mkF m pc L (.int j :: .ref a :: S))) := by
  obtain ⟨⟨hx, rfl, rfl, hown, hnm, rfl, hlk, hZ, hn0⟩, locs, X, rfl, N⟩ := P
  subst hp
  obtain ⟨-, cl, Ar, sz, r⟩ := A
  exact k.via fun t q => X.baloadBooleans hx (j := j) (v := .int (f i)) Ar.1 (State.isArrayOf_alike hZ.alike Ar.2.1) Ar.2.2 (idx_in' hj (by omega)) (by rw [(idx hj).2]; exact r i hi) (g := mkF m pc L (.int j :: .ref a :: S)) rfl rfl hd _ q
theorem iastore (P : Pos Z y bytes maxL ret n0 p l e R s m args below meth c T h cells slots) {a : Addr} {n i : Nat} {f : Nat → Int32} {j x : Int32} (A : Ints Z h a .int n f) (hj : j.toInt = (i : Int)) (hi : i < n) (hg : n0 ≤ a) (hd : decode bytes pc = .ok (.iastore, 1)) (hp : pc + 1 = pc') (k : ∀ T' h', Pos Z y bytes maxL ret n0 p l e R s m args below meth c T' h' cells slots → Wr h h' a i (.int (x)) → Goes p e below s n0 kc ks Q (T'.setTop (mkF m pc' L S))) : Goes p e below s n0 kc ks Q (T.setTop (mkF m pc L (.int x :: .int j :: .ref a :: S))) := by
  obtain ⟨⟨hx, rfl, rfl, hown, hnm, rfl, hlk, hZ, hn0⟩, locs, X, rfl, N⟩ := P
  subst hp
  obtain ⟨-, cl, Ar, sz, r⟩ := A
  obtain ⟨T', h', X', e', W', st⟩ := stI X hx hZ rfl Ar (j := j) (x := x) (idx_in' hj (by omega)) (g := mkF m pc L (.int x :: .int j :: .ref a :: S)) rfl rfl hd
  have hP := Fr.snoc X' N hg
  rw [(idx hj).2] at W'
  exact (k T' h' ⟨⟨hx, rfl, rfl, hown, hnm, rfl, hlk, hZ, hn0⟩, _, X', e', hP⟩ W').via st
theorem bastore (P : Pos Z y bytes maxL ret n0 p l e R s m args below meth c T h cells slots) {a : Addr} {n i : Nat} {f : Nat → Int32} {j x : Int32} (A : Ints Z h a .byte n f) (hj : j.toInt = (i : Int)) (hi : i < n) (hg : n0 ≤ a) (hd : decode bytes pc = .ok (.bastore, 1)) (hp : pc + 1 = pc') (k : ∀ T' h', Pos Z y bytes maxL ret n0 p l e R s m args below meth c T' h' cells slots → Wr h h' a i (.int (nar .byte x)) → Goes p e below s n0 kc ks Q (T'.setTop (mkF m pc' L S))) : Goes p e below s n0 kc ks Q (T.setTop (mkF m pc L (.int x :: .int j :: .ref a :: S))) := by
  obtain ⟨⟨hx, rfl, rfl, hown, hnm, rfl, hlk, hZ, hn0⟩, locs, X, rfl, N⟩ := P
  subst hp
  obtain ⟨-, cl, Ar, sz, r⟩ := A
  obtain ⟨T', h', X', e', W', st⟩ := stB X hx hZ rfl Ar (j := j) (x := x) (idx_in' hj (by omega)) (g := mkF m pc L (.int x :: .int j :: .ref a :: S)) rfl rfl hd
  have hP := Fr.snoc X' N hg
  rw [(idx hj).2] at W'
  exact (k T' h' ⟨⟨hx, rfl, rfl, hown, hnm, rfl, hlk, hZ, hn0⟩, _, X', e', hP⟩ W').via st
theorem zastore (P : Pos Z y bytes maxL ret n0 p l e R s m args below meth c T h cells slots) {a : Addr} {n i : Nat} {f : Nat → Int32} {j x : Int32} (A : Ints Z h a .boolean n f) (hj : j.toInt = (i : Int)) (hi : i < n) (hg : n0 ≤ a) (hd : decode bytes pc = .ok (.bastore, 1)) (hp : pc + 1 = pc') (k : ∀ T' h', Pos Z y bytes maxL ret n0 p l e R s m args below meth c T' h' cells slots → Wr h h' a i (.int (nar .boolean x)) → Goes p e below s n0 kc ks Q (T'.setTop (mkF m pc' L S))) : Goes p e below s n0 kc ks Q (T.setTop (mkF m pc L (.int x :: .int j :: .ref a :: S))) := by
  obtain ⟨⟨hx, rfl, rfl, hown, hnm, rfl, hlk, hZ, hn0⟩, locs, X, rfl, N⟩ := P
  subst hp
  obtain ⟨-, cl, Ar, sz, r⟩ := A
  obtain ⟨T', h', X', e', W', st⟩ := stZ X hx hZ rfl Ar (j := j) (x := x) (idx_in' hj (by omega)) (g := mkF m pc L (.int x :: .int j :: .ref a :: S)) rfl rfl hd
  have hP := Fr.snoc X' N hg
  rw [(idx hj).2] at W'
  exact (k T' h' ⟨⟨hx, rfl, rfl, hown, hnm, rfl, hlk, hZ, hn0⟩, _, X', e', hP⟩ W').via st
theorem arraylength (P : Pos Z y bytes maxL ret n0 p l e R s m args below meth c T h cells slots) {a : Addr} {n : Nat} {f : Nat → Int32} {ty : FieldType} {z : Int32} (A : Ints Z h a ty n f) (hz : z.toInt = (n : Int)) (hd : decode bytes pc = .ok (.arraylength, 1)) (hp : pc + 1 = pc') (k : Goes p e below s n0 kc ks Q (T.setTop (mkF m pc' L (.int z :: S)))) : Goes p e below s n0 kc ks Q (T.setTop (mkF m pc L (.ref a :: S))) := by
  obtain ⟨⟨hx, rfl, rfl, hown, hnm, rfl, hlk, hZ, hn0⟩, locs, X, rfl, N⟩ := P
  subst hp
  obtain ⟨hn, cl, Ar, sz, r⟩ := A
  have e' : cl.slots.size.toInt32 = z := by rw [sz, ← (idx hz).2]; exact (back32 (idx hz).1).1
  exact k.via fun t q => X.arraylength hx Ar.1 (State.isArrayOf_alike hZ.alike Ar.2.1) (g := mkF m pc L (.ref a :: S)) rfl rfl hd _ (by rw [e']; exact q)
theorem newarray (P : Pos Z y bytes maxL ret n0 p l e R s m args below meth c T h cells slots) {aty : ArrayType} {z : Int32} {N cap cells' slots' : Nat} (w : (Jvm.Cond.arrayClass (newarray.typeOf aty)).before a0 Z = true) (hdv : defaultValue (newarray.typeOf aty) = .int 0) (hz : z.toInt = (N : Int)) (hcap : N ≤ cap) (hb : cap * 8 ≤ 536870912) (hd : decode bytes pc = .ok (.newarray aty, 2)) (hc : cells + 1 = cells') (hs : slots + cap = slots') (hc' : cells' ≤ R.cells) (hs' : slots' ≤ R.slots) (hp : pc + 2 = pc') (k : ∀ T' h' b, b = h.size → n0 ≤ b → Pos Z y bytes maxL ret n0 p l e R s m args below meth c T' h' cells' slots' → Ext h h' → Ints Z h' b (newarray.typeOf aty) N (fun _ => 0) → Goes p e below s n0 kc ks Q (T'.setTop (mkF m pc' L (.ref b :: S)))) : Goes p e below s n0 kc ks Q (T.setTop (mkF m pc L (.int z :: S))) := by
  obtain ⟨⟨hx, rfl, rfl, hown, hnm, rfl, hlk, hZ, hn0⟩, locs, X, rfl, NF⟩ := P
  subst hp hc hs
  obtain ⟨q1, q2⟩ := idx hz
  obtain ⟨T', h', cA, X', e', E', A', st⟩ := newP X hx hZ w rfl (g := mkF m pc L (.int z :: S)) rfl hd rfl q1 (cap := cap) (by omega) hb hc' hs'
  have h32 := (back32 q1).2
  refine (k T' h' _ rfl (Nat.le_trans hn0 X.same.2.1) ⟨⟨hx, rfl, rfl, hown, hnm, rfl, hlk, hZ, hn0⟩, _, X', e', NF⟩ E' ⟨by omega, _, A', by rw [sz_new]; exact q2, fun i hi => ?_⟩).via st
  show (Array.replicate z.toNatClampNeg (defaultValue _))[i]? = some (.int 0)
  rw [hdv, Array.getElem?_replicate, if_pos (by omega)]
theorem top {x x' : Int32} (h : x = x') (k : Goes p e below s n0 kc ks Q (T.setTop (mkF m pc L (.int x' :: S)))) : Goes p e below s n0 kc ks Q (T.setTop (mkF m pc L (.int x :: S))) := by subst h; exact k
theorem topL {x x' : Int64} (h : x = x') (k : Goes p e below s n0 kc ks Q (T.setTop (mkF m pc L (.long x' :: S)))) : Goes p e below s n0 kc ks Q (T.setTop (mkF m pc L (.long x :: S))) := by subst h; exact k
theorem top1 {x x' : Int32} {u : Value} (h : x = x') (k : Goes p e below s n0 kc ks Q (T.setTop (mkF m pc L (u :: .int x' :: S)))) : Goes p e below s n0 kc ks Q (T.setTop (mkF m pc L (u :: .int x :: S))) := by subst h; exact k
theorem lswHit (P : Pos Z y bytes maxL ret n0 p l e R s m args below meth c T h cells slots) {x : Int32} {df a off : Int} {pairs : Array (Int × Int)} {len : Nat} (hd : decode bytes pc = .ok (.lookupswitch df pairs, len)) (hs : (pairs.toList.zip (pairs.toList.drop 1)).all (fun (a, next) => a.1 < next.1) = true) (hf : pairs.find? (·.1 == x.toInt) = some (a, off)) (ho : 0 ≤ (pc : Int) + off) (hp : ((pc : Int) + off).toNat = pc') (k : Goes p e below s n0 kc ks Q (T.setTop (mkF m pc' L S))) : Goes p e below s n0 kc ks Q (T.setTop (mkF m pc L (.int x :: S))) := by
  obtain ⟨⟨hx, rfl, rfl, hown, hnm, rfl, hlk, hZ, hn0⟩, locs, X, rfl, N⟩ := P
  subst hp
  exact k.via fun t q => X.lookupswitchHit hx (g := mkF m pc L (.int x :: S)) rfl rfl hd hs hf ho _ q
theorem lswMiss (P : Pos Z y bytes maxL ret n0 p l e R s m args below meth c T h cells slots) {x : Int32} {df : Int} {pairs : Array (Int × Int)} {len : Nat} (hd : decode bytes pc = .ok (.lookupswitch df pairs, len)) (hs : (pairs.toList.zip (pairs.toList.drop 1)).all (fun (a, next) => a.1 < next.1) = true) (hf : ∀ q ∈ pairs.toList, q.1 ≠ x.toInt) (ho : 0 ≤ (pc : Int) + df) (hp : ((pc : Int) + df).toNat = pc') (k : Goes p e below s n0 kc ks Q (T.setTop (mkF m pc' L S))) : Goes p e below s n0 kc ks Q (T.setTop (mkF m pc L (.int x :: S))) := by
  obtain ⟨⟨hx, rfl, rfl, hown, hnm, rfl, hlk, hZ, hn0⟩, locs, X, rfl, N⟩ := P
  subst hp
  exact k.via fun t q => X.lookupswitchMiss hx (g := mkF m pc L (.int x :: S)) rfl rfl hd hs (find_miss hf) ho _ q
theorem tswIn (P : Pos Z y bytes maxL ret n0 p l e R s m args below meth c T h cells slots) {x : Int32} {df lo hi off : Int} {offs : Array Int} {len : Nat} (hd : decode bytes pc = .ok (.tableswitch df lo hi offs, len)) (hin : ¬ (x.toInt < lo ∨ x.toInt > hi)) (hf : offs[(x.toInt - lo).toNat]? = some off) (ho : 0 ≤ (pc : Int) + off) (hp : ((pc : Int) + off).toNat = pc') (k : Goes p e below s n0 kc ks Q (T.setTop (mkF m pc' L S))) : Goes p e below s n0 kc ks Q (T.setTop (mkF m pc L (.int x :: S))) := by
  obtain ⟨⟨hx, rfl, rfl, hown, hnm, rfl, hlk, hZ, hn0⟩, locs, X, rfl, N⟩ := P
  exact k.via fun t q => XS.tswIn X.here hx rfl (pc0 := pc) (pc' := pc') rfl hd rfl hin hf ho hp q
end Plain
end G
end Jvm.OwnW
namespace Jvm.Pilot.@@N@@
open Jvm Jvm.ClassFile Sem Op Lib Jvm.Free Jvm.Stand Jvm.LawKit Jvm.RoadKit Jvm.OwnW Bundle Jvm.Pilot.@@N@@.Jvm.D
theorem wd {Z : State} {a0 : Array Value} (hw : ∀ d ∈ tables_1, d.before a0 Z = true) {i : Nat} {d : Jvm.Cond} (h : tables_1[i]? = some d) : d.before a0 Z = true := hw _ (List.mem_of_getElem? h)
def ObWT (Z : State) (h : Heap) (a : Addr) (v0 v1 v2 v3 : Value) : Prop := Exa Z h a "com/example/tasks_to_users/taskstousers/Planner$Waiting" ∧ Fld Z h a "com/example/tasks_to_users/taskstousers/Planner$Waiting" "left" "[I" v0 ∧ Fld Z h a "com/example/tasks_to_users/taskstousers/Planner$Waiting" "heap" "[I" v1 ∧ Fld Z h a "com/example/tasks_to_users/taskstousers/Planner$Waiting" "place" "[I" v2 ∧ Fld Z h a "com/example/tasks_to_users/taskstousers/Planner$Waiting" "size" "I" v3
theorem ObWT.lt {Z : State} {h : Heap} {a : Addr} {v0 v1 v2 v3 : Value} (O : ObWT Z h a v0 v1 v2 v3) : a < h.size := O.1.lt
theorem ObWT.ext {Z : State} {h h' : Heap} {a : Addr} {v0 v1 v2 v3 : Value} (O : ObWT Z h a v0 v1 v2 v3) (E : Ext h h') : ObWT Z h' a v0 v1 v2 v3 := ⟨O.1.ext E, O.2.1.ext E, O.2.2.1.ext E, O.2.2.2.1.ext E, O.2.2.2.2.ext E⟩
theorem ObWT.other {Z : State} {h h' : Heap} {a b : Addr} {sl : Nat} {v : Value} {v0 v1 v2 v3 : Value} (O : ObWT Z h b v0 v1 v2 v3) (W : Wr h h' a sl v) (q : b ≠ a) : ObWT Z h' b v0 v1 v2 v3 := ⟨O.1.wr W, O.2.1.other W (Or.inl q), O.2.2.1.other W (Or.inl q), O.2.2.2.1.other W (Or.inl q), O.2.2.2.2.other W (Or.inl q)⟩
theorem ObWT.keep {Z : State} {h h' : Heap} {a : Addr} {ws : List Addr} {v0 v1 v2 v3 : Value} (O : ObWT Z h a v0 v1 v2 v3) (K : Keep h h' ws) (q : a ∉ ws) : ObWT Z h' a v0 v1 v2 v3 := ⟨O.1.keep K, O.2.1.keep K q, O.2.2.1.keep K q, O.2.2.2.1.keep K q, O.2.2.2.2.keep K q⟩
theorem ObWT.put0 {Z : State} {h h' : Heap} {a : Addr} {v : Value} {a0 : Array Value} {v0 v1 v2 v3 : Value} (hw : ∀ d ∈ tables_1, d.before a0 Z = true) (O : ObWT Z h a v0 v1 v2 v3) (W : Wr h h' a (RoadKit.slotOf Z "com/example/tasks_to_users/taskstousers/Planner$Waiting" "left" "[I") v) : ObWT Z h' a v v1 v2 v3 := ⟨O.1.wr W, O.2.1.same W, O.2.2.1.other W (Or.inr (slot_ne (a0 := a0) (C := "com/example/tasks_to_users/taskstousers/Planner$Waiting") (Or.inr (wd hw (i := 13) rfl)) (Or.inr (wd hw (i := 11) rfl)) (by decide) (t := (.array .int)) (t' := (.array .int)) (by decide) (by decide))), O.2.2.2.1.other W (Or.inr (slot_ne (a0 := a0) (C := "com/example/tasks_to_users/taskstousers/Planner$Waiting") (Or.inr (wd hw (i := 15) rfl)) (Or.inr (wd hw (i := 11) rfl)) (by decide) (t := (.array .int)) (t' := (.array .int)) (by decide) (by decide))), O.2.2.2.2.other W (Or.inr (slot_ne (a0 := a0) (C := "com/example/tasks_to_users/taskstousers/Planner$Waiting") (Or.inl (wd hw (i := 22) rfl)) (Or.inr (wd hw (i := 11) rfl)) (by decide) (t := .int) (t' := (.array .int)) (by decide) (by decide)))⟩
theorem ObWT.put1 {Z : State} {h h' : Heap} {a : Addr} {v : Value} {a0 : Array Value} {v0 v1 v2 v3 : Value} (hw : ∀ d ∈ tables_1, d.before a0 Z = true) (O : ObWT Z h a v0 v1 v2 v3) (W : Wr h h' a (RoadKit.slotOf Z "com/example/tasks_to_users/taskstousers/Planner$Waiting" "heap" "[I") v) : ObWT Z h' a v0 v v2 v3 := ⟨O.1.wr W, O.2.1.other W (Or.inr (slot_ne (a0 := a0) (C := "com/example/tasks_to_users/taskstousers/Planner$Waiting") (Or.inr (wd hw (i := 11) rfl)) (Or.inr (wd hw (i := 13) rfl)) (by decide) (t := (.array .int)) (t' := (.array .int)) (by decide) (by decide))), O.2.2.1.same W, O.2.2.2.1.other W (Or.inr (slot_ne (a0 := a0) (C := "com/example/tasks_to_users/taskstousers/Planner$Waiting") (Or.inr (wd hw (i := 15) rfl)) (Or.inr (wd hw (i := 13) rfl)) (by decide) (t := (.array .int)) (t' := (.array .int)) (by decide) (by decide))), O.2.2.2.2.other W (Or.inr (slot_ne (a0 := a0) (C := "com/example/tasks_to_users/taskstousers/Planner$Waiting") (Or.inl (wd hw (i := 22) rfl)) (Or.inr (wd hw (i := 13) rfl)) (by decide) (t := .int) (t' := (.array .int)) (by decide) (by decide)))⟩
theorem ObWT.put2 {Z : State} {h h' : Heap} {a : Addr} {v : Value} {a0 : Array Value} {v0 v1 v2 v3 : Value} (hw : ∀ d ∈ tables_1, d.before a0 Z = true) (O : ObWT Z h a v0 v1 v2 v3) (W : Wr h h' a (RoadKit.slotOf Z "com/example/tasks_to_users/taskstousers/Planner$Waiting" "place" "[I") v) : ObWT Z h' a v0 v1 v v3 := ⟨O.1.wr W, O.2.1.other W (Or.inr (slot_ne (a0 := a0) (C := "com/example/tasks_to_users/taskstousers/Planner$Waiting") (Or.inr (wd hw (i := 11) rfl)) (Or.inr (wd hw (i := 15) rfl)) (by decide) (t := (.array .int)) (t' := (.array .int)) (by decide) (by decide))), O.2.2.1.other W (Or.inr (slot_ne (a0 := a0) (C := "com/example/tasks_to_users/taskstousers/Planner$Waiting") (Or.inr (wd hw (i := 13) rfl)) (Or.inr (wd hw (i := 15) rfl)) (by decide) (t := (.array .int)) (t' := (.array .int)) (by decide) (by decide))), O.2.2.2.1.same W, O.2.2.2.2.other W (Or.inr (slot_ne (a0 := a0) (C := "com/example/tasks_to_users/taskstousers/Planner$Waiting") (Or.inl (wd hw (i := 22) rfl)) (Or.inr (wd hw (i := 15) rfl)) (by decide) (t := .int) (t' := (.array .int)) (by decide) (by decide)))⟩
theorem ObWT.put3 {Z : State} {h h' : Heap} {a : Addr} {v : Value} {a0 : Array Value} {v0 v1 v2 v3 : Value} (hw : ∀ d ∈ tables_1, d.before a0 Z = true) (O : ObWT Z h a v0 v1 v2 v3) (W : Wr h h' a (RoadKit.slotOf Z "com/example/tasks_to_users/taskstousers/Planner$Waiting" "size" "I") v) : ObWT Z h' a v0 v1 v2 v := ⟨O.1.wr W, O.2.1.other W (Or.inr (slot_ne (a0 := a0) (C := "com/example/tasks_to_users/taskstousers/Planner$Waiting") (Or.inr (wd hw (i := 11) rfl)) (Or.inl (wd hw (i := 22) rfl)) (by decide) (t := (.array .int)) (t' := .int) (by decide) (by decide))), O.2.2.1.other W (Or.inr (slot_ne (a0 := a0) (C := "com/example/tasks_to_users/taskstousers/Planner$Waiting") (Or.inr (wd hw (i := 13) rfl)) (Or.inl (wd hw (i := 22) rfl)) (by decide) (t := (.array .int)) (t' := .int) (by decide) (by decide))), O.2.2.2.1.other W (Or.inr (slot_ne (a0 := a0) (C := "com/example/tasks_to_users/taskstousers/Planner$Waiting") (Or.inr (wd hw (i := 15) rfl)) (Or.inl (wd hw (i := 22) rfl)) (by decide) (t := (.array .int)) (t' := .int) (by decide) (by decide))), O.2.2.2.2.same W⟩
theorem ObWT.new {Z : State} {h : Heap} {a : Addr} {a0 : Array Value} (hw : ∀ d ∈ tables_1, d.before a0 Z = true) (A : Exa Z h a "com/example/tasks_to_users/taskstousers/Planner$Waiting") (D : ∀ {O nm d : String} {ty : FieldType}, Laid Z a0 "com/example/tasks_to_users/taskstousers/Planner$Waiting" O nm d → parseFieldDescriptor d = some ty → Fld Z h a O nm d (defaultValue ty)) : ObWT Z h a .null .null .null (.int 0) := ⟨A, D (Or.inr (wd hw (i := 11) rfl)) (ty := (.array .int)) (by decide), D (Or.inr (wd hw (i := 13) rfl)) (ty := (.array .int)) (by decide), D (Or.inr (wd hw (i := 15) rfl)) (ty := (.array .int)) (by decide), D (Or.inl (wd hw (i := 22) rfl)) (ty := .int) (by decide)⟩
def own_o (H : Nat → Nat) : Nat → Int32 := fun i => Int32.ofNat (H i)
def own_u (H : Nat → Nat) (i v : Nat) : Nat → Nat := fun k => if k = i then v else H k
theorem own_upd (H : Nat → Nat) (i v : Nat) : oupd (own_o H) i (Int32.ofNat v) = own_o (own_u H i v) := by
  funext k
  by_cases h : k = i
  · simp [oupd, own_o, own_u, h]
  · simp [oupd, own_o, own_u, h]
theorem own_u_same (H : Nat → Nat) (i v : Nat) : own_u H i v i = v := by simp [own_u]
theorem own_u_lt {H : Nat → Nat} {i v N : Nat} (h : ∀ j, j < N → H j < N) (hv : v < N) : ∀ j, j < N → own_u H i v j < N := by
  intro j hj
  by_cases q : j = i
  · simp [own_u, q, hv]
  · simp [own_u, q]; exact h j hj
theorem own_toInt {n : Nat} (h : n < 2147483648) : (Int32.ofNat n).toInt = (n : Int) := Int32.toInt_ofNat_of_lt h
theorem own_lt {a b : Nat} (ha : a < 2147483648) (hb : b < 2147483648) : Int32.ofNat a < Int32.ofNat b ↔ a < b := by
  rw [Int32.lt_iff_toInt_lt, own_toInt ha, own_toInt hb]; omega
theorem own_lt0 {b : Nat} (hb : b < 2147483648) : 0 < Int32.ofNat b ↔ 0 < b := own_lt (a := 0) (by omega) hb
theorem own_succ (a : Nat) : Int32.ofNat a + 1 = Int32.ofNat (a + 1) := (Int32.ofNat_add a 1).symm
theorem own_pred {a : Nat} (h : 0 < a) : Int32.ofNat a - 1 = Int32.ofNat (a - 1) := by
  obtain ⟨b, rfl⟩ : ∃ b, a = b + 1 := ⟨a - 1, by omega⟩
  rw [← own_succ, Int32.add_sub_cancel]
  rfl
theorem own_par {u : Nat} (h : 0 < u) (hu : u < 1000) : (Int32.ofNat u - 1) / 2 = Int32.ofNat ((u - 1) / 2) := by
  rw [own_pred h]
  have e := (c_idiv (Int32.ofNat (u - 1)) 2 2 (by decide) (by decide)).1 (by rw [own_toInt (by omega)]; omega)
  apply Int32.toInt_inj.mp
  rw [e, own_toInt (by omega), own_toInt (by omega)]
  omega
theorem own_ch {u : Nat} (hu : u < 1000) : 2 * Int32.ofNat u + 1 = Int32.ofNat (2 * u + 1) := by
  have e1 := c_imul 2 (Int32.ofNat u)
  have e2 := rng32 (2 * Int32.ofNat u)
  have e3 : (2 : Int32).toInt = 2 := by decide
  rw [own_toInt (by omega), e3] at e1
  have e4 : 2 * Int32.ofNat u = Int32.ofNat (2 * u) := by
    apply Int32.toInt_inj.mp
    rw [own_toInt (by omega)]
    omega
  rw [e4, own_succ]
def own_bf (L : Nat → Int32) (i j : Nat) : Bool := decide (i < 4) && (decide (j < 4) && (decide (L i < L j) || (decide (L i = L j) && decide (i < j))))
theorem own_bfA {L : Nat → Int32} {i j : Nat} (hi : i < 4) (hj : j < 4) (h : L i < L j) : nar .boolean (1 : Int32) = if own_bf L i j then (1 : Int32) else (0 : Int32) := by simp [own_bf, h, hi, hj]; rfl
theorem own_bfB {L : Nat → Int32} {i j : Nat} (hi : i < 4) (hj : j < 4) (h : ¬ L i < L j) : nar .boolean (if L i = L j then (if Int32.ofNat i < Int32.ofNat j then (1 : Int32) else (0 : Int32)) else (0 : Int32)) = if own_bf L i j then (1 : Int32) else (0 : Int32) := by
  have e := own_lt (a := i) (b := j) (by omega) (by omega)
  by_cases q : L i = L j
  · by_cases r : i < j
    · simp [own_bf, h, q, r, e, hi, hj]; rfl
    · simp [own_bf, h, q, r, e, hi, hj]; rfl
  · simp [own_bf, h, q, hi, hj]; rfl
theorem own_bf_tr {L : Nat → Int32} {i j k : Nat} (h1 : own_bf L i j = true) (h2 : own_bf L j k = true) : own_bf L i k = true := by
  simp only [own_bf, Bool.and_eq_true, Bool.or_eq_true, decide_eq_true_eq, Int32.lt_iff_toInt_lt, ← Int32.toInt_inj] at *
  omega
theorem own_bf_as {L : Nat → Int32} {i j : Nat} (hi : i < 4) (hj : j < 4) (h : i < j) : own_bf L i j = !(own_bf L j i) := by
  by_cases q : L j < L i
  · have q2 : ¬ L i < L j := by rw [Int32.lt_iff_toInt_lt] at *; omega
    have q3 : ¬ L i = L j := by intro e; rw [e] at q; rw [Int32.lt_iff_toInt_lt] at q; omega
    simp [own_bf, hi, hj, q, q2, q3]
  · by_cases r : L i = L j
    · have q2 : ¬ j < i := by omega
      simp [own_bf, hi, hj, r, h, q2]
    · have q2 : L i < L j := by rw [← Int32.toInt_inj] at r; rw [Int32.lt_iff_toInt_lt] at *; omega
      have q3 : ¬ L j = L i := fun e => r e.symm
      simp [own_bf, hi, hj, q, q2, q3]
theorem own_b1 {b : Bool} (h : ¬ (if b then (1 : Int32) else (0 : Int32)) = 0) : b = true := by cases b; exact absurd rfl h; rfl
theorem own_b0 {b : Bool} (h : (if b then (1 : Int32) else (0 : Int32)) = 0) : b = false := by cases b; rfl; exact absurd h (by decide)
def own_up (b : Nat → Nat → Bool) (g : Nat) : Nat → Nat → (Nat → Nat) → (Nat → Nat) → (Nat → Nat) × (Nat → Nat)
  | 0, u, H, P => (own_u H u g, own_u P g u)
  | F + 1, u, H, P => if 0 < u ∧ b g (H ((u - 1) / 2)) = true then own_up b g F ((u - 1) / 2) (own_u H u (H ((u - 1) / 2))) (own_u P (H ((u - 1) / 2)) u) else (own_u H u g, own_u P g u)
theorem own_up_end {b : Nat → Nat → Bool} {g F u : Nat} {H P : Nat → Nat} (h : ¬ (0 < u ∧ b g (H ((u - 1) / 2)) = true)) : own_up b g F u H P = (own_u H u g, own_u P g u) := by
  cases F
  · rfl
  · rw [own_up, if_neg h]
theorem own_up_go {b : Nat → Nat → Bool} {g F u : Nat} {H P : Nat → Nat} (hF : u ≤ F) (h0 : 0 < u) (h : b g (H ((u - 1) / 2)) = true) : own_up b g F u H P = own_up b g (F - 1) ((u - 1) / 2) (own_u H u (H ((u - 1) / 2))) (own_u P (H ((u - 1) / 2)) u) := by
  obtain ⟨E, rfl⟩ : ∃ E, F = E + 1 := ⟨F - 1, by omega⟩
  rw [own_up, if_pos ⟨h0, h⟩]
  rfl
theorem own_up_lt {b : Nat → Nat → Bool} {g N : Nat} (hg : g < N) : ∀ (F u : Nat) (H P : Nat → Nat), u < N → (∀ i, i < N → H i < N) → (∀ i, i < N → P i < N) → (∀ i, i < N → (own_up b g F u H P).1 i < N) ∧ ∀ i, i < N → (own_up b g F u H P).2 i < N := by
  intro F
  induction F with
  | zero => intro u H P hu hH hP; exact ⟨own_u_lt hH hg, own_u_lt hP hu⟩
  | succ F ih =>
    intro u H P hu hH hP
    by_cases h : 0 < u ∧ b g (H ((u - 1) / 2)) = true
    · rw [own_up, if_pos h]
      exact ih _ _ _ (by omega) (own_u_lt hH (hH _ (by omega))) (own_u_lt hP hu)
    · rw [own_up, if_neg h]
      exact ⟨own_u_lt hH hg, own_u_lt hP hu⟩
def own_c (b : Nat → Nat → Bool) (n u : Nat) (H : Nat → Nat) : Nat := if 2 * u + 1 + 1 < n ∧ b (H (2 * u + 1 + 1)) (H (2 * u + 1)) = true then 2 * u + 1 + 1 else 2 * u + 1
def own_dn (b : Nat → Nat → Bool) (n g : Nat) : Nat → Nat → (Nat → Nat) → (Nat → Nat) → (Nat → Nat) × (Nat → Nat)
  | 0, u, H, P => (own_u H u g, own_u P g u)
  | F + 1, u, H, P => if own_c b n u H < n ∧ b (H (own_c b n u H)) g = true then own_dn b n g F (own_c b n u H) (own_u H u (H (own_c b n u H))) (own_u P (H (own_c b n u H)) u) else (own_u H u g, own_u P g u)
theorem own_dn_end {b : Nat → Nat → Bool} {n g F u c : Nat} {H P : Nat → Nat} (e : own_c b n u H = c) (h : ¬ (c < n ∧ b (H c) g = true)) : own_dn b n g F u H P = (own_u H u g, own_u P g u) := by
  subst e
  cases F
  · rfl
  · rw [own_dn, if_neg h]
theorem own_c_lt (b : Nat → Nat → Bool) (n u : Nat) (H : Nat → Nat) : u < own_c b n u H := by unfold own_c; split <;> omega
theorem own_dn_go {b : Nat → Nat → Bool} {n g F u c : Nat} {H P : Nat → Nat} (e : own_c b n u H = c) (hF : n - u ≤ F) (h0 : c < n) (h : b (H c) g = true) : own_dn b n g F u H P = own_dn b n g (F - 1) c (own_u H u (H c)) (own_u P (H c) u) := by
  have q := own_c_lt b n u H
  subst e
  obtain ⟨E, rfl⟩ : ∃ E, F = E + 1 := ⟨F - 1, by omega⟩
  rw [own_dn, if_pos ⟨h0, h⟩]
  rfl
theorem own_dn_lt {b : Nat → Nat → Bool} {n g N : Nat} (hg : g < N) (hn : n ≤ N) : ∀ (F u : Nat) (H P : Nat → Nat), u < N → (∀ i, i < N → H i < N) → (∀ i, i < N → P i < N) → (∀ i, i < N → (own_dn b n g F u H P).1 i < N) ∧ ∀ i, i < N → (own_dn b n g F u H P).2 i < N := by
  intro F
  induction F with
  | zero => intro u H P hu hH hP; exact ⟨own_u_lt hH hg, own_u_lt hP hu⟩
  | succ F ih =>
    intro u H P hu hH hP
    by_cases h : own_c b n u H < n ∧ b (H (own_c b n u H)) g = true
    · rw [own_dn, if_pos h]
      exact ih _ _ _ (by omega) (own_u_lt hH (hH _ (by omega))) (own_u_lt hP hu)
    · rw [own_dn, if_neg h]
      exact ⟨own_u_lt hH hg, own_u_lt hP hu⟩
def own_mv (b : Nat → Nat → Bool) (n g : Nat) (H P : Nat → Nat) : (Nat → Nat) × (Nat → Nat) :=
  own_dn b n ((own_up b (H (P g)) (P g) (P g) H P).1 ((own_up b (H (P g)) (P g) (P g) H P).2 g)) (n - (own_up b (H (P g)) (P g) (P g) H P).2 g) ((own_up b (H (P g)) (P g) (P g) H P).2 g) (own_up b (H (P g)) (P g) (P g) H P).1 (own_up b (H (P g)) (P g) (P g) H P).2
theorem own_mv_lt {b : Nat → Nat → Bool} {n g N : Nat} {H P : Nat → Nat} (hn : n ≤ N) (hg : g < N) (hH : ∀ i, i < N → H i < N) (hP : ∀ i, i < N → P i < N) : (∀ i, i < N → (own_mv b n g H P).1 i < N) ∧ ∀ i, i < N → (own_mv b n g H P).2 i < N := by
  have q := own_up_lt (b := b) (hH _ (hP g hg)) (P g) (P g) H P (hP g hg) hH hP
  exact own_dn_lt (q.1 _ (q.2 g hg)) hn _ _ _ _ (q.2 g hg) q.1 q.2
def own_ad (b : Nat → Nat → Bool) (n g : Nat) (H P : Nat → Nat) : (Nat → Nat) × (Nat → Nat) := own_up b ((own_u H n g) n) n n (own_u H n g) (own_u P g n)
theorem own_ad_lt {b : Nat → Nat → Bool} {n g N : Nat} {H P : Nat → Nat} (hn : n < N) (hg : g < N) (hH : ∀ i, i < N → H i < N) (hP : ∀ i, i < N → P i < N) : (∀ i, i < N → (own_ad b n g H P).1 i < N) ∧ ∀ i, i < N → (own_ad b n g H P).2 i < N :=
  own_up_lt (own_u_lt hH hg n hn) _ _ _ _ hn (own_u_lt hH hg) (own_u_lt hP hn)
def own_rm (b : Nat → Nat → Bool) (n g : Nat) (H P : Nat → Nat) : (Nat → Nat) × (Nat → Nat) :=
  if P g < n - 1 then own_mv b (n - 1) (H (n - 1)) (own_u H (P g) (H (n - 1))) (own_u P (H (n - 1)) (P g)) else (H, P)
theorem own_rm_lt {b : Nat → Nat → Bool} {n g N : Nat} {H P : Nat → Nat} (hn : n ≤ N) (h1 : 0 < n) (hg : g < N) (hH : ∀ i, i < N → H i < N) (hP : ∀ i, i < N → P i < N) : (∀ i, i < N → (own_rm b n g H P).1 i < N) ∧ ∀ i, i < N → (own_rm b n g H P).2 i < N := by
  unfold own_rm
  by_cases q : P g < n - 1
  · rw [if_pos q]; exact own_mv_lt (by omega) (hH _ (by omega)) (own_u_lt hH (hH _ (by omega))) (own_u_lt hP (hP g hg))
  · rw [if_neg q]; exact ⟨hH, hP⟩
def own_first (n : Nat) (H : Nat → Nat) : Int32 := if n = 0 then -1 else Int32.ofNat (H 0)
theorem own_eq0 {n : Nat} (h : n < 2147483648) : Int32.ofNat n = 0 ↔ n = 0 := by
  rw [← Int32.toInt_inj, own_toInt h]
  show (n : Int) = 0 ↔ n = 0
  omega
theorem d6_0 : decode prog_27_method_8_code 0 = .ok (.aload_n 0, 1) := by decide +kernel
theorem d6_1 : decode prog_27_method_8_code 1 = .ok (.getfield 9, 3) := by decide +kernel
theorem d6_4 : decode prog_27_method_8_code 4 = .ok (.iload_n 1, 1) := by decide +kernel
theorem d6_5 : decode prog_27_method_8_code 5 = .ok (.iaload, 1) := by decide +kernel
theorem d6_6 : decode prog_27_method_8_code 6 = .ok (.aload_n 0, 1) := by decide +kernel
theorem d6_7 : decode prog_27_method_8_code 7 = .ok (.getfield 9, 3) := by decide +kernel
theorem d6_10 : decode prog_27_method_8_code 10 = .ok (.iload_n 2, 1) := by decide +kernel
theorem d6_11 : decode prog_27_method_8_code 11 = .ok (.iaload, 1) := by decide +kernel
theorem d6_12 : decode prog_27_method_8_code 12 = .ok (.if_icmp .lt 23, 3) := by decide +kernel
theorem d6_15 : decode prog_27_method_8_code 15 = .ok (.aload_n 0, 1) := by decide +kernel
theorem d6_16 : decode prog_27_method_8_code 16 = .ok (.getfield 9, 3) := by decide +kernel
theorem d6_19 : decode prog_27_method_8_code 19 = .ok (.iload_n 1, 1) := by decide +kernel
theorem d6_20 : decode prog_27_method_8_code 20 = .ok (.iaload, 1) := by decide +kernel
theorem d6_21 : decode prog_27_method_8_code 21 = .ok (.aload_n 0, 1) := by decide +kernel
theorem d6_22 : decode prog_27_method_8_code 22 = .ok (.getfield 9, 3) := by decide +kernel
theorem d6_25 : decode prog_27_method_8_code 25 = .ok (.iload_n 2, 1) := by decide +kernel
theorem d6_26 : decode prog_27_method_8_code 26 = .ok (.iaload, 1) := by decide +kernel
theorem d6_27 : decode prog_27_method_8_code 27 = .ok (.if_icmp .ne 12, 3) := by decide +kernel
theorem d6_30 : decode prog_27_method_8_code 30 = .ok (.iload_n 1, 1) := by decide +kernel
theorem d6_31 : decode prog_27_method_8_code 31 = .ok (.iload_n 2, 1) := by decide +kernel
theorem d6_32 : decode prog_27_method_8_code 32 = .ok (.if_icmp .ge 7, 3) := by decide +kernel
theorem d6_35 : decode prog_27_method_8_code 35 = .ok (.iconst 1, 1) := by decide +kernel
theorem d6_36 : decode prog_27_method_8_code 36 = .ok (.goto 4, 3) := by decide +kernel
theorem d6_39 : decode prog_27_method_8_code 39 = .ok (.iconst 0, 1) := by decide +kernel
theorem d6_40 : decode prog_27_method_8_code 40 = .ok (.ireturn, 1) := by decide +kernel
theorem pn_6 : plainName "com/example/tasks_to_users/taskstousers/Planner$Waiting" = true := by first | (simp [plainName, overriddenIn]; done) | decide +kernel
theorem pd_6 : parseMethodDescriptor "(II)Z" = some ⟨[.int, .int], some .boolean⟩ := by decide +kernel
abbrev room6 : Room := { frames := 0, cells := 0, slots := 0, locals := 0 }
def Q6 (Z : State) (a0 : Addr) (tl : Addr) (th : Addr) (tp : Addr) (L : Nat → Int32) (n : Nat) (i : Nat) (j : Nat) (h0 : Heap) (vv : Option Value) (hh : Heap) : Prop := vv = some (.int (if own_bf L i j then (1 : Int32) else (0 : Int32))) ∧ h0 = hh
theorem ef_6 (m : MethodId) (a0 : Addr) (p1 : Int32) (p2 : Int32) : entryFrame m #[(.ref a0), (.int p1), (.int p2)] 3 = mkF m 0 #[.val (.ref a0), .val (.int p1), .val (.int p2)] [] := by first | (simp [entryFrame, mkF, argsToLocals, Value.category]; done) | rfl
set_option maxRecDepth 65536 in
set_option maxHeartbeats 40000000 in
theorem rm6 {l : Launch} {Z : State} {aw : Array Value} (hw : ∀ d ∈ tables_1, d.before aw Z = true) {n0 : Nat} (a0 : Addr) (tl : Addr) (th : Addr) (tp : Addr) (L : Nat → Int32) (n : Nat) (i : Nat) (j : Nat) (h0 : Heap) (O : ObWT Z h0 a0 (.ref tl) (.ref th) (.ref tp) (.int (Int32.ofNat n))) (AL : Ints Z h0 tl .int 4 L) (ne_a0_tl : a0 ≠ tl) (hi : i < 4) (hj : j < 4) (hn0 : n0 ≤ h0.size) :
    Con l Z (⟨"com/example/tasks_to_users/taskstousers/Planner$Waiting", "before", "(II)Z"⟩ : MethodName) prog_27_method_8_code 3 (some .boolean) room6 n0 #[(.ref a0), (.int (Int32.ofNat i)), (.int (Int32.ofNat j))] h0 (Q6 Z a0 tl th tp L n i j h0) := by
  refine Con.body (plainFor_of_name pn_6) hn0 (fun m => ef_6 m a0 (Int32.ofNat i) (Int32.ofNat j)) ?_
  intro p e s m below meth c T P
  refine G.aloadN P d6_0 rfl rfl (pc' := 1) rfl ?_
  refine G.getF P (host := "") (Or.inl (wd hw (i := 10) rfl)) Via.refl O.2.1 d6_1 (pc' := 4) rfl ?_
  intro T P
  refine G.iloadN P d6_4 rfl (pc' := 5) rfl ?_
  refine G.iaload P AL (i := i) (own_toInt (by omega)) (by omega) d6_5 (pc' := 6) rfl ?_
  generalize hx1 : (L i) = x1
  refine G.aloadN P d6_6 rfl rfl (pc' := 7) rfl ?_
  refine G.getF P (host := "") (Or.inl (wd hw (i := 10) rfl)) Via.refl O.2.1 d6_7 (pc' := 10) rfl ?_
  intro T P
  refine G.iloadN P d6_10 rfl (pc' := 11) rfl ?_
  refine G.iaload P AL (i := j) (own_toInt (by omega)) (by omega) d6_11 (pc' := 12) rfl ?_
  generalize hx2 : (L j) = x2
  refine G.icmp_lt P d6_12 (by decide) (pcY := 35) (by decide) (pcN := 15) rfl (fun c12 => ?_) (fun c12 => ?_)
  · refine G.iconst P d6_35 (v := (1 : Int32)) rfl (pc' := 36) rfl ?_
    refine G.goto P d6_36 (by decide) (pc' := 40) (by decide) ?_
    subst hx1 hx2
    exact G.ireturnN P (t := .boolean) rfl (by simp) rfl d6_40 (by decide) (by decide) ⟨congrArg (fun z => some (Value.int z)) (own_bfA hi hj c12), rfl⟩
  · refine G.aloadN P d6_15 rfl rfl (pc' := 16) rfl ?_
    refine G.getF P (host := "") (Or.inl (wd hw (i := 10) rfl)) Via.refl O.2.1 d6_16 (pc' := 19) rfl ?_
    intro T P
    refine G.iloadN P d6_19 rfl (pc' := 20) rfl ?_
    refine G.iaload P AL (i := i) (own_toInt (by omega)) (by omega) d6_20 (pc' := 21) rfl ?_
    generalize hx3 : (L i) = x3
    refine G.aloadN P d6_21 rfl rfl (pc' := 22) rfl ?_
    refine G.getF P (host := "") (Or.inl (wd hw (i := 10) rfl)) Via.refl O.2.1 d6_22 (pc' := 25) rfl ?_
    intro T P
    refine G.iloadN P d6_25 rfl (pc' := 26) rfl ?_
    refine G.iaload P AL (i := j) (own_toInt (by omega)) (by omega) d6_26 (pc' := 27) rfl ?_
    generalize hx4 : (L j) = x4
    have J40_27 : ∀ (z5 : Int32), z5 = (if x3 = x4 then (if (Int32.ofNat i) < (Int32.ofNat j) then (1 : Int32) else (0 : Int32)) else (0 : Int32)) → Goes p e below s n0 room6.cells room6.slots (Q6 Z a0 tl th tp L n i j h0) (T.setTop (mkF m 40 #[.val (.ref a0), .val (.int (Int32.ofNat i)), .val (.int (Int32.ofNat j))] [(.int z5)])) := by
      intro z5 hz5
      subst hx1 hx2 hx3 hx4 hz5
      exact G.ireturnN P (t := .boolean) rfl (by simp) rfl d6_40 (by decide) (by decide) ⟨congrArg (fun z => some (Value.int z)) (own_bfB hi hj c12), rfl⟩
    refine G.icmp_ne P d6_27 (by decide) (pcY := 39) (by decide) (pcN := 30) rfl (fun c27 => ?_) (fun c27 => ?_)
    · refine G.iconst P d6_39 (v := (0 : Int32)) rfl (pc' := 40) rfl ?_
      exact J40_27 _ (by simp only [if_neg c27])
    · refine G.iloadN P d6_30 rfl (pc' := 31) rfl ?_
      refine G.iloadN P d6_31 rfl (pc' := 32) rfl ?_
      refine G.icmp_ge P d6_32 (by decide) (pcY := 39) (by decide) (pcN := 35) rfl (fun c32 => ?_) (fun c32 => ?_)
      · refine G.iconst P d6_39 (v := (0 : Int32)) rfl (pc' := 40) rfl ?_
        exact J40_27 _ (by simp only [if_pos c27, if_neg c32])
      · refine G.iconst P d6_35 (v := (1 : Int32)) rfl (pc' := 36) rfl ?_
        refine G.goto P d6_36 (by decide) (pc' := 40) (by decide) ?_
        exact J40_27 _ (by simp only [if_pos c27, if_pos c32])
theorem d5_0 : decode prog_27_method_6_code 0 = .ok (.aload_n 0, 1) := by decide +kernel
theorem d5_1 : decode prog_27_method_6_code 1 = .ok (.getfield 15, 3) := by decide +kernel
theorem d5_4 : decode prog_27_method_6_code 4 = .ok (.iload_n 1, 1) := by decide +kernel
theorem d5_5 : decode prog_27_method_6_code 5 = .ok (.iaload, 1) := by decide +kernel
theorem d5_6 : decode prog_27_method_6_code 6 = .ok (.istore_n 2, 1) := by decide +kernel
theorem d5_7 : decode prog_27_method_6_code 7 = .ok (.iload_n 1, 1) := by decide +kernel
theorem d5_8 : decode prog_27_method_6_code 8 = .ok (.istore_n 3, 1) := by decide +kernel
theorem d5_9 : decode prog_27_method_6_code 9 = .ok (.iload_n 3, 1) := by decide +kernel
theorem d5_10 : decode prog_27_method_6_code 10 = .ok (.ifCond .le 59, 3) := by decide +kernel
theorem d5_13 : decode prog_27_method_6_code 13 = .ok (.aload_n 0, 1) := by decide +kernel
theorem d5_14 : decode prog_27_method_6_code 14 = .ok (.iload_n 2, 1) := by decide +kernel
theorem d5_15 : decode prog_27_method_6_code 15 = .ok (.aload_n 0, 1) := by decide +kernel
theorem d5_16 : decode prog_27_method_6_code 16 = .ok (.getfield 15, 3) := by decide +kernel
theorem d5_19 : decode prog_27_method_6_code 19 = .ok (.iload_n 3, 1) := by decide +kernel
theorem d5_20 : decode prog_27_method_6_code 20 = .ok (.iconst 1, 1) := by decide +kernel
theorem d5_21 : decode prog_27_method_6_code 21 = .ok (.isub, 1) := by decide +kernel
theorem d5_22 : decode prog_27_method_6_code 22 = .ok (.iconst 2, 1) := by decide +kernel
theorem d5_23 : decode prog_27_method_6_code 23 = .ok (.idiv, 1) := by decide +kernel
theorem d5_24 : decode prog_27_method_6_code 24 = .ok (.iaload, 1) := by decide +kernel
theorem d5_25 : decode prog_27_method_6_code 25 = .ok (.invokevirtual 35, 3) := by decide +kernel
theorem d5_28 : decode prog_27_method_6_code 28 = .ok (.ifCond .eq 41, 3) := by decide +kernel
theorem d5_31 : decode prog_27_method_6_code 31 = .ok (.iload_n 3, 1) := by decide +kernel
theorem d5_32 : decode prog_27_method_6_code 32 = .ok (.iconst 1, 1) := by decide +kernel
theorem d5_33 : decode prog_27_method_6_code 33 = .ok (.isub, 1) := by decide +kernel
theorem d5_34 : decode prog_27_method_6_code 34 = .ok (.iconst 2, 1) := by decide +kernel
theorem d5_35 : decode prog_27_method_6_code 35 = .ok (.idiv, 1) := by decide +kernel
theorem d5_36 : decode prog_27_method_6_code 36 = .ok (.istore 4, 2) := by decide +kernel
theorem d5_38 : decode prog_27_method_6_code 38 = .ok (.aload_n 0, 1) := by decide +kernel
theorem d5_39 : decode prog_27_method_6_code 39 = .ok (.getfield 15, 3) := by decide +kernel
theorem d5_42 : decode prog_27_method_6_code 42 = .ok (.iload_n 3, 1) := by decide +kernel
theorem d5_43 : decode prog_27_method_6_code 43 = .ok (.aload_n 0, 1) := by decide +kernel
theorem d5_44 : decode prog_27_method_6_code 44 = .ok (.getfield 15, 3) := by decide +kernel
theorem d5_47 : decode prog_27_method_6_code 47 = .ok (.iload 4, 2) := by decide +kernel
theorem d5_49 : decode prog_27_method_6_code 49 = .ok (.iaload, 1) := by decide +kernel
theorem d5_50 : decode prog_27_method_6_code 50 = .ok (.iastore, 1) := by decide +kernel
theorem d5_51 : decode prog_27_method_6_code 51 = .ok (.aload_n 0, 1) := by decide +kernel
theorem d5_52 : decode prog_27_method_6_code 52 = .ok (.getfield 18, 3) := by decide +kernel
theorem d5_55 : decode prog_27_method_6_code 55 = .ok (.aload_n 0, 1) := by decide +kernel
theorem d5_56 : decode prog_27_method_6_code 56 = .ok (.getfield 15, 3) := by decide +kernel
theorem d5_59 : decode prog_27_method_6_code 59 = .ok (.iload_n 3, 1) := by decide +kernel
theorem d5_60 : decode prog_27_method_6_code 60 = .ok (.iaload, 1) := by decide +kernel
theorem d5_61 : decode prog_27_method_6_code 61 = .ok (.iload_n 3, 1) := by decide +kernel
theorem d5_62 : decode prog_27_method_6_code 62 = .ok (.iastore, 1) := by decide +kernel
theorem d5_63 : decode prog_27_method_6_code 63 = .ok (.iload 4, 2) := by decide +kernel
theorem d5_65 : decode prog_27_method_6_code 65 = .ok (.istore_n 3, 1) := by decide +kernel
theorem d5_66 : decode prog_27_method_6_code 66 = .ok (.goto (-57), 3) := by decide +kernel
theorem d5_69 : decode prog_27_method_6_code 69 = .ok (.aload_n 0, 1) := by decide +kernel
theorem d5_70 : decode prog_27_method_6_code 70 = .ok (.getfield 15, 3) := by decide +kernel
theorem d5_73 : decode prog_27_method_6_code 73 = .ok (.iload_n 3, 1) := by decide +kernel
theorem d5_74 : decode prog_27_method_6_code 74 = .ok (.iload_n 2, 1) := by decide +kernel
theorem d5_75 : decode prog_27_method_6_code 75 = .ok (.iastore, 1) := by decide +kernel
theorem d5_76 : decode prog_27_method_6_code 76 = .ok (.aload_n 0, 1) := by decide +kernel
theorem d5_77 : decode prog_27_method_6_code 77 = .ok (.getfield 18, 3) := by decide +kernel
theorem d5_80 : decode prog_27_method_6_code 80 = .ok (.iload_n 2, 1) := by decide +kernel
theorem d5_81 : decode prog_27_method_6_code 81 = .ok (.iload_n 3, 1) := by decide +kernel
theorem d5_82 : decode prog_27_method_6_code 82 = .ok (.iastore, 1) := by decide +kernel
theorem d5_83 : decode prog_27_method_6_code 83 = .ok (.return_, 1) := by decide +kernel
theorem pn_5 : plainName "com/example/tasks_to_users/taskstousers/Planner$Waiting" = true := by first | (simp [plainName, overriddenIn]; done) | decide +kernel
theorem pd_5 : parseMethodDescriptor "(I)V" = some ⟨[.int], none⟩ := by decide +kernel
abbrev room5 : Room := { frames := 1, cells := 0, slots := 0, locals := 14 }
def Q5 (Z : State) (a0 : Addr) (tl : Addr) (th : Addr) (tp : Addr) (L : Nat → Int32) (H : Nat → Nat) (Pm : Nat → Nat) (n : Nat) (u0 : Nat) (h0 : Heap) (vv : Option Value) (hh : Heap) : Prop := vv = none ∧ Keep h0 hh [th, tp] ∧ ObWT Z hh a0 (.ref tl) (.ref th) (.ref tp) (.int (Int32.ofNat n)) ∧ Ints Z hh tl .int 4 L ∧ Ints Z hh th .int 4 (own_o (own_up (own_bf L) (H u0) u0 u0 H Pm).1) ∧ Ints Z hh tp .int 4 (own_o (own_up (own_bf L) (H u0) u0 u0 H Pm).2)
theorem ef_5 (m : MethodId) (a0 : Addr) (p1 : Int32) : entryFrame m #[(.ref a0), (.int p1)] 5 = mkF m 0 #[.val (.ref a0), .val (.int p1), .unset, .unset, .unset] [] := by first | (simp [entryFrame, mkF, argsToLocals, Value.category]; done) | rfl
set_option maxRecDepth 65536 in
set_option maxHeartbeats 40000000 in
theorem rm5 {l : Launch} {Z : State} {aw : Array Value} (hw : ∀ d ∈ tables_1, d.before aw Z = true) {n0 : Nat} (a0 : Addr) (tl : Addr) (th : Addr) (tp : Addr) (L : Nat → Int32) (H : Nat → Nat) (Pm : Nat → Nat) (n : Nat) (u0 : Nat) (h0 : Heap) (O : ObWT Z h0 a0 (.ref tl) (.ref th) (.ref tp) (.int (Int32.ofNat n))) (AL : Ints Z h0 tl .int 4 L) (AH : Ints Z h0 th .int 4 (own_o H)) (AP : Ints Z h0 tp .int 4 (own_o Pm)) (ne_a0_tl : a0 ≠ tl) (ne_a0_th : a0 ≠ th) (ne_a0_tp : a0 ≠ tp) (ne_tl_th : tl ≠ th) (ne_tl_tp : tl ≠ tp) (ne_th_tp : th ≠ tp) (g_th : n0 ≤ th) (g_tp : n0 ≤ tp) (hn : n ≤ 4) (hH : ∀ i, i < 4 → H i < 4) (hP : ∀ i, i < 4 → Pm i < 4) (hu : u0 < 4) (hn0 : n0 ≤ h0.size) :
    Con l Z (⟨"com/example/tasks_to_users/taskstousers/Planner$Waiting", "up", "(I)V"⟩ : MethodName) prog_27_method_6_code 5 none room5 n0 #[(.ref a0), (.int (Int32.ofNat u0))] h0 (Q5 Z a0 tl th tp L H Pm n u0 h0) := by
  refine Con.body (plainFor_of_name pn_5) hn0 (fun m => ef_5 m a0 (Int32.ofNat u0)) ?_
  intro p e s m below meth c T P
  have K := Keep.refl h0 [th, tp]
  refine G.aloadN P d5_0 rfl rfl (pc' := 1) rfl ?_
  refine G.getF P (host := "") (Or.inl (wd hw (i := 12) rfl)) Via.refl O.2.2.1 d5_1 (pc' := 4) rfl ?_
  intro T P
  refine G.iloadN P d5_4 rfl (pc' := 5) rfl ?_
  refine G.iaload P AH (i := u0) (own_toInt (by omega)) (by omega) d5_5 (pc' := 6) rfl ?_
  show Goes p e below s n0 room5.cells room5.slots (Q5 Z a0 tl th tp L H Pm n u0 h0) (T.setTop (mkF m 6 #[.val (.ref a0), .val (.int (Int32.ofNat u0)), .unset, .unset, .unset] [(.int (Int32.ofNat (H u0)))]))
  refine G.istoreN P d5_6 rfl (L' := #[.val (.ref a0), .val (.int (Int32.ofNat u0)), .val (.int (Int32.ofNat (H u0))), .unset, .unset]) rfl (pc' := 7) rfl ?_
  refine G.iloadN P d5_7 rfl (pc' := 8) rfl ?_
  refine G.istoreN P d5_8 rfl (L' := #[.val (.ref a0), .val (.int (Int32.ofNat u0)), .val (.int (Int32.ofNat (H u0))), .val (.int (Int32.ofNat u0)), .unset]) rfl (pc' := 9) rfl ?_
  have loop9 : ∀ (nL : Nat) (T : State) (h6 : Heap) (F : Nat) (u : Nat) (H' : Nat → Nat) (P' : Nat → Nat) (sl : Slot), nL = u → (u < 4) → (u ≤ F) → (∀ i, i < 4 → H' i < 4) → (One sl) → ((own_up (own_bf L) (H u0) u0 u0 H Pm) = own_up (own_bf L) (H u0) F u H' P') → (ObWT Z h6 a0 (.ref tl) (.ref th) (.ref tp) (.int (Int32.ofNat n))) → (Ints Z h6 tl .int 4 L) → (Ints Z h6 th .int 4 (own_o H')) → (Ints Z h6 tp .int 4 (own_o P')) → (Keep h0 h6 [th, tp]) → Pos Z (⟨"com/example/tasks_to_users/taskstousers/Planner$Waiting", "up", "(I)V"⟩ : MethodName) prog_27_method_6_code 5 none n0 p l e room5 s m #[(.ref a0), (.int (Int32.ofNat u0))] below meth c T h6 0 0 → Goes p e below s n0 room5.cells room5.slots (Q5 Z a0 tl th tp L H Pm n u0 h0) (T.setTop (mkF m 9 #[.val (.ref a0), .val (.int (Int32.ofNat u0)), .val (.int (Int32.ofNat (H u0))), .val (.int (Int32.ofNat u)), sl] [])) := by
    intro nL
    induction nL using Nat.strongRecOn with
    | _ nL ih9 =>
      intro T h6 F u H' P' sl hn9 huN hF hH' hsl hv O AL AH AP K P
      refine G.iloadN P d5_9 rfl (pc' := 10) rfl ?_
      refine G.if_le P d5_10 (by decide) (pcY := 69) (by decide) (pcN := 13) rfl (fun c10 => ?_) (fun c10 => ?_)
      · refine G.aloadN P d5_69 rfl rfl (pc' := 70) rfl ?_
        refine G.getF P (host := "") (Or.inl (wd hw (i := 12) rfl)) Via.refl O.2.2.1 d5_70 (pc' := 73) rfl ?_
        intro T P
        refine G.iloadN P d5_73 rfl (pc' := 74) rfl ?_
        refine G.iloadN P d5_74 rfl (pc' := 75) rfl ?_
        refine G.iastore P AH (i := u) (own_toInt (by omega)) (by omega) g_th d5_75 (pc' := 76) rfl ?_
        intro T h8 P W7
        replace O := O.other W7 ne_a0_th
        replace AL := AL.other W7 ne_tl_th
        replace AH := AH.same W7
        replace AP := AP.other W7 (Ne.symm ne_th_tp)
        replace K := K.wr W7 (Or.inl (by simp))
        rw [own_upd] at AH
        refine G.aloadN P d5_76 rfl rfl (pc' := 77) rfl ?_
        refine G.getF P (host := "") (Or.inl (wd hw (i := 14) rfl)) Via.refl O.2.2.2.1 d5_77 (pc' := 80) rfl ?_
        intro T P
        refine G.iloadN P d5_80 rfl (pc' := 81) rfl ?_
        refine G.iloadN P d5_81 rfl (pc' := 82) rfl ?_
        have q82 := hH u0 hu
        refine G.iastore P AP (i := (H u0)) (own_toInt (by omega)) (by omega) g_tp d5_82 (pc' := 83) rfl ?_
        intro T h11 P W10
        replace O := O.other W10 ne_a0_tp
        replace AL := AL.other W10 ne_tl_tp
        replace AH := AH.other W10 ne_th_tp
        replace AP := AP.same W10
        replace K := K.wr W10 (Or.inl (by simp))
        rw [own_upd] at AP
        have eE := hv.trans (own_up_end (fun q => c10 ((own_lt0 (by omega)).mpr q.1)))
        replace AH : Ints Z h11 th .int 4 (own_o (own_up (own_bf L) (H u0) u0 u0 H Pm).1) := by rw [eE]; exact AH
        replace AP : Ints Z h11 tp .int 4 (own_o (own_up (own_bf L) (H u0) u0 u0 H Pm).2) := by rw [eE]; exact AP
        exact G.return_ P rfl d5_83 (by decide) (by decide) ⟨rfl, K, O, AL, AH, AP⟩
      · have q10 : 0 < u := (own_lt0 (by omega)).mp c10
        refine G.aloadN P d5_13 rfl rfl (pc' := 14) rfl ?_
        refine G.iloadN P d5_14 rfl (pc' := 15) rfl ?_
        refine G.aloadN P d5_15 rfl rfl (pc' := 16) rfl ?_
        refine G.getF P (host := "") (Or.inl (wd hw (i := 12) rfl)) Via.refl O.2.2.1 d5_16 (pc' := 19) rfl ?_
        intro T P
        refine G.iloadN P d5_19 rfl (pc' := 20) rfl ?_
        refine G.iconst P d5_20 (v := (1 : Int32)) rfl (pc' := 21) rfl ?_
        refine G.isub P d5_21 (pc' := 22) rfl ?_
        refine G.iconst P d5_22 (v := (2 : Int32)) rfl (pc' := 23) rfl ?_
        refine G.idiv P d5_23 (by decide) (pc' := 24) rfl ?_
        refine G.top (x' := (Int32.ofNat ((u - 1) / 2))) (own_par q10 (by omega)) ?_
        refine G.iaload P AH (i := ((u - 1) / 2)) (own_toInt (by omega)) (by omega) d5_24 (pc' := 25) rfl ?_
        show Goes p e below s n0 room5.cells room5.slots (Q5 Z a0 tl th tp L H Pm n u0 h0) (T.setTop (mkF m 25 #[.val (.ref a0), .val (.int (Int32.ofNat u0)), .val (.int (Int32.ofNat (H u0))), .val (.int (Int32.ofNat u)), sl] [(.int (Int32.ofNat (H' ((u - 1) / 2)))), (.int (Int32.ofNat (H u0))), (.ref a0)]))
        refine G.callP P (wd hw (i := 32) rfl) (wd hw (i := 2) rfl) (wd hw (i := 33) rfl) (wd hw (i := 34) rfl) (wd hw (i := 3) rfl) (wd hw (i := 35) rfl) (by decide) O.1 (argsL := [(.int (Int32.ofNat (H u0))), (.int (Int32.ofNat (H' ((u - 1) / 2))))]) (a := a0) (rm6 hw a0 tl th tp L n (H u0) (H' ((u - 1) / 2)) h6 O AL ne_a0_tl (hH u0 hu) (hH' _ (by omega)) P.sz) (by decide) (by decide) (cells' := 0) rfl (slots' := 0) rfl (by decide) (by decide) (lenOf pd_6 rfl) rfl (rest := []) rfl (W := 0) (Nat.le_of_eq rfl) d5_25 (pc' := 28) rfl ?_
        rintro T _ _ P ⟨rfl, rfl⟩
        show Goes p e below s n0 room5.cells room5.slots (Q5 Z a0 tl th tp L H Pm n u0 h0) (T.setTop (mkF m 28 #[.val (.ref a0), .val (.int (Int32.ofNat u0)), .val (.int (Int32.ofNat (H u0))), .val (.int (Int32.ofNat u)), sl] [(.int (if own_bf L (H u0) (H' ((u - 1) / 2)) then (1 : Int32) else (0 : Int32)))]))
        generalize hr13 : (if own_bf L (H u0) (H' ((u - 1) / 2)) then (1 : Int32) else (0 : Int32)) = r13
        refine G.if_eq P d5_28 (by decide) (pcY := 69) (by decide) (pcN := 31) rfl (fun c28 => ?_) (fun c28 => ?_)
        · refine G.aloadN P d5_69 rfl rfl (pc' := 70) rfl ?_
          refine G.getF P (host := "") (Or.inl (wd hw (i := 12) rfl)) Via.refl O.2.2.1 d5_70 (pc' := 73) rfl ?_
          intro T P
          refine G.iloadN P d5_73 rfl (pc' := 74) rfl ?_
          refine G.iloadN P d5_74 rfl (pc' := 75) rfl ?_
          refine G.iastore P AH (i := u) (own_toInt (by omega)) (by omega) g_th d5_75 (pc' := 76) rfl ?_
          intro T h15 P W14
          replace O := O.other W14 ne_a0_th
          replace AL := AL.other W14 ne_tl_th
          replace AH := AH.same W14
          replace AP := AP.other W14 (Ne.symm ne_th_tp)
          replace K := K.wr W14 (Or.inl (by simp))
          rw [own_upd] at AH
          refine G.aloadN P d5_76 rfl rfl (pc' := 77) rfl ?_
          refine G.getF P (host := "") (Or.inl (wd hw (i := 14) rfl)) Via.refl O.2.2.2.1 d5_77 (pc' := 80) rfl ?_
          intro T P
          refine G.iloadN P d5_80 rfl (pc' := 81) rfl ?_
          refine G.iloadN P d5_81 rfl (pc' := 82) rfl ?_
          have q82 := hH u0 hu
          refine G.iastore P AP (i := (H u0)) (own_toInt (by omega)) (by omega) g_tp d5_82 (pc' := 83) rfl ?_
          intro T h18 P W17
          replace O := O.other W17 ne_a0_tp
          replace AL := AL.other W17 ne_tl_tp
          replace AH := AH.other W17 ne_th_tp
          replace AP := AP.same W17
          replace K := K.wr W17 (Or.inl (by simp))
          rw [own_upd] at AP
          have eE := hv.trans (own_up_end (fun q => by have q2 := own_b0 (b := own_bf L (H u0) (H' ((u - 1) / 2))) (by rw [hr13]; exact c28); rw [q2] at q; exact absurd q.2 (by decide)))
          replace AH : Ints Z h18 th .int 4 (own_o (own_up (own_bf L) (H u0) u0 u0 H Pm).1) := by rw [eE]; exact AH
          replace AP : Ints Z h18 tp .int 4 (own_o (own_up (own_bf L) (H u0) u0 u0 H Pm).2) := by rw [eE]; exact AP
          exact G.return_ P rfl d5_83 (by decide) (by decide) ⟨rfl, K, O, AL, AH, AP⟩
        · refine G.iloadN P d5_31 rfl (pc' := 32) rfl ?_
          refine G.iconst P d5_32 (v := (1 : Int32)) rfl (pc' := 33) rfl ?_
          refine G.isub P d5_33 (pc' := 34) rfl ?_
          refine G.iconst P d5_34 (v := (2 : Int32)) rfl (pc' := 35) rfl ?_
          refine G.idiv P d5_35 (by decide) (pc' := 36) rfl ?_
          refine G.top (x' := (Int32.ofNat ((u - 1) / 2))) (own_par q10 (by omega)) ?_
          refine G.istore P d5_36 rfl (L' := #[.val (.ref a0), .val (.int (Int32.ofNat u0)), .val (.int (Int32.ofNat (H u0))), .val (.int (Int32.ofNat u)), .val (.int (Int32.ofNat ((u - 1) / 2)))]) (by rcases hsl with rfl | ⟨w, rfl, hw⟩ <;> first | rfl | (cases w <;> first | rfl | (simp [Value.category] at hw))) (pc' := 38) rfl ?_
          refine G.aloadN P d5_38 rfl rfl (pc' := 39) rfl ?_
          refine G.getF P (host := "") (Or.inl (wd hw (i := 12) rfl)) Via.refl O.2.2.1 d5_39 (pc' := 42) rfl ?_
          intro T P
          refine G.iloadN P d5_42 rfl (pc' := 43) rfl ?_
          refine G.aloadN P d5_43 rfl rfl (pc' := 44) rfl ?_
          refine G.getF P (host := "") (Or.inl (wd hw (i := 12) rfl)) Via.refl O.2.2.1 d5_44 (pc' := 47) rfl ?_
          intro T P
          refine G.iload P d5_47 rfl (pc' := 49) rfl ?_
          refine G.iaload P AH (i := ((u - 1) / 2)) (own_toInt (by omega)) (by omega) d5_49 (pc' := 50) rfl ?_
          show Goes p e below s n0 room5.cells room5.slots (Q5 Z a0 tl th tp L H Pm n u0 h0) (T.setTop (mkF m 50 #[.val (.ref a0), .val (.int (Int32.ofNat u0)), .val (.int (Int32.ofNat (H u0))), .val (.int (Int32.ofNat u)), .val (.int (Int32.ofNat ((u - 1) / 2)))] [(.int (Int32.ofNat (H' ((u - 1) / 2)))), (.int (Int32.ofNat u)), (.ref th)]))
          refine G.iastore P AH (i := u) (own_toInt (by omega)) (by omega) g_th d5_50 (pc' := 51) rfl ?_
          intro T h21 P W20
          replace O := O.other W20 ne_a0_th
          replace AL := AL.other W20 ne_tl_th
          replace AH := AH.same W20
          replace AP := AP.other W20 (Ne.symm ne_th_tp)
          replace K := K.wr W20 (Or.inl (by simp))
          rw [own_upd] at AH
          refine G.aloadN P d5_51 rfl rfl (pc' := 52) rfl ?_
          refine G.getF P (host := "") (Or.inl (wd hw (i := 14) rfl)) Via.refl O.2.2.2.1 d5_52 (pc' := 55) rfl ?_
          intro T P
          refine G.aloadN P d5_55 rfl rfl (pc' := 56) rfl ?_
          refine G.getF P (host := "") (Or.inl (wd hw (i := 12) rfl)) Via.refl O.2.2.1 d5_56 (pc' := 59) rfl ?_
          intro T P
          refine G.iloadN P d5_59 rfl (pc' := 60) rfl ?_
          refine G.iaload P AH (i := u) (own_toInt (by omega)) (by omega) d5_60 (pc' := 61) rfl ?_
          show Goes p e below s n0 room5.cells room5.slots (Q5 Z a0 tl th tp L H Pm n u0 h0) (T.setTop (mkF m 61 #[.val (.ref a0), .val (.int (Int32.ofNat u0)), .val (.int (Int32.ofNat (H u0))), .val (.int (Int32.ofNat u)), .val (.int (Int32.ofNat ((u - 1) / 2)))] [(.int (Int32.ofNat ((own_u H' u (H' ((u - 1) / 2))) u))), (.ref tp)]))
          refine G.top (x' := (Int32.ofNat (H' ((u - 1) / 2)))) (congrArg Int32.ofNat (own_u_same _ _ _)) ?_
          have q62 := hH' ((u - 1) / 2) (by omega)
          refine G.iloadN P d5_61 rfl (pc' := 62) rfl ?_
          refine G.iastore P AP (i := (H' ((u - 1) / 2))) (own_toInt (by omega)) (by omega) g_tp d5_62 (pc' := 63) rfl ?_
          intro T h24 P W23
          replace O := O.other W23 ne_a0_tp
          replace AL := AL.other W23 ne_tl_tp
          replace AH := AH.other W23 ne_th_tp
          replace AP := AP.same W23
          replace K := K.wr W23 (Or.inl (by simp))
          rw [own_upd] at AP
          refine G.iload P d5_63 rfl (pc' := 65) rfl ?_
          refine G.istoreN P d5_65 rfl (L' := #[.val (.ref a0), .val (.int (Int32.ofNat u0)), .val (.int (Int32.ofNat (H u0))), .val (.int (Int32.ofNat ((u - 1) / 2))), .val (.int (Int32.ofNat ((u - 1) / 2)))]) rfl (pc' := 66) rfl ?_
          refine G.goto P d5_66 (by decide) (pc' := 9) (by decide) ?_
          exact ih9 _ (by omega) T _ (F - 1) ((u - 1) / 2) (own_u H' u (H' ((u - 1) / 2))) (own_u P' (H' ((u - 1) / 2)) u) (.val (.int (Int32.ofNat ((u - 1) / 2)))) rfl (by omega) (by omega) (own_u_lt hH' (hH' _ (by omega))) (One.val rfl) (hv.trans (own_up_go hF q10 (own_b1 (by rw [hr13]; exact c28)))) O AL AH AP K P
  exact loop9 _ T _ u0 u0 H Pm .unset rfl hu (Nat.le_refl _) hH One.u rfl O AL AH AP K P
theorem d10_0 : decode prog_27_method_7_code 0 = .ok (.aload_n 0, 1) := by decide +kernel
theorem d10_1 : decode prog_27_method_7_code 1 = .ok (.getfield 15, 3) := by decide +kernel
theorem d10_4 : decode prog_27_method_7_code 4 = .ok (.iload_n 1, 1) := by decide +kernel
theorem d10_5 : decode prog_27_method_7_code 5 = .ok (.iaload, 1) := by decide +kernel
theorem d10_6 : decode prog_27_method_7_code 6 = .ok (.istore_n 2, 1) := by decide +kernel
theorem d10_7 : decode prog_27_method_7_code 7 = .ok (.iload_n 1, 1) := by decide +kernel
theorem d10_8 : decode prog_27_method_7_code 8 = .ok (.istore_n 3, 1) := by decide +kernel
theorem d10_9 : decode prog_27_method_7_code 9 = .ok (.iconst 0, 1) := by decide +kernel
theorem d10_10 : decode prog_27_method_7_code 10 = .ok (.istore 4, 2) := by decide +kernel
theorem d10_12 : decode prog_27_method_7_code 12 = .ok (.iload 4, 2) := by decide +kernel
theorem d10_14 : decode prog_27_method_7_code 14 = .ok (.ifCond .ne 114, 3) := by decide +kernel
theorem d10_17 : decode prog_27_method_7_code 17 = .ok (.iconst 2, 1) := by decide +kernel
theorem d10_18 : decode prog_27_method_7_code 18 = .ok (.iload_n 3, 1) := by decide +kernel
theorem d10_19 : decode prog_27_method_7_code 19 = .ok (.imul, 1) := by decide +kernel
theorem d10_20 : decode prog_27_method_7_code 20 = .ok (.iconst 1, 1) := by decide +kernel
theorem d10_21 : decode prog_27_method_7_code 21 = .ok (.iadd, 1) := by decide +kernel
theorem d10_22 : decode prog_27_method_7_code 22 = .ok (.istore 5, 2) := by decide +kernel
theorem d10_24 : decode prog_27_method_7_code 24 = .ok (.iload 5, 2) := by decide +kernel
theorem d10_26 : decode prog_27_method_7_code 26 = .ok (.iconst 1, 1) := by decide +kernel
theorem d10_27 : decode prog_27_method_7_code 27 = .ok (.iadd, 1) := by decide +kernel
theorem d10_28 : decode prog_27_method_7_code 28 = .ok (.aload_n 0, 1) := by decide +kernel
theorem d10_29 : decode prog_27_method_7_code 29 = .ok (.getfield 21, 3) := by decide +kernel
theorem d10_32 : decode prog_27_method_7_code 32 = .ok (.if_icmp .ge 29, 3) := by decide +kernel
theorem d10_35 : decode prog_27_method_7_code 35 = .ok (.aload_n 0, 1) := by decide +kernel
theorem d10_36 : decode prog_27_method_7_code 36 = .ok (.aload_n 0, 1) := by decide +kernel
theorem d10_37 : decode prog_27_method_7_code 37 = .ok (.getfield 15, 3) := by decide +kernel
theorem d10_40 : decode prog_27_method_7_code 40 = .ok (.iload 5, 2) := by decide +kernel
theorem d10_42 : decode prog_27_method_7_code 42 = .ok (.iconst 1, 1) := by decide +kernel
theorem d10_43 : decode prog_27_method_7_code 43 = .ok (.iadd, 1) := by decide +kernel
theorem d10_44 : decode prog_27_method_7_code 44 = .ok (.iaload, 1) := by decide +kernel
theorem d10_45 : decode prog_27_method_7_code 45 = .ok (.aload_n 0, 1) := by decide +kernel
theorem d10_46 : decode prog_27_method_7_code 46 = .ok (.getfield 15, 3) := by decide +kernel
theorem d10_49 : decode prog_27_method_7_code 49 = .ok (.iload 5, 2) := by decide +kernel
theorem d10_51 : decode prog_27_method_7_code 51 = .ok (.iaload, 1) := by decide +kernel
theorem d10_52 : decode prog_27_method_7_code 52 = .ok (.invokevirtual 35, 3) := by decide +kernel
theorem d10_55 : decode prog_27_method_7_code 55 = .ok (.ifCond .eq 6, 3) := by decide +kernel
theorem d10_58 : decode prog_27_method_7_code 58 = .ok (.iinc 5 1, 3) := by decide +kernel
theorem d10_61 : decode prog_27_method_7_code 61 = .ok (.iload 5, 2) := by decide +kernel
theorem d10_63 : decode prog_27_method_7_code 63 = .ok (.aload_n 0, 1) := by decide +kernel
theorem d10_64 : decode prog_27_method_7_code 64 = .ok (.getfield 21, 3) := by decide +kernel
theorem d10_67 : decode prog_27_method_7_code 67 = .ok (.if_icmp .ge 18, 3) := by decide +kernel
theorem d10_70 : decode prog_27_method_7_code 70 = .ok (.aload_n 0, 1) := by decide +kernel
theorem d10_71 : decode prog_27_method_7_code 71 = .ok (.aload_n 0, 1) := by decide +kernel
theorem d10_72 : decode prog_27_method_7_code 72 = .ok (.getfield 15, 3) := by decide +kernel
theorem d10_75 : decode prog_27_method_7_code 75 = .ok (.iload 5, 2) := by decide +kernel
theorem d10_77 : decode prog_27_method_7_code 77 = .ok (.iaload, 1) := by decide +kernel
theorem d10_78 : decode prog_27_method_7_code 78 = .ok (.iload_n 2, 1) := by decide +kernel
theorem d10_79 : decode prog_27_method_7_code 79 = .ok (.invokevirtual 35, 3) := by decide +kernel
theorem d10_82 : decode prog_27_method_7_code 82 = .ok (.ifCond .ne 7, 3) := by decide +kernel
theorem d10_85 : decode prog_27_method_7_code 85 = .ok (.iconst 1, 1) := by decide +kernel
theorem d10_86 : decode prog_27_method_7_code 86 = .ok (.goto 4, 3) := by decide +kernel
theorem d10_89 : decode prog_27_method_7_code 89 = .ok (.iconst 0, 1) := by decide +kernel
theorem d10_90 : decode prog_27_method_7_code 90 = .ok (.istore 4, 2) := by decide +kernel
theorem d10_92 : decode prog_27_method_7_code 92 = .ok (.iload 4, 2) := by decide +kernel
theorem d10_94 : decode prog_27_method_7_code 94 = .ok (.ifCond .ne 31, 3) := by decide +kernel
theorem d10_97 : decode prog_27_method_7_code 97 = .ok (.aload_n 0, 1) := by decide +kernel
theorem d10_98 : decode prog_27_method_7_code 98 = .ok (.getfield 15, 3) := by decide +kernel
theorem d10_101 : decode prog_27_method_7_code 101 = .ok (.iload_n 3, 1) := by decide +kernel
theorem d10_102 : decode prog_27_method_7_code 102 = .ok (.aload_n 0, 1) := by decide +kernel
theorem d10_103 : decode prog_27_method_7_code 103 = .ok (.getfield 15, 3) := by decide +kernel
theorem d10_106 : decode prog_27_method_7_code 106 = .ok (.iload 5, 2) := by decide +kernel
theorem d10_108 : decode prog_27_method_7_code 108 = .ok (.iaload, 1) := by decide +kernel
theorem d10_109 : decode prog_27_method_7_code 109 = .ok (.iastore, 1) := by decide +kernel
theorem d10_110 : decode prog_27_method_7_code 110 = .ok (.aload_n 0, 1) := by decide +kernel
theorem d10_111 : decode prog_27_method_7_code 111 = .ok (.getfield 18, 3) := by decide +kernel
theorem d10_114 : decode prog_27_method_7_code 114 = .ok (.aload_n 0, 1) := by decide +kernel
theorem d10_115 : decode prog_27_method_7_code 115 = .ok (.getfield 15, 3) := by decide +kernel
theorem d10_118 : decode prog_27_method_7_code 118 = .ok (.iload_n 3, 1) := by decide +kernel
theorem d10_119 : decode prog_27_method_7_code 119 = .ok (.iaload, 1) := by decide +kernel
theorem d10_120 : decode prog_27_method_7_code 120 = .ok (.iload_n 3, 1) := by decide +kernel
theorem d10_121 : decode prog_27_method_7_code 121 = .ok (.iastore, 1) := by decide +kernel
theorem d10_122 : decode prog_27_method_7_code 122 = .ok (.iload 5, 2) := by decide +kernel
theorem d10_124 : decode prog_27_method_7_code 124 = .ok (.istore_n 3, 1) := by decide +kernel
theorem d10_125 : decode prog_27_method_7_code 125 = .ok (.goto (-113), 3) := by decide +kernel
theorem d10_128 : decode prog_27_method_7_code 128 = .ok (.aload_n 0, 1) := by decide +kernel
theorem d10_129 : decode prog_27_method_7_code 129 = .ok (.getfield 15, 3) := by decide +kernel
theorem d10_132 : decode prog_27_method_7_code 132 = .ok (.iload_n 3, 1) := by decide +kernel
theorem d10_133 : decode prog_27_method_7_code 133 = .ok (.iload_n 2, 1) := by decide +kernel
theorem d10_134 : decode prog_27_method_7_code 134 = .ok (.iastore, 1) := by decide +kernel
theorem d10_135 : decode prog_27_method_7_code 135 = .ok (.aload_n 0, 1) := by decide +kernel
theorem d10_136 : decode prog_27_method_7_code 136 = .ok (.getfield 18, 3) := by decide +kernel
theorem d10_139 : decode prog_27_method_7_code 139 = .ok (.iload_n 2, 1) := by decide +kernel
theorem d10_140 : decode prog_27_method_7_code 140 = .ok (.iload_n 3, 1) := by decide +kernel
theorem d10_141 : decode prog_27_method_7_code 141 = .ok (.iastore, 1) := by decide +kernel
theorem d10_142 : decode prog_27_method_7_code 142 = .ok (.return_, 1) := by decide +kernel
theorem pn_10 : plainName "com/example/tasks_to_users/taskstousers/Planner$Waiting" = true := by first | (simp [plainName, overriddenIn]; done) | decide +kernel
theorem pd_10 : parseMethodDescriptor "(I)V" = some ⟨[.int], none⟩ := by decide +kernel
abbrev room10 : Room := { frames := 1, cells := 0, slots := 0, locals := 14 }
def Q10 (Z : State) (a0 : Addr) (tl : Addr) (th : Addr) (tp : Addr) (L : Nat → Int32) (H : Nat → Nat) (Pm : Nat → Nat) (n : Nat) (u0 : Nat) (h0 : Heap) (vv : Option Value) (hh : Heap) : Prop := vv = none ∧ Keep h0 hh [th, tp] ∧ ObWT Z hh a0 (.ref tl) (.ref th) (.ref tp) (.int (Int32.ofNat n)) ∧ Ints Z hh tl .int 4 L ∧ Ints Z hh th .int 4 (own_o (own_dn (own_bf L) n (H u0) (n - u0) u0 H Pm).1) ∧ Ints Z hh tp .int 4 (own_o (own_dn (own_bf L) n (H u0) (n - u0) u0 H Pm).2)
theorem ef_10 (m : MethodId) (a0 : Addr) (p1 : Int32) : entryFrame m #[(.ref a0), (.int p1)] 6 = mkF m 0 #[.val (.ref a0), .val (.int p1), .unset, .unset, .unset, .unset] [] := by first | (simp [entryFrame, mkF, argsToLocals, Value.category]; done) | rfl
set_option maxRecDepth 65536 in
set_option maxHeartbeats 40000000 in
theorem rm10 {l : Launch} {Z : State} {aw : Array Value} (hw : ∀ d ∈ tables_1, d.before aw Z = true) {n0 : Nat} (a0 : Addr) (tl : Addr) (th : Addr) (tp : Addr) (L : Nat → Int32) (H : Nat → Nat) (Pm : Nat → Nat) (n : Nat) (u0 : Nat) (h0 : Heap) (O : ObWT Z h0 a0 (.ref tl) (.ref th) (.ref tp) (.int (Int32.ofNat n))) (AL : Ints Z h0 tl .int 4 L) (AH : Ints Z h0 th .int 4 (own_o H)) (AP : Ints Z h0 tp .int 4 (own_o Pm)) (ne_a0_tl : a0 ≠ tl) (ne_a0_th : a0 ≠ th) (ne_a0_tp : a0 ≠ tp) (ne_tl_th : tl ≠ th) (ne_tl_tp : tl ≠ tp) (ne_th_tp : th ≠ tp) (g_th : n0 ≤ th) (g_tp : n0 ≤ tp) (hn : n ≤ 4) (hH : ∀ i, i < 4 → H i < 4) (hP : ∀ i, i < 4 → Pm i < 4) (hu : u0 < 4) (hn0 : n0 ≤ h0.size) :
    Con l Z (⟨"com/example/tasks_to_users/taskstousers/Planner$Waiting", "down", "(I)V"⟩ : MethodName) prog_27_method_7_code 6 none room10 n0 #[(.ref a0), (.int (Int32.ofNat u0))] h0 (Q10 Z a0 tl th tp L H Pm n u0 h0) := by
  refine Con.body (plainFor_of_name pn_10) hn0 (fun m => ef_10 m a0 (Int32.ofNat u0)) ?_
  intro p e s m below meth c T P
  have K := Keep.refl h0 [th, tp]
  refine G.aloadN P d10_0 rfl rfl (pc' := 1) rfl ?_
  refine G.getF P (host := "") (Or.inl (wd hw (i := 12) rfl)) Via.refl O.2.2.1 d10_1 (pc' := 4) rfl ?_
  intro T P
  refine G.iloadN P d10_4 rfl (pc' := 5) rfl ?_
  refine G.iaload P AH (i := u0) (own_toInt (by omega)) (by omega) d10_5 (pc' := 6) rfl ?_
  show Goes p e below s n0 room10.cells room10.slots (Q10 Z a0 tl th tp L H Pm n u0 h0) (T.setTop (mkF m 6 #[.val (.ref a0), .val (.int (Int32.ofNat u0)), .unset, .unset, .unset, .unset] [(.int (Int32.ofNat (H u0)))]))
  refine G.istoreN P d10_6 rfl (L' := #[.val (.ref a0), .val (.int (Int32.ofNat u0)), .val (.int (Int32.ofNat (H u0))), .unset, .unset, .unset]) rfl (pc' := 7) rfl ?_
  refine G.iloadN P d10_7 rfl (pc' := 8) rfl ?_
  refine G.istoreN P d10_8 rfl (L' := #[.val (.ref a0), .val (.int (Int32.ofNat u0)), .val (.int (Int32.ofNat (H u0))), .val (.int (Int32.ofNat u0)), .unset, .unset]) rfl (pc' := 9) rfl ?_
  refine G.iconst P d10_9 (v := (0 : Int32)) rfl (pc' := 10) rfl ?_
  refine G.istore P d10_10 rfl (L' := #[.val (.ref a0), .val (.int (Int32.ofNat u0)), .val (.int (Int32.ofNat (H u0))), .val (.int (Int32.ofNat u0)), .val (.int (0 : Int32)), .unset]) rfl (pc' := 12) rfl ?_
  have loop12 : ∀ (nL : Nat) (T : State) (h26 : Heap) (F : Nat) (u : Nat) (H' : Nat → Nat) (P' : Nat → Nat) (sl : Slot), nL = n - u → (u < 4) → (n - u ≤ F) → (∀ i, i < 4 → H' i < 4) → (One sl) → ((own_dn (own_bf L) n (H u0) (n - u0) u0 H Pm) = own_dn (own_bf L) n (H u0) F u H' P') → (ObWT Z h26 a0 (.ref tl) (.ref th) (.ref tp) (.int (Int32.ofNat n))) → (Ints Z h26 tl .int 4 L) → (Ints Z h26 th .int 4 (own_o H')) → (Ints Z h26 tp .int 4 (own_o P')) → (Keep h0 h26 [th, tp]) → Pos Z (⟨"com/example/tasks_to_users/taskstousers/Planner$Waiting", "down", "(I)V"⟩ : MethodName) prog_27_method_7_code 6 none n0 p l e room10 s m #[(.ref a0), (.int (Int32.ofNat u0))] below meth c T h26 0 0 → Goes p e below s n0 room10.cells room10.slots (Q10 Z a0 tl th tp L H Pm n u0 h0) (T.setTop (mkF m 12 #[.val (.ref a0), .val (.int (Int32.ofNat u0)), .val (.int (Int32.ofNat (H u0))), .val (.int (Int32.ofNat u)), .val (.int (0 : Int32)), sl] [])) := by
    intro nL
    induction nL using Nat.strongRecOn with
    | _ nL ih12 =>
      intro T h26 F u H' P' sl hn12 huN hF hH' hsl hv O AL AH AP K P
      refine G.iload P d10_12 rfl (pc' := 14) rfl ?_
      refine G.if_ne P d10_14 (by decide) (pcY := 128) (by decide) (pcN := 17) rfl (fun c => absurd c (by decide)) (fun _ => ?_)
      refine G.iconst P d10_17 (v := (2 : Int32)) rfl (pc' := 18) rfl ?_
      refine G.iloadN P d10_18 rfl (pc' := 19) rfl ?_
      refine G.imul P d10_19 (pc' := 20) rfl ?_
      refine G.iconst P d10_20 (v := (1 : Int32)) rfl (pc' := 21) rfl ?_
      refine G.iadd P d10_21 (pc' := 22) rfl ?_
      refine G.top (x' := (Int32.ofNat (2 * u + 1))) (own_ch (by omega)) ?_
      refine G.istore P d10_22 rfl (L' := #[.val (.ref a0), .val (.int (Int32.ofNat u0)), .val (.int (Int32.ofNat (H u0))), .val (.int (Int32.ofNat u)), .val (.int (0 : Int32)), .val (.int (Int32.ofNat (2 * u + 1)))]) (by rcases hsl with rfl | ⟨w, rfl, hw⟩ <;> first | rfl | (cases w <;> first | rfl | (simp [Value.category] at hw))) (pc' := 24) rfl ?_
      refine G.iload P d10_24 rfl (pc' := 26) rfl ?_
      refine G.iconst P d10_26 (v := (1 : Int32)) rfl (pc' := 27) rfl ?_
      refine G.iadd P d10_27 (pc' := 28) rfl ?_
      refine G.aloadN P d10_28 rfl rfl (pc' := 29) rfl ?_
      refine G.getF P (host := "") (Or.inl (wd hw (i := 21) rfl)) Via.refl O.2.2.2.2 d10_29 (pc' := 32) rfl ?_
      intro T P
      refine G.top1 (x' := (Int32.ofNat (2 * u + 1 + 1))) (own_succ _) ?_
      refine G.icmp_ge P d10_32 (by decide) (pcY := 61) (by decide) (pcN := 35) rfl (fun c32 => ?_) (fun c32 => ?_)
      · have qc : own_c (own_bf L) n u H' = 2 * u + 1 := by unfold own_c; rw [if_neg (fun q => c32 ((own_lt (by omega) (by omega)).mpr q.1))]
        refine G.iload P d10_61 rfl (pc' := 63) rfl ?_
        refine G.aloadN P d10_63 rfl rfl (pc' := 64) rfl ?_
        refine G.getF P (host := "") (Or.inl (wd hw (i := 21) rfl)) Via.refl O.2.2.2.2 d10_64 (pc' := 67) rfl ?_
        intro T P
        refine G.icmp_ge P d10_67 (by decide) (pcY := 85) (by decide) (pcN := 70) rfl (fun c67 => ?_) (fun c67 => ?_)
        · refine G.iconst P d10_85 (v := (1 : Int32)) rfl (pc' := 86) rfl ?_
          refine G.goto P d10_86 (by decide) (pc' := 90) (by decide) ?_
          refine G.istore P d10_90 rfl (L' := #[.val (.ref a0), .val (.int (Int32.ofNat u0)), .val (.int (Int32.ofNat (H u0))), .val (.int (Int32.ofNat u)), .val (.int (1 : Int32)), .val (.int (Int32.ofNat (2 * u + 1)))]) rfl (pc' := 92) rfl ?_
          refine G.iload P d10_92 rfl (pc' := 94) rfl ?_
          refine G.if_ne P d10_94 (by decide) (pcY := 125) (by decide) (pcN := 97) rfl (fun _ => ?_) (fun c => absurd c (by decide))
          refine G.goto P d10_125 (by decide) (pc' := 12) (by decide) ?_
          refine G.iload P d10_12 rfl (pc' := 14) rfl ?_
          refine G.if_ne P d10_14 (by decide) (pcY := 128) (by decide) (pcN := 17) rfl (fun _ => ?_) (fun c => absurd c (by decide))
          refine G.aloadN P d10_128 rfl rfl (pc' := 129) rfl ?_
          refine G.getF P (host := "") (Or.inl (wd hw (i := 12) rfl)) Via.refl O.2.2.1 d10_129 (pc' := 132) rfl ?_
          intro T P
          refine G.iloadN P d10_132 rfl (pc' := 133) rfl ?_
          refine G.iloadN P d10_133 rfl (pc' := 134) rfl ?_
          refine G.iastore P AH (i := u) (own_toInt (by omega)) (by omega) g_th d10_134 (pc' := 135) rfl ?_
          intro T h28 P W27
          replace O := O.other W27 ne_a0_th
          replace AL := AL.other W27 ne_tl_th
          replace AH := AH.same W27
          replace AP := AP.other W27 (Ne.symm ne_th_tp)
          replace K := K.wr W27 (Or.inl (by simp))
          rw [own_upd] at AH
          refine G.aloadN P d10_135 rfl rfl (pc' := 136) rfl ?_
          refine G.getF P (host := "") (Or.inl (wd hw (i := 14) rfl)) Via.refl O.2.2.2.1 d10_136 (pc' := 139) rfl ?_
          intro T P
          refine G.iloadN P d10_139 rfl (pc' := 140) rfl ?_
          refine G.iloadN P d10_140 rfl (pc' := 141) rfl ?_
          have q141 := hH u0 hu
          refine G.iastore P AP (i := (H u0)) (own_toInt (by omega)) (by omega) g_tp d10_141 (pc' := 142) rfl ?_
          intro T h31 P W30
          replace O := O.other W30 ne_a0_tp
          replace AL := AL.other W30 ne_tl_tp
          replace AH := AH.other W30 ne_th_tp
          replace AP := AP.same W30
          replace K := K.wr W30 (Or.inl (by simp))
          rw [own_upd] at AP
          have eE := hv.trans (own_dn_end qc (fun q => c67 ((own_lt (by omega) (by omega)).mpr q.1)))
          replace AH : Ints Z h31 th .int 4 (own_o (own_dn (own_bf L) n (H u0) (n - u0) u0 H Pm).1) := by rw [eE]; exact AH
          replace AP : Ints Z h31 tp .int 4 (own_o (own_dn (own_bf L) n (H u0) (n - u0) u0 H Pm).2) := by rw [eE]; exact AP
          exact G.return_ P rfl d10_142 (by decide) (by decide) ⟨rfl, K, O, AL, AH, AP⟩
        · have q67 : (2 * u + 1) < n := (own_lt (by omega) (by omega)).mp c67
          refine G.aloadN P d10_70 rfl rfl (pc' := 71) rfl ?_
          refine G.aloadN P d10_71 rfl rfl (pc' := 72) rfl ?_
          refine G.getF P (host := "") (Or.inl (wd hw (i := 12) rfl)) Via.refl O.2.2.1 d10_72 (pc' := 75) rfl ?_
          intro T P
          refine G.iload P d10_75 rfl (pc' := 77) rfl ?_
          refine G.iaload P AH (i := (2 * u + 1)) (own_toInt (by omega)) (by omega) d10_77 (pc' := 78) rfl ?_
          show Goes p e below s n0 room10.cells room10.slots (Q10 Z a0 tl th tp L H Pm n u0 h0) (T.setTop (mkF m 78 #[.val (.ref a0), .val (.int (Int32.ofNat u0)), .val (.int (Int32.ofNat (H u0))), .val (.int (Int32.ofNat u)), .val (.int (0 : Int32)), .val (.int (Int32.ofNat (2 * u + 1)))] [(.int (Int32.ofNat (H' (2 * u + 1)))), (.ref a0)]))
          refine G.iloadN P d10_78 rfl (pc' := 79) rfl ?_
          refine G.callP P (wd hw (i := 32) rfl) (wd hw (i := 2) rfl) (wd hw (i := 33) rfl) (wd hw (i := 34) rfl) (wd hw (i := 3) rfl) (wd hw (i := 35) rfl) (by decide) O.1 (argsL := [(.int (Int32.ofNat (H' (2 * u + 1)))), (.int (Int32.ofNat (H u0)))]) (a := a0) (rm6 hw a0 tl th tp L n (H' (2 * u + 1)) (H u0) h26 O AL ne_a0_tl (hH' _ (by omega)) (hH u0 hu) P.sz) (by decide) (by decide) (cells' := 0) rfl (slots' := 0) rfl (by decide) (by decide) (lenOf pd_6 rfl) rfl (rest := []) rfl (W := 0) (Nat.le_of_eq rfl) d10_79 (pc' := 82) rfl ?_
          rintro T _ _ P ⟨rfl, rfl⟩
          show Goes p e below s n0 room10.cells room10.slots (Q10 Z a0 tl th tp L H Pm n u0 h0) (T.setTop (mkF m 82 #[.val (.ref a0), .val (.int (Int32.ofNat u0)), .val (.int (Int32.ofNat (H u0))), .val (.int (Int32.ofNat u)), .val (.int (0 : Int32)), .val (.int (Int32.ofNat (2 * u + 1)))] [(.int (if own_bf L (H' (2 * u + 1)) (H u0) then (1 : Int32) else (0 : Int32)))]))
          generalize hr33 : (if own_bf L (H' (2 * u + 1)) (H u0) then (1 : Int32) else (0 : Int32)) = r33
          refine G.if_ne P d10_82 (by decide) (pcY := 89) (by decide) (pcN := 85) rfl (fun c82 => ?_) (fun c82 => ?_)
          · refine G.iconst P d10_89 (v := (0 : Int32)) rfl (pc' := 90) rfl ?_
            refine G.istore P d10_90 rfl (L' := #[.val (.ref a0), .val (.int (Int32.ofNat u0)), .val (.int (Int32.ofNat (H u0))), .val (.int (Int32.ofNat u)), .val (.int (0 : Int32)), .val (.int (Int32.ofNat (2 * u + 1)))]) rfl (pc' := 92) rfl ?_
            refine G.iload P d10_92 rfl (pc' := 94) rfl ?_
            refine G.if_ne P d10_94 (by decide) (pcY := 125) (by decide) (pcN := 97) rfl (fun c => absurd c (by decide)) (fun _ => ?_)
            refine G.aloadN P d10_97 rfl rfl (pc' := 98) rfl ?_
            refine G.getF P (host := "") (Or.inl (wd hw (i := 12) rfl)) Via.refl O.2.2.1 d10_98 (pc' := 101) rfl ?_
            intro T P
            refine G.iloadN P d10_101 rfl (pc' := 102) rfl ?_
            refine G.aloadN P d10_102 rfl rfl (pc' := 103) rfl ?_
            refine G.getF P (host := "") (Or.inl (wd hw (i := 12) rfl)) Via.refl O.2.2.1 d10_103 (pc' := 106) rfl ?_
            intro T P
            refine G.iload P d10_106 rfl (pc' := 108) rfl ?_
            refine G.iaload P AH (i := (2 * u + 1)) (own_toInt (by omega)) (by omega) d10_108 (pc' := 109) rfl ?_
            show Goes p e below s n0 room10.cells room10.slots (Q10 Z a0 tl th tp L H Pm n u0 h0) (T.setTop (mkF m 109 #[.val (.ref a0), .val (.int (Int32.ofNat u0)), .val (.int (Int32.ofNat (H u0))), .val (.int (Int32.ofNat u)), .val (.int (0 : Int32)), .val (.int (Int32.ofNat (2 * u + 1)))] [(.int (Int32.ofNat (H' (2 * u + 1)))), (.int (Int32.ofNat u)), (.ref th)]))
            refine G.iastore P AH (i := u) (own_toInt (by omega)) (by omega) g_th d10_109 (pc' := 110) rfl ?_
            intro T h35 P W34
            replace O := O.other W34 ne_a0_th
            replace AL := AL.other W34 ne_tl_th
            replace AH := AH.same W34
            replace AP := AP.other W34 (Ne.symm ne_th_tp)
            replace K := K.wr W34 (Or.inl (by simp))
            rw [own_upd] at AH
            refine G.aloadN P d10_110 rfl rfl (pc' := 111) rfl ?_
            refine G.getF P (host := "") (Or.inl (wd hw (i := 14) rfl)) Via.refl O.2.2.2.1 d10_111 (pc' := 114) rfl ?_
            intro T P
            refine G.aloadN P d10_114 rfl rfl (pc' := 115) rfl ?_
            refine G.getF P (host := "") (Or.inl (wd hw (i := 12) rfl)) Via.refl O.2.2.1 d10_115 (pc' := 118) rfl ?_
            intro T P
            refine G.iloadN P d10_118 rfl (pc' := 119) rfl ?_
            refine G.iaload P AH (i := u) (own_toInt (by omega)) (by omega) d10_119 (pc' := 120) rfl ?_
            show Goes p e below s n0 room10.cells room10.slots (Q10 Z a0 tl th tp L H Pm n u0 h0) (T.setTop (mkF m 120 #[.val (.ref a0), .val (.int (Int32.ofNat u0)), .val (.int (Int32.ofNat (H u0))), .val (.int (Int32.ofNat u)), .val (.int (0 : Int32)), .val (.int (Int32.ofNat (2 * u + 1)))] [(.int (Int32.ofNat ((own_u H' u (H' (2 * u + 1))) u))), (.ref tp)]))
            refine G.top (x' := (Int32.ofNat (H' (2 * u + 1)))) (congrArg Int32.ofNat (own_u_same _ _ _)) ?_
            have q121 := hH' (2 * u + 1) (by omega)
            refine G.iloadN P d10_120 rfl (pc' := 121) rfl ?_
            refine G.iastore P AP (i := (H' (2 * u + 1))) (own_toInt (by omega)) (by omega) g_tp d10_121 (pc' := 122) rfl ?_
            intro T h38 P W37
            replace O := O.other W37 ne_a0_tp
            replace AL := AL.other W37 ne_tl_tp
            replace AH := AH.other W37 ne_th_tp
            replace AP := AP.same W37
            replace K := K.wr W37 (Or.inl (by simp))
            rw [own_upd] at AP
            refine G.iload P d10_122 rfl (pc' := 124) rfl ?_
            refine G.istoreN P d10_124 rfl (L' := #[.val (.ref a0), .val (.int (Int32.ofNat u0)), .val (.int (Int32.ofNat (H u0))), .val (.int (Int32.ofNat (2 * u + 1))), .val (.int (0 : Int32)), .val (.int (Int32.ofNat (2 * u + 1)))]) rfl (pc' := 125) rfl ?_
            refine G.goto P d10_125 (by decide) (pc' := 12) (by decide) ?_
            exact ih12 _ (by omega) T _ (F - 1) (2 * u + 1) (own_u H' u (H' (2 * u + 1))) (own_u P' (H' (2 * u + 1)) u) (.val (.int (Int32.ofNat (2 * u + 1)))) rfl (by omega) (by omega) (own_u_lt hH' (hH' _ (by omega))) (One.val rfl) (hv.trans (own_dn_go qc hF (by omega) (own_b1 (by rw [hr33]; exact c82)))) O AL AH AP K P
          · refine G.iconst P d10_85 (v := (1 : Int32)) rfl (pc' := 86) rfl ?_
            refine G.goto P d10_86 (by decide) (pc' := 90) (by decide) ?_
            refine G.istore P d10_90 rfl (L' := #[.val (.ref a0), .val (.int (Int32.ofNat u0)), .val (.int (Int32.ofNat (H u0))), .val (.int (Int32.ofNat u)), .val (.int (1 : Int32)), .val (.int (Int32.ofNat (2 * u + 1)))]) rfl (pc' := 92) rfl ?_
            refine G.iload P d10_92 rfl (pc' := 94) rfl ?_
            refine G.if_ne P d10_94 (by decide) (pcY := 125) (by decide) (pcN := 97) rfl (fun _ => ?_) (fun c => absurd c (by decide))
            refine G.goto P d10_125 (by decide) (pc' := 12) (by decide) ?_
            refine G.iload P d10_12 rfl (pc' := 14) rfl ?_
            refine G.if_ne P d10_14 (by decide) (pcY := 128) (by decide) (pcN := 17) rfl (fun _ => ?_) (fun c => absurd c (by decide))
            refine G.aloadN P d10_128 rfl rfl (pc' := 129) rfl ?_
            refine G.getF P (host := "") (Or.inl (wd hw (i := 12) rfl)) Via.refl O.2.2.1 d10_129 (pc' := 132) rfl ?_
            intro T P
            refine G.iloadN P d10_132 rfl (pc' := 133) rfl ?_
            refine G.iloadN P d10_133 rfl (pc' := 134) rfl ?_
            refine G.iastore P AH (i := u) (own_toInt (by omega)) (by omega) g_th d10_134 (pc' := 135) rfl ?_
            intro T h41 P W40
            replace O := O.other W40 ne_a0_th
            replace AL := AL.other W40 ne_tl_th
            replace AH := AH.same W40
            replace AP := AP.other W40 (Ne.symm ne_th_tp)
            replace K := K.wr W40 (Or.inl (by simp))
            rw [own_upd] at AH
            refine G.aloadN P d10_135 rfl rfl (pc' := 136) rfl ?_
            refine G.getF P (host := "") (Or.inl (wd hw (i := 14) rfl)) Via.refl O.2.2.2.1 d10_136 (pc' := 139) rfl ?_
            intro T P
            refine G.iloadN P d10_139 rfl (pc' := 140) rfl ?_
            refine G.iloadN P d10_140 rfl (pc' := 141) rfl ?_
            have q141 := hH u0 hu
            refine G.iastore P AP (i := (H u0)) (own_toInt (by omega)) (by omega) g_tp d10_141 (pc' := 142) rfl ?_
            intro T h44 P W43
            replace O := O.other W43 ne_a0_tp
            replace AL := AL.other W43 ne_tl_tp
            replace AH := AH.other W43 ne_th_tp
            replace AP := AP.same W43
            replace K := K.wr W43 (Or.inl (by simp))
            rw [own_upd] at AP
            have eE := hv.trans (own_dn_end qc (fun q => by have q2 := own_b0 (b := own_bf L (H' (2 * u + 1)) (H u0)) (by rw [hr33]; exact c82); rw [q2] at q; exact absurd q.2 (by decide)))
            replace AH : Ints Z h44 th .int 4 (own_o (own_dn (own_bf L) n (H u0) (n - u0) u0 H Pm).1) := by rw [eE]; exact AH
            replace AP : Ints Z h44 tp .int 4 (own_o (own_dn (own_bf L) n (H u0) (n - u0) u0 H Pm).2) := by rw [eE]; exact AP
            exact G.return_ P rfl d10_142 (by decide) (by decide) ⟨rfl, K, O, AL, AH, AP⟩
      · have q32 : 2 * u + 1 + 1 < n := (own_lt (by omega) (by omega)).mp c32
        refine G.aloadN P d10_35 rfl rfl (pc' := 36) rfl ?_
        refine G.aloadN P d10_36 rfl rfl (pc' := 37) rfl ?_
        refine G.getF P (host := "") (Or.inl (wd hw (i := 12) rfl)) Via.refl O.2.2.1 d10_37 (pc' := 40) rfl ?_
        intro T P
        refine G.iload P d10_40 rfl (pc' := 42) rfl ?_
        refine G.iconst P d10_42 (v := (1 : Int32)) rfl (pc' := 43) rfl ?_
        refine G.iadd P d10_43 (pc' := 44) rfl ?_
        refine G.top (x' := (Int32.ofNat (2 * u + 1 + 1))) (own_succ _) ?_
        refine G.iaload P AH (i := (2 * u + 1 + 1)) (own_toInt (by omega)) (by omega) d10_44 (pc' := 45) rfl ?_
        show Goes p e below s n0 room10.cells room10.slots (Q10 Z a0 tl th tp L H Pm n u0 h0) (T.setTop (mkF m 45 #[.val (.ref a0), .val (.int (Int32.ofNat u0)), .val (.int (Int32.ofNat (H u0))), .val (.int (Int32.ofNat u)), .val (.int (0 : Int32)), .val (.int (Int32.ofNat (2 * u + 1)))] [(.int (Int32.ofNat (H' (2 * u + 1 + 1)))), (.ref a0)]))
        refine G.aloadN P d10_45 rfl rfl (pc' := 46) rfl ?_
        refine G.getF P (host := "") (Or.inl (wd hw (i := 12) rfl)) Via.refl O.2.2.1 d10_46 (pc' := 49) rfl ?_
        intro T P
        refine G.iload P d10_49 rfl (pc' := 51) rfl ?_
        refine G.iaload P AH (i := (2 * u + 1)) (own_toInt (by omega)) (by omega) d10_51 (pc' := 52) rfl ?_
        show Goes p e below s n0 room10.cells room10.slots (Q10 Z a0 tl th tp L H Pm n u0 h0) (T.setTop (mkF m 52 #[.val (.ref a0), .val (.int (Int32.ofNat u0)), .val (.int (Int32.ofNat (H u0))), .val (.int (Int32.ofNat u)), .val (.int (0 : Int32)), .val (.int (Int32.ofNat (2 * u + 1)))] [(.int (Int32.ofNat (H' (2 * u + 1)))), (.int (Int32.ofNat (H' (2 * u + 1 + 1)))), (.ref a0)]))
        refine G.callP P (wd hw (i := 32) rfl) (wd hw (i := 2) rfl) (wd hw (i := 33) rfl) (wd hw (i := 34) rfl) (wd hw (i := 3) rfl) (wd hw (i := 35) rfl) (by decide) O.1 (argsL := [(.int (Int32.ofNat (H' (2 * u + 1 + 1)))), (.int (Int32.ofNat (H' (2 * u + 1))))]) (a := a0) (rm6 hw a0 tl th tp L n (H' (2 * u + 1 + 1)) (H' (2 * u + 1)) h26 O AL ne_a0_tl (hH' _ (by omega)) (hH' _ (by omega)) P.sz) (by decide) (by decide) (cells' := 0) rfl (slots' := 0) rfl (by decide) (by decide) (lenOf pd_6 rfl) rfl (rest := []) rfl (W := 0) (Nat.le_of_eq rfl) d10_52 (pc' := 55) rfl ?_
        rintro T _ _ P ⟨rfl, rfl⟩
        show Goes p e below s n0 room10.cells room10.slots (Q10 Z a0 tl th tp L H Pm n u0 h0) (T.setTop (mkF m 55 #[.val (.ref a0), .val (.int (Int32.ofNat u0)), .val (.int (Int32.ofNat (H u0))), .val (.int (Int32.ofNat u)), .val (.int (0 : Int32)), .val (.int (Int32.ofNat (2 * u + 1)))] [(.int (if own_bf L (H' (2 * u + 1 + 1)) (H' (2 * u + 1)) then (1 : Int32) else (0 : Int32)))]))
        generalize hr46 : (if own_bf L (H' (2 * u + 1 + 1)) (H' (2 * u + 1)) then (1 : Int32) else (0 : Int32)) = r46
        refine G.if_eq P d10_55 (by decide) (pcY := 61) (by decide) (pcN := 58) rfl (fun c55 => ?_) (fun c55 => ?_)
        · have qc : own_c (own_bf L) n u H' = 2 * u + 1 := by unfold own_c; rw [if_neg (fun q => by have q2 := own_b0 (b := own_bf L (H' (2 * u + 1 + 1)) (H' (2 * u + 1))) (by rw [hr46]; exact c55); rw [q2] at q; exact absurd q.2 (by decide))]
          refine G.iload P d10_61 rfl (pc' := 63) rfl ?_
          refine G.aloadN P d10_63 rfl rfl (pc' := 64) rfl ?_
          refine G.getF P (host := "") (Or.inl (wd hw (i := 21) rfl)) Via.refl O.2.2.2.2 d10_64 (pc' := 67) rfl ?_
          intro T P
          refine G.icmp_ge P d10_67 (by decide) (pcY := 85) (by decide) (pcN := 70) rfl (fun c67 => ?_) (fun c67 => ?_)
          · refine G.iconst P d10_85 (v := (1 : Int32)) rfl (pc' := 86) rfl ?_
            refine G.goto P d10_86 (by decide) (pc' := 90) (by decide) ?_
            refine G.istore P d10_90 rfl (L' := #[.val (.ref a0), .val (.int (Int32.ofNat u0)), .val (.int (Int32.ofNat (H u0))), .val (.int (Int32.ofNat u)), .val (.int (1 : Int32)), .val (.int (Int32.ofNat (2 * u + 1)))]) rfl (pc' := 92) rfl ?_
            refine G.iload P d10_92 rfl (pc' := 94) rfl ?_
            refine G.if_ne P d10_94 (by decide) (pcY := 125) (by decide) (pcN := 97) rfl (fun _ => ?_) (fun c => absurd c (by decide))
            refine G.goto P d10_125 (by decide) (pc' := 12) (by decide) ?_
            refine G.iload P d10_12 rfl (pc' := 14) rfl ?_
            refine G.if_ne P d10_14 (by decide) (pcY := 128) (by decide) (pcN := 17) rfl (fun _ => ?_) (fun c => absurd c (by decide))
            refine G.aloadN P d10_128 rfl rfl (pc' := 129) rfl ?_
            refine G.getF P (host := "") (Or.inl (wd hw (i := 12) rfl)) Via.refl O.2.2.1 d10_129 (pc' := 132) rfl ?_
            intro T P
            refine G.iloadN P d10_132 rfl (pc' := 133) rfl ?_
            refine G.iloadN P d10_133 rfl (pc' := 134) rfl ?_
            refine G.iastore P AH (i := u) (own_toInt (by omega)) (by omega) g_th d10_134 (pc' := 135) rfl ?_
            intro T h48 P W47
            replace O := O.other W47 ne_a0_th
            replace AL := AL.other W47 ne_tl_th
            replace AH := AH.same W47
            replace AP := AP.other W47 (Ne.symm ne_th_tp)
            replace K := K.wr W47 (Or.inl (by simp))
            rw [own_upd] at AH
            refine G.aloadN P d10_135 rfl rfl (pc' := 136) rfl ?_
            refine G.getF P (host := "") (Or.inl (wd hw (i := 14) rfl)) Via.refl O.2.2.2.1 d10_136 (pc' := 139) rfl ?_
            intro T P
            refine G.iloadN P d10_139 rfl (pc' := 140) rfl ?_
            refine G.iloadN P d10_140 rfl (pc' := 141) rfl ?_
            have q141 := hH u0 hu
            refine G.iastore P AP (i := (H u0)) (own_toInt (by omega)) (by omega) g_tp d10_141 (pc' := 142) rfl ?_
            intro T h51 P W50
            replace O := O.other W50 ne_a0_tp
            replace AL := AL.other W50 ne_tl_tp
            replace AH := AH.other W50 ne_th_tp
            replace AP := AP.same W50
            replace K := K.wr W50 (Or.inl (by simp))
            rw [own_upd] at AP
            have eE := hv.trans (own_dn_end qc (fun q => c67 ((own_lt (by omega) (by omega)).mpr q.1)))
            replace AH : Ints Z h51 th .int 4 (own_o (own_dn (own_bf L) n (H u0) (n - u0) u0 H Pm).1) := by rw [eE]; exact AH
            replace AP : Ints Z h51 tp .int 4 (own_o (own_dn (own_bf L) n (H u0) (n - u0) u0 H Pm).2) := by rw [eE]; exact AP
            exact G.return_ P rfl d10_142 (by decide) (by decide) ⟨rfl, K, O, AL, AH, AP⟩
          · have q67 : (2 * u + 1) < n := (own_lt (by omega) (by omega)).mp c67
            refine G.aloadN P d10_70 rfl rfl (pc' := 71) rfl ?_
            refine G.aloadN P d10_71 rfl rfl (pc' := 72) rfl ?_
            refine G.getF P (host := "") (Or.inl (wd hw (i := 12) rfl)) Via.refl O.2.2.1 d10_72 (pc' := 75) rfl ?_
            intro T P
            refine G.iload P d10_75 rfl (pc' := 77) rfl ?_
            refine G.iaload P AH (i := (2 * u + 1)) (own_toInt (by omega)) (by omega) d10_77 (pc' := 78) rfl ?_
            show Goes p e below s n0 room10.cells room10.slots (Q10 Z a0 tl th tp L H Pm n u0 h0) (T.setTop (mkF m 78 #[.val (.ref a0), .val (.int (Int32.ofNat u0)), .val (.int (Int32.ofNat (H u0))), .val (.int (Int32.ofNat u)), .val (.int (0 : Int32)), .val (.int (Int32.ofNat (2 * u + 1)))] [(.int (Int32.ofNat (H' (2 * u + 1)))), (.ref a0)]))
            refine G.iloadN P d10_78 rfl (pc' := 79) rfl ?_
            refine G.callP P (wd hw (i := 32) rfl) (wd hw (i := 2) rfl) (wd hw (i := 33) rfl) (wd hw (i := 34) rfl) (wd hw (i := 3) rfl) (wd hw (i := 35) rfl) (by decide) O.1 (argsL := [(.int (Int32.ofNat (H' (2 * u + 1)))), (.int (Int32.ofNat (H u0)))]) (a := a0) (rm6 hw a0 tl th tp L n (H' (2 * u + 1)) (H u0) h26 O AL ne_a0_tl (hH' _ (by omega)) (hH u0 hu) P.sz) (by decide) (by decide) (cells' := 0) rfl (slots' := 0) rfl (by decide) (by decide) (lenOf pd_6 rfl) rfl (rest := []) rfl (W := 0) (Nat.le_of_eq rfl) d10_79 (pc' := 82) rfl ?_
            rintro T _ _ P ⟨rfl, rfl⟩
            show Goes p e below s n0 room10.cells room10.slots (Q10 Z a0 tl th tp L H Pm n u0 h0) (T.setTop (mkF m 82 #[.val (.ref a0), .val (.int (Int32.ofNat u0)), .val (.int (Int32.ofNat (H u0))), .val (.int (Int32.ofNat u)), .val (.int (0 : Int32)), .val (.int (Int32.ofNat (2 * u + 1)))] [(.int (if own_bf L (H' (2 * u + 1)) (H u0) then (1 : Int32) else (0 : Int32)))]))
            generalize hr53 : (if own_bf L (H' (2 * u + 1)) (H u0) then (1 : Int32) else (0 : Int32)) = r53
            refine G.if_ne P d10_82 (by decide) (pcY := 89) (by decide) (pcN := 85) rfl (fun c82 => ?_) (fun c82 => ?_)
            · refine G.iconst P d10_89 (v := (0 : Int32)) rfl (pc' := 90) rfl ?_
              refine G.istore P d10_90 rfl (L' := #[.val (.ref a0), .val (.int (Int32.ofNat u0)), .val (.int (Int32.ofNat (H u0))), .val (.int (Int32.ofNat u)), .val (.int (0 : Int32)), .val (.int (Int32.ofNat (2 * u + 1)))]) rfl (pc' := 92) rfl ?_
              refine G.iload P d10_92 rfl (pc' := 94) rfl ?_
              refine G.if_ne P d10_94 (by decide) (pcY := 125) (by decide) (pcN := 97) rfl (fun c => absurd c (by decide)) (fun _ => ?_)
              refine G.aloadN P d10_97 rfl rfl (pc' := 98) rfl ?_
              refine G.getF P (host := "") (Or.inl (wd hw (i := 12) rfl)) Via.refl O.2.2.1 d10_98 (pc' := 101) rfl ?_
              intro T P
              refine G.iloadN P d10_101 rfl (pc' := 102) rfl ?_
              refine G.aloadN P d10_102 rfl rfl (pc' := 103) rfl ?_
              refine G.getF P (host := "") (Or.inl (wd hw (i := 12) rfl)) Via.refl O.2.2.1 d10_103 (pc' := 106) rfl ?_
              intro T P
              refine G.iload P d10_106 rfl (pc' := 108) rfl ?_
              refine G.iaload P AH (i := (2 * u + 1)) (own_toInt (by omega)) (by omega) d10_108 (pc' := 109) rfl ?_
              show Goes p e below s n0 room10.cells room10.slots (Q10 Z a0 tl th tp L H Pm n u0 h0) (T.setTop (mkF m 109 #[.val (.ref a0), .val (.int (Int32.ofNat u0)), .val (.int (Int32.ofNat (H u0))), .val (.int (Int32.ofNat u)), .val (.int (0 : Int32)), .val (.int (Int32.ofNat (2 * u + 1)))] [(.int (Int32.ofNat (H' (2 * u + 1)))), (.int (Int32.ofNat u)), (.ref th)]))
              refine G.iastore P AH (i := u) (own_toInt (by omega)) (by omega) g_th d10_109 (pc' := 110) rfl ?_
              intro T h55 P W54
              replace O := O.other W54 ne_a0_th
              replace AL := AL.other W54 ne_tl_th
              replace AH := AH.same W54
              replace AP := AP.other W54 (Ne.symm ne_th_tp)
              replace K := K.wr W54 (Or.inl (by simp))
              rw [own_upd] at AH
              refine G.aloadN P d10_110 rfl rfl (pc' := 111) rfl ?_
              refine G.getF P (host := "") (Or.inl (wd hw (i := 14) rfl)) Via.refl O.2.2.2.1 d10_111 (pc' := 114) rfl ?_
              intro T P
              refine G.aloadN P d10_114 rfl rfl (pc' := 115) rfl ?_
              refine G.getF P (host := "") (Or.inl (wd hw (i := 12) rfl)) Via.refl O.2.2.1 d10_115 (pc' := 118) rfl ?_
              intro T P
              refine G.iloadN P d10_118 rfl (pc' := 119) rfl ?_
              refine G.iaload P AH (i := u) (own_toInt (by omega)) (by omega) d10_119 (pc' := 120) rfl ?_
              show Goes p e below s n0 room10.cells room10.slots (Q10 Z a0 tl th tp L H Pm n u0 h0) (T.setTop (mkF m 120 #[.val (.ref a0), .val (.int (Int32.ofNat u0)), .val (.int (Int32.ofNat (H u0))), .val (.int (Int32.ofNat u)), .val (.int (0 : Int32)), .val (.int (Int32.ofNat (2 * u + 1)))] [(.int (Int32.ofNat ((own_u H' u (H' (2 * u + 1))) u))), (.ref tp)]))
              refine G.top (x' := (Int32.ofNat (H' (2 * u + 1)))) (congrArg Int32.ofNat (own_u_same _ _ _)) ?_
              have q121 := hH' (2 * u + 1) (by omega)
              refine G.iloadN P d10_120 rfl (pc' := 121) rfl ?_
              refine G.iastore P AP (i := (H' (2 * u + 1))) (own_toInt (by omega)) (by omega) g_tp d10_121 (pc' := 122) rfl ?_
              intro T h58 P W57
              replace O := O.other W57 ne_a0_tp
              replace AL := AL.other W57 ne_tl_tp
              replace AH := AH.other W57 ne_th_tp
              replace AP := AP.same W57
              replace K := K.wr W57 (Or.inl (by simp))
              rw [own_upd] at AP
              refine G.iload P d10_122 rfl (pc' := 124) rfl ?_
              refine G.istoreN P d10_124 rfl (L' := #[.val (.ref a0), .val (.int (Int32.ofNat u0)), .val (.int (Int32.ofNat (H u0))), .val (.int (Int32.ofNat (2 * u + 1))), .val (.int (0 : Int32)), .val (.int (Int32.ofNat (2 * u + 1)))]) rfl (pc' := 125) rfl ?_
              refine G.goto P d10_125 (by decide) (pc' := 12) (by decide) ?_
              exact ih12 _ (by omega) T _ (F - 1) (2 * u + 1) (own_u H' u (H' (2 * u + 1))) (own_u P' (H' (2 * u + 1)) u) (.val (.int (Int32.ofNat (2 * u + 1)))) rfl (by omega) (by omega) (own_u_lt hH' (hH' _ (by omega))) (One.val rfl) (hv.trans (own_dn_go qc hF (by omega) (own_b1 (by rw [hr53]; exact c82)))) O AL AH AP K P
            · refine G.iconst P d10_85 (v := (1 : Int32)) rfl (pc' := 86) rfl ?_
              refine G.goto P d10_86 (by decide) (pc' := 90) (by decide) ?_
              refine G.istore P d10_90 rfl (L' := #[.val (.ref a0), .val (.int (Int32.ofNat u0)), .val (.int (Int32.ofNat (H u0))), .val (.int (Int32.ofNat u)), .val (.int (1 : Int32)), .val (.int (Int32.ofNat (2 * u + 1)))]) rfl (pc' := 92) rfl ?_
              refine G.iload P d10_92 rfl (pc' := 94) rfl ?_
              refine G.if_ne P d10_94 (by decide) (pcY := 125) (by decide) (pcN := 97) rfl (fun _ => ?_) (fun c => absurd c (by decide))
              refine G.goto P d10_125 (by decide) (pc' := 12) (by decide) ?_
              refine G.iload P d10_12 rfl (pc' := 14) rfl ?_
              refine G.if_ne P d10_14 (by decide) (pcY := 128) (by decide) (pcN := 17) rfl (fun _ => ?_) (fun c => absurd c (by decide))
              refine G.aloadN P d10_128 rfl rfl (pc' := 129) rfl ?_
              refine G.getF P (host := "") (Or.inl (wd hw (i := 12) rfl)) Via.refl O.2.2.1 d10_129 (pc' := 132) rfl ?_
              intro T P
              refine G.iloadN P d10_132 rfl (pc' := 133) rfl ?_
              refine G.iloadN P d10_133 rfl (pc' := 134) rfl ?_
              refine G.iastore P AH (i := u) (own_toInt (by omega)) (by omega) g_th d10_134 (pc' := 135) rfl ?_
              intro T h61 P W60
              replace O := O.other W60 ne_a0_th
              replace AL := AL.other W60 ne_tl_th
              replace AH := AH.same W60
              replace AP := AP.other W60 (Ne.symm ne_th_tp)
              replace K := K.wr W60 (Or.inl (by simp))
              rw [own_upd] at AH
              refine G.aloadN P d10_135 rfl rfl (pc' := 136) rfl ?_
              refine G.getF P (host := "") (Or.inl (wd hw (i := 14) rfl)) Via.refl O.2.2.2.1 d10_136 (pc' := 139) rfl ?_
              intro T P
              refine G.iloadN P d10_139 rfl (pc' := 140) rfl ?_
              refine G.iloadN P d10_140 rfl (pc' := 141) rfl ?_
              have q141 := hH u0 hu
              refine G.iastore P AP (i := (H u0)) (own_toInt (by omega)) (by omega) g_tp d10_141 (pc' := 142) rfl ?_
              intro T h64 P W63
              replace O := O.other W63 ne_a0_tp
              replace AL := AL.other W63 ne_tl_tp
              replace AH := AH.other W63 ne_th_tp
              replace AP := AP.same W63
              replace K := K.wr W63 (Or.inl (by simp))
              rw [own_upd] at AP
              have eE := hv.trans (own_dn_end qc (fun q => by have q2 := own_b0 (b := own_bf L (H' (2 * u + 1)) (H u0)) (by rw [hr53]; exact c82); rw [q2] at q; exact absurd q.2 (by decide)))
              replace AH : Ints Z h64 th .int 4 (own_o (own_dn (own_bf L) n (H u0) (n - u0) u0 H Pm).1) := by rw [eE]; exact AH
              replace AP : Ints Z h64 tp .int 4 (own_o (own_dn (own_bf L) n (H u0) (n - u0) u0 H Pm).2) := by rw [eE]; exact AP
              exact G.return_ P rfl d10_142 (by decide) (by decide) ⟨rfl, K, O, AL, AH, AP⟩
        · refine G.iinc P d10_58 rfl (v' := (Int32.ofNat (2 * u + 1 + 1))) (own_succ _) (L' := #[.val (.ref a0), .val (.int (Int32.ofNat u0)), .val (.int (Int32.ofNat (H u0))), .val (.int (Int32.ofNat u)), .val (.int (0 : Int32)), .val (.int (Int32.ofNat (2 * u + 1 + 1)))]) rfl (pc' := 61) rfl ?_
          have qc : own_c (own_bf L) n u H' = 2 * u + 1 + 1 := by unfold own_c; rw [if_pos ⟨q32, own_b1 (by rw [hr46]; exact c55)⟩]
          refine G.iload P d10_61 rfl (pc' := 63) rfl ?_
          refine G.aloadN P d10_63 rfl rfl (pc' := 64) rfl ?_
          refine G.getF P (host := "") (Or.inl (wd hw (i := 21) rfl)) Via.refl O.2.2.2.2 d10_64 (pc' := 67) rfl ?_
          intro T P
          refine G.icmp_ge P d10_67 (by decide) (pcY := 85) (by decide) (pcN := 70) rfl (fun c => absurd c32 c) (fun _ => ?_)
          have q67 : (2 * u + 1 + 1) < n := q32
          refine G.aloadN P d10_70 rfl rfl (pc' := 71) rfl ?_
          refine G.aloadN P d10_71 rfl rfl (pc' := 72) rfl ?_
          refine G.getF P (host := "") (Or.inl (wd hw (i := 12) rfl)) Via.refl O.2.2.1 d10_72 (pc' := 75) rfl ?_
          intro T P
          refine G.iload P d10_75 rfl (pc' := 77) rfl ?_
          refine G.iaload P AH (i := (2 * u + 1 + 1)) (own_toInt (by omega)) (by omega) d10_77 (pc' := 78) rfl ?_
          show Goes p e below s n0 room10.cells room10.slots (Q10 Z a0 tl th tp L H Pm n u0 h0) (T.setTop (mkF m 78 #[.val (.ref a0), .val (.int (Int32.ofNat u0)), .val (.int (Int32.ofNat (H u0))), .val (.int (Int32.ofNat u)), .val (.int (0 : Int32)), .val (.int (Int32.ofNat (2 * u + 1 + 1)))] [(.int (Int32.ofNat (H' (2 * u + 1 + 1)))), (.ref a0)]))
          refine G.iloadN P d10_78 rfl (pc' := 79) rfl ?_
          refine G.callP P (wd hw (i := 32) rfl) (wd hw (i := 2) rfl) (wd hw (i := 33) rfl) (wd hw (i := 34) rfl) (wd hw (i := 3) rfl) (wd hw (i := 35) rfl) (by decide) O.1 (argsL := [(.int (Int32.ofNat (H' (2 * u + 1 + 1)))), (.int (Int32.ofNat (H u0)))]) (a := a0) (rm6 hw a0 tl th tp L n (H' (2 * u + 1 + 1)) (H u0) h26 O AL ne_a0_tl (hH' _ (by omega)) (hH u0 hu) P.sz) (by decide) (by decide) (cells' := 0) rfl (slots' := 0) rfl (by decide) (by decide) (lenOf pd_6 rfl) rfl (rest := []) rfl (W := 0) (Nat.le_of_eq rfl) d10_79 (pc' := 82) rfl ?_
          rintro T _ _ P ⟨rfl, rfl⟩
          show Goes p e below s n0 room10.cells room10.slots (Q10 Z a0 tl th tp L H Pm n u0 h0) (T.setTop (mkF m 82 #[.val (.ref a0), .val (.int (Int32.ofNat u0)), .val (.int (Int32.ofNat (H u0))), .val (.int (Int32.ofNat u)), .val (.int (0 : Int32)), .val (.int (Int32.ofNat (2 * u + 1 + 1)))] [(.int (if own_bf L (H' (2 * u + 1 + 1)) (H u0) then (1 : Int32) else (0 : Int32)))]))
          generalize hr66 : (if own_bf L (H' (2 * u + 1 + 1)) (H u0) then (1 : Int32) else (0 : Int32)) = r66
          refine G.if_ne P d10_82 (by decide) (pcY := 89) (by decide) (pcN := 85) rfl (fun c82 => ?_) (fun c82 => ?_)
          · refine G.iconst P d10_89 (v := (0 : Int32)) rfl (pc' := 90) rfl ?_
            refine G.istore P d10_90 rfl (L' := #[.val (.ref a0), .val (.int (Int32.ofNat u0)), .val (.int (Int32.ofNat (H u0))), .val (.int (Int32.ofNat u)), .val (.int (0 : Int32)), .val (.int (Int32.ofNat (2 * u + 1 + 1)))]) rfl (pc' := 92) rfl ?_
            refine G.iload P d10_92 rfl (pc' := 94) rfl ?_
            refine G.if_ne P d10_94 (by decide) (pcY := 125) (by decide) (pcN := 97) rfl (fun c => absurd c (by decide)) (fun _ => ?_)
            refine G.aloadN P d10_97 rfl rfl (pc' := 98) rfl ?_
            refine G.getF P (host := "") (Or.inl (wd hw (i := 12) rfl)) Via.refl O.2.2.1 d10_98 (pc' := 101) rfl ?_
            intro T P
            refine G.iloadN P d10_101 rfl (pc' := 102) rfl ?_
            refine G.aloadN P d10_102 rfl rfl (pc' := 103) rfl ?_
            refine G.getF P (host := "") (Or.inl (wd hw (i := 12) rfl)) Via.refl O.2.2.1 d10_103 (pc' := 106) rfl ?_
            intro T P
            refine G.iload P d10_106 rfl (pc' := 108) rfl ?_
            refine G.iaload P AH (i := (2 * u + 1 + 1)) (own_toInt (by omega)) (by omega) d10_108 (pc' := 109) rfl ?_
            show Goes p e below s n0 room10.cells room10.slots (Q10 Z a0 tl th tp L H Pm n u0 h0) (T.setTop (mkF m 109 #[.val (.ref a0), .val (.int (Int32.ofNat u0)), .val (.int (Int32.ofNat (H u0))), .val (.int (Int32.ofNat u)), .val (.int (0 : Int32)), .val (.int (Int32.ofNat (2 * u + 1 + 1)))] [(.int (Int32.ofNat (H' (2 * u + 1 + 1)))), (.int (Int32.ofNat u)), (.ref th)]))
            refine G.iastore P AH (i := u) (own_toInt (by omega)) (by omega) g_th d10_109 (pc' := 110) rfl ?_
            intro T h68 P W67
            replace O := O.other W67 ne_a0_th
            replace AL := AL.other W67 ne_tl_th
            replace AH := AH.same W67
            replace AP := AP.other W67 (Ne.symm ne_th_tp)
            replace K := K.wr W67 (Or.inl (by simp))
            rw [own_upd] at AH
            refine G.aloadN P d10_110 rfl rfl (pc' := 111) rfl ?_
            refine G.getF P (host := "") (Or.inl (wd hw (i := 14) rfl)) Via.refl O.2.2.2.1 d10_111 (pc' := 114) rfl ?_
            intro T P
            refine G.aloadN P d10_114 rfl rfl (pc' := 115) rfl ?_
            refine G.getF P (host := "") (Or.inl (wd hw (i := 12) rfl)) Via.refl O.2.2.1 d10_115 (pc' := 118) rfl ?_
            intro T P
            refine G.iloadN P d10_118 rfl (pc' := 119) rfl ?_
            refine G.iaload P AH (i := u) (own_toInt (by omega)) (by omega) d10_119 (pc' := 120) rfl ?_
            show Goes p e below s n0 room10.cells room10.slots (Q10 Z a0 tl th tp L H Pm n u0 h0) (T.setTop (mkF m 120 #[.val (.ref a0), .val (.int (Int32.ofNat u0)), .val (.int (Int32.ofNat (H u0))), .val (.int (Int32.ofNat u)), .val (.int (0 : Int32)), .val (.int (Int32.ofNat (2 * u + 1 + 1)))] [(.int (Int32.ofNat ((own_u H' u (H' (2 * u + 1 + 1))) u))), (.ref tp)]))
            refine G.top (x' := (Int32.ofNat (H' (2 * u + 1 + 1)))) (congrArg Int32.ofNat (own_u_same _ _ _)) ?_
            have q121 := hH' (2 * u + 1 + 1) (by omega)
            refine G.iloadN P d10_120 rfl (pc' := 121) rfl ?_
            refine G.iastore P AP (i := (H' (2 * u + 1 + 1))) (own_toInt (by omega)) (by omega) g_tp d10_121 (pc' := 122) rfl ?_
            intro T h71 P W70
            replace O := O.other W70 ne_a0_tp
            replace AL := AL.other W70 ne_tl_tp
            replace AH := AH.other W70 ne_th_tp
            replace AP := AP.same W70
            replace K := K.wr W70 (Or.inl (by simp))
            rw [own_upd] at AP
            refine G.iload P d10_122 rfl (pc' := 124) rfl ?_
            refine G.istoreN P d10_124 rfl (L' := #[.val (.ref a0), .val (.int (Int32.ofNat u0)), .val (.int (Int32.ofNat (H u0))), .val (.int (Int32.ofNat (2 * u + 1 + 1))), .val (.int (0 : Int32)), .val (.int (Int32.ofNat (2 * u + 1 + 1)))]) rfl (pc' := 125) rfl ?_
            refine G.goto P d10_125 (by decide) (pc' := 12) (by decide) ?_
            exact ih12 _ (by omega) T _ (F - 1) (2 * u + 1 + 1) (own_u H' u (H' (2 * u + 1 + 1))) (own_u P' (H' (2 * u + 1 + 1)) u) (.val (.int (Int32.ofNat (2 * u + 1 + 1)))) rfl (by omega) (by omega) (own_u_lt hH' (hH' _ (by omega))) (One.val rfl) (hv.trans (own_dn_go qc hF (by omega) (own_b1 (by rw [hr66]; exact c82)))) O AL AH AP K P
          · refine G.iconst P d10_85 (v := (1 : Int32)) rfl (pc' := 86) rfl ?_
            refine G.goto P d10_86 (by decide) (pc' := 90) (by decide) ?_
            refine G.istore P d10_90 rfl (L' := #[.val (.ref a0), .val (.int (Int32.ofNat u0)), .val (.int (Int32.ofNat (H u0))), .val (.int (Int32.ofNat u)), .val (.int (1 : Int32)), .val (.int (Int32.ofNat (2 * u + 1 + 1)))]) rfl (pc' := 92) rfl ?_
            refine G.iload P d10_92 rfl (pc' := 94) rfl ?_
            refine G.if_ne P d10_94 (by decide) (pcY := 125) (by decide) (pcN := 97) rfl (fun _ => ?_) (fun c => absurd c (by decide))
            refine G.goto P d10_125 (by decide) (pc' := 12) (by decide) ?_
            refine G.iload P d10_12 rfl (pc' := 14) rfl ?_
            refine G.if_ne P d10_14 (by decide) (pcY := 128) (by decide) (pcN := 17) rfl (fun _ => ?_) (fun c => absurd c (by decide))
            refine G.aloadN P d10_128 rfl rfl (pc' := 129) rfl ?_
            refine G.getF P (host := "") (Or.inl (wd hw (i := 12) rfl)) Via.refl O.2.2.1 d10_129 (pc' := 132) rfl ?_
            intro T P
            refine G.iloadN P d10_132 rfl (pc' := 133) rfl ?_
            refine G.iloadN P d10_133 rfl (pc' := 134) rfl ?_
            refine G.iastore P AH (i := u) (own_toInt (by omega)) (by omega) g_th d10_134 (pc' := 135) rfl ?_
            intro T h74 P W73
            replace O := O.other W73 ne_a0_th
            replace AL := AL.other W73 ne_tl_th
            replace AH := AH.same W73
            replace AP := AP.other W73 (Ne.symm ne_th_tp)
            replace K := K.wr W73 (Or.inl (by simp))
            rw [own_upd] at AH
            refine G.aloadN P d10_135 rfl rfl (pc' := 136) rfl ?_
            refine G.getF P (host := "") (Or.inl (wd hw (i := 14) rfl)) Via.refl O.2.2.2.1 d10_136 (pc' := 139) rfl ?_
            intro T P
            refine G.iloadN P d10_139 rfl (pc' := 140) rfl ?_
            refine G.iloadN P d10_140 rfl (pc' := 141) rfl ?_
            have q141 := hH u0 hu
            refine G.iastore P AP (i := (H u0)) (own_toInt (by omega)) (by omega) g_tp d10_141 (pc' := 142) rfl ?_
            intro T h77 P W76
            replace O := O.other W76 ne_a0_tp
            replace AL := AL.other W76 ne_tl_tp
            replace AH := AH.other W76 ne_th_tp
            replace AP := AP.same W76
            replace K := K.wr W76 (Or.inl (by simp))
            rw [own_upd] at AP
            have eE := hv.trans (own_dn_end qc (fun q => by have q2 := own_b0 (b := own_bf L (H' (2 * u + 1 + 1)) (H u0)) (by rw [hr66]; exact c82); rw [q2] at q; exact absurd q.2 (by decide)))
            replace AH : Ints Z h77 th .int 4 (own_o (own_dn (own_bf L) n (H u0) (n - u0) u0 H Pm).1) := by rw [eE]; exact AH
            replace AP : Ints Z h77 tp .int 4 (own_o (own_dn (own_bf L) n (H u0) (n - u0) u0 H Pm).2) := by rw [eE]; exact AP
            exact G.return_ P rfl d10_142 (by decide) (by decide) ⟨rfl, K, O, AL, AH, AP⟩
  exact loop12 _ T _ (n - u0) u0 H Pm .unset rfl hu (Nat.le_refl _) hH One.u rfl O AL AH AP K P
theorem d9_0 : decode prog_27_method_4_code 0 = .ok (.aload_n 0, 1) := by decide +kernel
theorem d9_1 : decode prog_27_method_4_code 1 = .ok (.aload_n 0, 1) := by decide +kernel
theorem d9_2 : decode prog_27_method_4_code 2 = .ok (.getfield 18, 3) := by decide +kernel
theorem d9_5 : decode prog_27_method_4_code 5 = .ok (.iload_n 1, 1) := by decide +kernel
theorem d9_6 : decode prog_27_method_4_code 6 = .ok (.iaload, 1) := by decide +kernel
theorem d9_7 : decode prog_27_method_4_code 7 = .ok (.invokevirtual 25, 3) := by decide +kernel
theorem d9_10 : decode prog_27_method_4_code 10 = .ok (.aload_n 0, 1) := by decide +kernel
theorem d9_11 : decode prog_27_method_4_code 11 = .ok (.aload_n 0, 1) := by decide +kernel
theorem d9_12 : decode prog_27_method_4_code 12 = .ok (.getfield 18, 3) := by decide +kernel
theorem d9_15 : decode prog_27_method_4_code 15 = .ok (.iload_n 1, 1) := by decide +kernel
theorem d9_16 : decode prog_27_method_4_code 16 = .ok (.iaload, 1) := by decide +kernel
theorem d9_17 : decode prog_27_method_4_code 17 = .ok (.invokevirtual 32, 3) := by decide +kernel
theorem d9_20 : decode prog_27_method_4_code 20 = .ok (.return_, 1) := by decide +kernel
theorem pn_9 : plainName "com/example/tasks_to_users/taskstousers/Planner$Waiting" = true := by first | (simp [plainName, overriddenIn]; done) | decide +kernel
theorem pd_9 : parseMethodDescriptor "(I)V" = some ⟨[.int], none⟩ := by decide +kernel
abbrev room9 : Room := { frames := 2, cells := 0, slots := 0, locals := 31 }
def Q9 (Z : State) (a0 : Addr) (tl : Addr) (th : Addr) (tp : Addr) (L : Nat → Int32) (H : Nat → Nat) (Pm : Nat → Nat) (n : Nat) (g : Nat) (h0 : Heap) (vv : Option Value) (hh : Heap) : Prop := vv = none ∧ Keep h0 hh [th, tp] ∧ ObWT Z hh a0 (.ref tl) (.ref th) (.ref tp) (.int (Int32.ofNat n)) ∧ Ints Z hh tl .int 4 L ∧ Ints Z hh th .int 4 (own_o (own_mv (own_bf L) n g H Pm).1) ∧ Ints Z hh tp .int 4 (own_o (own_mv (own_bf L) n g H Pm).2)
theorem ef_9 (m : MethodId) (a0 : Addr) (p1 : Int32) : entryFrame m #[(.ref a0), (.int p1)] 2 = mkF m 0 #[.val (.ref a0), .val (.int p1)] [] := by first | (simp [entryFrame, mkF, argsToLocals, Value.category]; done) | rfl
set_option maxRecDepth 65536 in
set_option maxHeartbeats 40000000 in
theorem rm9 {l : Launch} {Z : State} {aw : Array Value} (hw : ∀ d ∈ tables_1, d.before aw Z = true) {n0 : Nat} (a0 : Addr) (tl : Addr) (th : Addr) (tp : Addr) (L : Nat → Int32) (H : Nat → Nat) (Pm : Nat → Nat) (n : Nat) (g : Nat) (h0 : Heap) (O : ObWT Z h0 a0 (.ref tl) (.ref th) (.ref tp) (.int (Int32.ofNat n))) (AL : Ints Z h0 tl .int 4 L) (AH : Ints Z h0 th .int 4 (own_o H)) (AP : Ints Z h0 tp .int 4 (own_o Pm)) (ne_a0_tl : a0 ≠ tl) (ne_a0_th : a0 ≠ th) (ne_a0_tp : a0 ≠ tp) (ne_tl_th : tl ≠ th) (ne_tl_tp : tl ≠ tp) (ne_th_tp : th ≠ tp) (g_th : n0 ≤ th) (g_tp : n0 ≤ tp) (hn : n ≤ 4) (hH : ∀ i, i < 4 → H i < 4) (hP : ∀ i, i < 4 → Pm i < 4) (hg : g < 4) (hn0 : n0 ≤ h0.size) :
    Con l Z (⟨"com/example/tasks_to_users/taskstousers/Planner$Waiting", "moved", "(I)V"⟩ : MethodName) prog_27_method_4_code 2 none room9 n0 #[(.ref a0), (.int (Int32.ofNat g))] h0 (Q9 Z a0 tl th tp L H Pm n g h0) := by
  refine Con.body (plainFor_of_name pn_9) hn0 (fun m => ef_9 m a0 (Int32.ofNat g)) ?_
  intro p e s m below meth c T P
  have K := Keep.refl h0 [th, tp]
  refine G.aloadN P d9_0 rfl rfl (pc' := 1) rfl ?_
  refine G.aloadN P d9_1 rfl rfl (pc' := 2) rfl ?_
  refine G.getF P (host := "") (Or.inl (wd hw (i := 14) rfl)) Via.refl O.2.2.2.1 d9_2 (pc' := 5) rfl ?_
  intro T P
  refine G.iloadN P d9_5 rfl (pc' := 6) rfl ?_
  refine G.iaload P AP (i := g) (own_toInt (by omega)) (by omega) d9_6 (pc' := 7) rfl ?_
  show Goes p e below s n0 room9.cells room9.slots (Q9 Z a0 tl th tp L H Pm n g h0) (T.setTop (mkF m 7 #[.val (.ref a0), .val (.int (Int32.ofNat g))] [(.int (Int32.ofNat (Pm g))), (.ref a0)]))
  refine G.callP P (wd hw (i := 28) rfl) (wd hw (i := 2) rfl) (wd hw (i := 29) rfl) (wd hw (i := 30) rfl) (wd hw (i := 3) rfl) (wd hw (i := 31) rfl) (by decide) O.1 (argsL := [(.int (Int32.ofNat (Pm g)))]) (a := a0) (rm5 hw a0 tl th tp L H Pm n (Pm g) h0 O AL AH AP ne_a0_tl ne_a0_th ne_a0_tp ne_tl_th ne_tl_tp ne_th_tp g_th g_tp hn hH hP (hP g hg) P.sz) (by decide) (by decide) (cells' := 0) rfl (slots' := 0) rfl (by decide) (by decide) (lenOf pd_5 rfl) rfl (rest := []) rfl (W := 0) (Nat.le_of_eq rfl) d9_7 (pc' := 10) rfl ?_
  clear O
  clear AL
  clear AH
  clear AP
  rintro T h79 _ P ⟨rfl, K80, O, AL, AH, AP⟩
  replace K := K.trans K80 (by simp)
  show Goes p e below s n0 room9.cells room9.slots (Q9 Z a0 tl th tp L H Pm n g h0) (T.setTop (mkF m 10 #[.val (.ref a0), .val (.int (Int32.ofNat g))] []))
  refine G.aloadN P d9_10 rfl rfl (pc' := 11) rfl ?_
  refine G.aloadN P d9_11 rfl rfl (pc' := 12) rfl ?_
  refine G.getF P (host := "") (Or.inl (wd hw (i := 14) rfl)) Via.refl O.2.2.2.1 d9_12 (pc' := 15) rfl ?_
  intro T P
  refine G.iloadN P d9_15 rfl (pc' := 16) rfl ?_
  refine G.iaload P AP (i := g) (own_toInt (by omega)) (by omega) d9_16 (pc' := 17) rfl ?_
  show Goes p e below s n0 room9.cells room9.slots (Q9 Z a0 tl th tp L H Pm n g h0) (T.setTop (mkF m 17 #[.val (.ref a0), .val (.int (Int32.ofNat g))] [(.int (Int32.ofNat ((own_up (own_bf L) (H (Pm g)) (Pm g) (Pm g) H Pm).2 g))), (.ref a0)]))
  refine G.callP P (wd hw (i := 51) rfl) (wd hw (i := 2) rfl) (wd hw (i := 52) rfl) (wd hw (i := 53) rfl) (wd hw (i := 3) rfl) (wd hw (i := 54) rfl) (by decide) O.1 (argsL := [(.int (Int32.ofNat ((own_up (own_bf L) (H (Pm g)) (Pm g) (Pm g) H Pm).2 g)))]) (a := a0) (rm10 hw a0 tl th tp L ((own_up (own_bf L) (H (Pm g)) (Pm g) (Pm g) H Pm).1) ((own_up (own_bf L) (H (Pm g)) (Pm g) (Pm g) H Pm).2) n ((own_up (own_bf L) (H (Pm g)) (Pm g) (Pm g) H Pm).2 g) h79 O AL AH AP ne_a0_tl ne_a0_th ne_a0_tp ne_tl_th ne_tl_tp ne_th_tp g_th g_tp hn (own_up_lt (b := own_bf L) (hH _ (hP g hg)) (Pm g) (Pm g) H Pm (hP g hg) hH hP).1 (own_up_lt (b := own_bf L) (hH _ (hP g hg)) (Pm g) (Pm g) H Pm (hP g hg) hH hP).2 ((own_up_lt (b := own_bf L) (hH _ (hP g hg)) (Pm g) (Pm g) H Pm (hP g hg) hH hP).2 g hg) P.sz) (by decide) (by decide) (cells' := 0) rfl (slots' := 0) rfl (by decide) (by decide) (lenOf pd_10 rfl) rfl (rest := []) rfl (W := 0) (Nat.le_of_eq rfl) d9_17 (pc' := 20) rfl ?_
  clear O
  clear AL
  clear AH
  clear AP
  rintro T h81 _ P ⟨rfl, K82, O, AL, AH, AP⟩
  replace K := K.trans K82 (by simp)
  show Goes p e below s n0 room9.cells room9.slots (Q9 Z a0 tl th tp L H Pm n g h0) (T.setTop (mkF m 20 #[.val (.ref a0), .val (.int (Int32.ofNat g))] []))
  exact G.return_ P rfl d9_20 (by decide) (by decide) ⟨rfl, K, O, AL, AH, AP⟩
theorem d4_0 : decode prog_27_method_2_code 0 = .ok (.aload_n 0, 1) := by decide +kernel
theorem d4_1 : decode prog_27_method_2_code 1 = .ok (.getfield 15, 3) := by decide +kernel
theorem d4_4 : decode prog_27_method_2_code 4 = .ok (.aload_n 0, 1) := by decide +kernel
theorem d4_5 : decode prog_27_method_2_code 5 = .ok (.getfield 21, 3) := by decide +kernel
theorem d4_8 : decode prog_27_method_2_code 8 = .ok (.iload_n 1, 1) := by decide +kernel
theorem d4_9 : decode prog_27_method_2_code 9 = .ok (.iastore, 1) := by decide +kernel
theorem d4_10 : decode prog_27_method_2_code 10 = .ok (.aload_n 0, 1) := by decide +kernel
theorem d4_11 : decode prog_27_method_2_code 11 = .ok (.getfield 18, 3) := by decide +kernel
theorem d4_14 : decode prog_27_method_2_code 14 = .ok (.iload_n 1, 1) := by decide +kernel
theorem d4_15 : decode prog_27_method_2_code 15 = .ok (.aload_n 0, 1) := by decide +kernel
theorem d4_16 : decode prog_27_method_2_code 16 = .ok (.getfield 21, 3) := by decide +kernel
theorem d4_19 : decode prog_27_method_2_code 19 = .ok (.iastore, 1) := by decide +kernel
theorem d4_20 : decode prog_27_method_2_code 20 = .ok (.aload_n 0, 1) := by decide +kernel
theorem d4_21 : decode prog_27_method_2_code 21 = .ok (.dup, 1) := by decide +kernel
theorem d4_22 : decode prog_27_method_2_code 22 = .ok (.getfield 21, 3) := by decide +kernel
theorem d4_25 : decode prog_27_method_2_code 25 = .ok (.iconst 1, 1) := by decide +kernel
theorem d4_26 : decode prog_27_method_2_code 26 = .ok (.iadd, 1) := by decide +kernel
theorem d4_27 : decode prog_27_method_2_code 27 = .ok (.putfield 21, 3) := by decide +kernel
theorem d4_30 : decode prog_27_method_2_code 30 = .ok (.aload_n 0, 1) := by decide +kernel
theorem d4_31 : decode prog_27_method_2_code 31 = .ok (.aload_n 0, 1) := by decide +kernel
theorem d4_32 : decode prog_27_method_2_code 32 = .ok (.getfield 21, 3) := by decide +kernel
theorem d4_35 : decode prog_27_method_2_code 35 = .ok (.iconst 1, 1) := by decide +kernel
theorem d4_36 : decode prog_27_method_2_code 36 = .ok (.isub, 1) := by decide +kernel
theorem d4_37 : decode prog_27_method_2_code 37 = .ok (.invokevirtual 25, 3) := by decide +kernel
theorem d4_40 : decode prog_27_method_2_code 40 = .ok (.return_, 1) := by decide +kernel
theorem pn_4 : plainName "com/example/tasks_to_users/taskstousers/Planner$Waiting" = true := by first | (simp [plainName, overriddenIn]; done) | decide +kernel
theorem pd_4 : parseMethodDescriptor "(I)V" = some ⟨[.int], none⟩ := by decide +kernel
abbrev room4 : Room := { frames := 2, cells := 0, slots := 0, locals := 30 }
def Q4 (Z : State) (a0 : Addr) (tl : Addr) (th : Addr) (tp : Addr) (L : Nat → Int32) (H : Nat → Nat) (Pm : Nat → Nat) (n : Nat) (g : Nat) (h0 : Heap) (vv : Option Value) (hh : Heap) : Prop := vv = none ∧ Keep h0 hh [a0, th, tp] ∧ ObWT Z hh a0 (.ref tl) (.ref th) (.ref tp) (.int (Int32.ofNat (n + 1))) ∧ Ints Z hh tl .int 4 L ∧ Ints Z hh th .int 4 (own_o (own_ad (own_bf L) n g H Pm).1) ∧ Ints Z hh tp .int 4 (own_o (own_ad (own_bf L) n g H Pm).2)
theorem ef_4 (m : MethodId) (a0 : Addr) (p1 : Int32) : entryFrame m #[(.ref a0), (.int p1)] 2 = mkF m 0 #[.val (.ref a0), .val (.int p1)] [] := by first | (simp [entryFrame, mkF, argsToLocals, Value.category]; done) | rfl
set_option maxRecDepth 65536 in
set_option maxHeartbeats 40000000 in
theorem rm4 {l : Launch} {Z : State} {aw : Array Value} (hw : ∀ d ∈ tables_1, d.before aw Z = true) {n0 : Nat} (a0 : Addr) (tl : Addr) (th : Addr) (tp : Addr) (L : Nat → Int32) (H : Nat → Nat) (Pm : Nat → Nat) (n : Nat) (g : Nat) (h0 : Heap) (O : ObWT Z h0 a0 (.ref tl) (.ref th) (.ref tp) (.int (Int32.ofNat n))) (AL : Ints Z h0 tl .int 4 L) (AH : Ints Z h0 th .int 4 (own_o H)) (AP : Ints Z h0 tp .int 4 (own_o Pm)) (ne_a0_tl : a0 ≠ tl) (ne_a0_th : a0 ≠ th) (ne_a0_tp : a0 ≠ tp) (ne_tl_th : tl ≠ th) (ne_tl_tp : tl ≠ tp) (ne_th_tp : th ≠ tp) (g_a0 : n0 ≤ a0) (g_th : n0 ≤ th) (g_tp : n0 ≤ tp) (hn : n ≤ 4) (hH : ∀ i, i < 4 → H i < 4) (hP : ∀ i, i < 4 → Pm i < 4) (hnN : n < 4) (hg : g < 4) (hn0 : n0 ≤ h0.size) :
    Con l Z (⟨"com/example/tasks_to_users/taskstousers/Planner$Waiting", "add", "(I)V"⟩ : MethodName) prog_27_method_2_code 2 none room4 n0 #[(.ref a0), (.int (Int32.ofNat g))] h0 (Q4 Z a0 tl th tp L H Pm n g h0) := by
  refine Con.body (plainFor_of_name pn_4) hn0 (fun m => ef_4 m a0 (Int32.ofNat g)) ?_
  intro p e s m below meth c T P
  have K := Keep.refl h0 [a0, th, tp]
  refine G.aloadN P d4_0 rfl rfl (pc' := 1) rfl ?_
  refine G.getF P (host := "") (Or.inl (wd hw (i := 12) rfl)) Via.refl O.2.2.1 d4_1 (pc' := 4) rfl ?_
  intro T P
  refine G.aloadN P d4_4 rfl rfl (pc' := 5) rfl ?_
  refine G.getF P (host := "") (Or.inl (wd hw (i := 21) rfl)) Via.refl O.2.2.2.2 d4_5 (pc' := 8) rfl ?_
  intro T P
  refine G.iloadN P d4_8 rfl (pc' := 9) rfl ?_
  refine G.iastore P AH (i := n) (own_toInt (by omega)) (by omega) g_th d4_9 (pc' := 10) rfl ?_
  intro T h84 P W83
  replace O := O.other W83 ne_a0_th
  replace AL := AL.other W83 ne_tl_th
  replace AH := AH.same W83
  replace AP := AP.other W83 (Ne.symm ne_th_tp)
  replace K := K.wr W83 (Or.inl (by simp))
  rw [own_upd] at AH
  refine G.aloadN P d4_10 rfl rfl (pc' := 11) rfl ?_
  refine G.getF P (host := "") (Or.inl (wd hw (i := 14) rfl)) Via.refl O.2.2.2.1 d4_11 (pc' := 14) rfl ?_
  intro T P
  refine G.iloadN P d4_14 rfl (pc' := 15) rfl ?_
  refine G.aloadN P d4_15 rfl rfl (pc' := 16) rfl ?_
  refine G.getF P (host := "") (Or.inl (wd hw (i := 21) rfl)) Via.refl O.2.2.2.2 d4_16 (pc' := 19) rfl ?_
  intro T P
  refine G.iastore P AP (i := g) (own_toInt (by omega)) (by omega) g_tp d4_19 (pc' := 20) rfl ?_
  intro T h87 P W86
  replace O := O.other W86 ne_a0_tp
  replace AL := AL.other W86 ne_tl_tp
  replace AH := AH.other W86 ne_th_tp
  replace AP := AP.same W86
  replace K := K.wr W86 (Or.inl (by simp))
  rw [own_upd] at AP
  refine G.aloadN P d4_20 rfl rfl (pc' := 21) rfl ?_
  refine G.dup P d4_21 rfl (pc' := 22) rfl ?_
  refine G.getF P (host := "") (Or.inl (wd hw (i := 21) rfl)) Via.refl O.2.2.2.2 d4_22 (pc' := 25) rfl ?_
  intro T P
  refine G.iconst P d4_25 (v := (1 : Int32)) rfl (pc' := 26) rfl ?_
  refine G.iadd P d4_26 (pc' := 27) rfl ?_
  refine G.top (x' := (Int32.ofNat (n + 1))) (own_succ n) ?_
  refine G.putF P (host := "") (Or.inl (wd hw (i := 21) rfl)) Via.refl O.2.2.2.2 O.1 (Or.inl (wd hw (i := 22) rfl)) (wd hw (i := 2) rfl) (ty := .int) (by decide) rfl rfl g_a0 d4_27 (pc' := 30) rfl ?_
  intro T h90 P W89
  replace O := O.put3 hw W89
  replace AL := AL.other W89 (Ne.symm ne_a0_tl)
  replace AH := AH.other W89 (Ne.symm ne_a0_th)
  replace AP := AP.other W89 (Ne.symm ne_a0_tp)
  replace K := K.wr W89 (Or.inl (by simp))
  refine G.aloadN P d4_30 rfl rfl (pc' := 31) rfl ?_
  refine G.aloadN P d4_31 rfl rfl (pc' := 32) rfl ?_
  refine G.getF P (host := "") (Or.inl (wd hw (i := 21) rfl)) Via.refl O.2.2.2.2 d4_32 (pc' := 35) rfl ?_
  intro T P
  refine G.iconst P d4_35 (v := (1 : Int32)) rfl (pc' := 36) rfl ?_
  refine G.isub P d4_36 (pc' := 37) rfl ?_
  refine G.top (x' := (Int32.ofNat n)) (own_pred (Nat.succ_pos n)) ?_
  refine G.callP P (wd hw (i := 28) rfl) (wd hw (i := 2) rfl) (wd hw (i := 29) rfl) (wd hw (i := 30) rfl) (wd hw (i := 3) rfl) (wd hw (i := 31) rfl) (by decide) O.1 (argsL := [(.int (Int32.ofNat n))]) (a := a0) (rm5 hw a0 tl th tp L (own_u H n g) (own_u Pm g n) (n + 1) n h90 O AL AH AP ne_a0_tl ne_a0_th ne_a0_tp ne_tl_th ne_tl_tp ne_th_tp g_th g_tp (by omega) (own_u_lt hH hg) (own_u_lt hP hnN) (by omega) P.sz) (by decide) (by decide) (cells' := 0) rfl (slots' := 0) rfl (by decide) (by decide) (lenOf pd_5 rfl) rfl (rest := []) rfl (W := 0) (Nat.le_of_eq rfl) d4_37 (pc' := 40) rfl ?_
  clear O
  clear AL
  clear AH
  clear AP
  rintro T h91 _ P ⟨rfl, K92, O, AL, AH, AP⟩
  replace K := K.trans K92 (by simp)
  show Goes p e below s n0 room4.cells room4.slots (Q4 Z a0 tl th tp L H Pm n g h0) (T.setTop (mkF m 40 #[.val (.ref a0), .val (.int (Int32.ofNat g))] []))
  exact G.return_ P rfl d4_40 (by decide) (by decide) ⟨rfl, K, O, AL, AH, AP⟩
theorem d8_0 : decode prog_27_method_3_code 0 = .ok (.aload_n 0, 1) := by decide +kernel
theorem d8_1 : decode prog_27_method_3_code 1 = .ok (.getfield 18, 3) := by decide +kernel
theorem d8_4 : decode prog_27_method_3_code 4 = .ok (.iload_n 1, 1) := by decide +kernel
theorem d8_5 : decode prog_27_method_3_code 5 = .ok (.iaload, 1) := by decide +kernel
theorem d8_6 : decode prog_27_method_3_code 6 = .ok (.istore_n 2, 1) := by decide +kernel
theorem d8_7 : decode prog_27_method_3_code 7 = .ok (.aload_n 0, 1) := by decide +kernel
theorem d8_8 : decode prog_27_method_3_code 8 = .ok (.dup, 1) := by decide +kernel
theorem d8_9 : decode prog_27_method_3_code 9 = .ok (.getfield 21, 3) := by decide +kernel
theorem d8_12 : decode prog_27_method_3_code 12 = .ok (.iconst 1, 1) := by decide +kernel
theorem d8_13 : decode prog_27_method_3_code 13 = .ok (.isub, 1) := by decide +kernel
theorem d8_14 : decode prog_27_method_3_code 14 = .ok (.putfield 21, 3) := by decide +kernel
theorem d8_17 : decode prog_27_method_3_code 17 = .ok (.iload_n 2, 1) := by decide +kernel
theorem d8_18 : decode prog_27_method_3_code 18 = .ok (.aload_n 0, 1) := by decide +kernel
theorem d8_19 : decode prog_27_method_3_code 19 = .ok (.getfield 21, 3) := by decide +kernel
theorem d8_22 : decode prog_27_method_3_code 22 = .ok (.if_icmp .ge 40, 3) := by decide +kernel
theorem d8_25 : decode prog_27_method_3_code 25 = .ok (.aload_n 0, 1) := by decide +kernel
theorem d8_26 : decode prog_27_method_3_code 26 = .ok (.getfield 15, 3) := by decide +kernel
theorem d8_29 : decode prog_27_method_3_code 29 = .ok (.iload_n 2, 1) := by decide +kernel
theorem d8_30 : decode prog_27_method_3_code 30 = .ok (.aload_n 0, 1) := by decide +kernel
theorem d8_31 : decode prog_27_method_3_code 31 = .ok (.getfield 15, 3) := by decide +kernel
theorem d8_34 : decode prog_27_method_3_code 34 = .ok (.aload_n 0, 1) := by decide +kernel
theorem d8_35 : decode prog_27_method_3_code 35 = .ok (.getfield 21, 3) := by decide +kernel
theorem d8_38 : decode prog_27_method_3_code 38 = .ok (.iaload, 1) := by decide +kernel
theorem d8_39 : decode prog_27_method_3_code 39 = .ok (.iastore, 1) := by decide +kernel
theorem d8_40 : decode prog_27_method_3_code 40 = .ok (.aload_n 0, 1) := by decide +kernel
theorem d8_41 : decode prog_27_method_3_code 41 = .ok (.getfield 18, 3) := by decide +kernel
theorem d8_44 : decode prog_27_method_3_code 44 = .ok (.aload_n 0, 1) := by decide +kernel
theorem d8_45 : decode prog_27_method_3_code 45 = .ok (.getfield 15, 3) := by decide +kernel
theorem d8_48 : decode prog_27_method_3_code 48 = .ok (.iload_n 2, 1) := by decide +kernel
theorem d8_49 : decode prog_27_method_3_code 49 = .ok (.iaload, 1) := by decide +kernel
theorem d8_50 : decode prog_27_method_3_code 50 = .ok (.iload_n 2, 1) := by decide +kernel
theorem d8_51 : decode prog_27_method_3_code 51 = .ok (.iastore, 1) := by decide +kernel
theorem d8_52 : decode prog_27_method_3_code 52 = .ok (.aload_n 0, 1) := by decide +kernel
theorem d8_53 : decode prog_27_method_3_code 53 = .ok (.aload_n 0, 1) := by decide +kernel
theorem d8_54 : decode prog_27_method_3_code 54 = .ok (.getfield 15, 3) := by decide +kernel
theorem d8_57 : decode prog_27_method_3_code 57 = .ok (.iload_n 2, 1) := by decide +kernel
theorem d8_58 : decode prog_27_method_3_code 58 = .ok (.iaload, 1) := by decide +kernel
theorem d8_59 : decode prog_27_method_3_code 59 = .ok (.invokevirtual 29, 3) := by decide +kernel
theorem d8_62 : decode prog_27_method_3_code 62 = .ok (.return_, 1) := by decide +kernel
theorem pn_8 : plainName "com/example/tasks_to_users/taskstousers/Planner$Waiting" = true := by first | (simp [plainName, overriddenIn]; done) | decide +kernel
theorem pd_8 : parseMethodDescriptor "(I)V" = some ⟨[.int], none⟩ := by decide +kernel
abbrev room8 : Room := { frames := 3, cells := 0, slots := 0, locals := 44 }
def Q8 (Z : State) (a0 : Addr) (tl : Addr) (th : Addr) (tp : Addr) (L : Nat → Int32) (H : Nat → Nat) (Pm : Nat → Nat) (n : Nat) (g : Nat) (h0 : Heap) (vv : Option Value) (hh : Heap) : Prop := vv = none ∧ Keep h0 hh [a0, th, tp] ∧ ObWT Z hh a0 (.ref tl) (.ref th) (.ref tp) (.int (Int32.ofNat (n - 1))) ∧ Ints Z hh tl .int 4 L ∧ Ints Z hh th .int 4 (own_o (own_rm (own_bf L) n g H Pm).1) ∧ Ints Z hh tp .int 4 (own_o (own_rm (own_bf L) n g H Pm).2)
theorem ef_8 (m : MethodId) (a0 : Addr) (p1 : Int32) : entryFrame m #[(.ref a0), (.int p1)] 3 = mkF m 0 #[.val (.ref a0), .val (.int p1), .unset] [] := by first | (simp [entryFrame, mkF, argsToLocals, Value.category]; done) | rfl
set_option maxRecDepth 65536 in
set_option maxHeartbeats 40000000 in
theorem rm8 {l : Launch} {Z : State} {aw : Array Value} (hw : ∀ d ∈ tables_1, d.before aw Z = true) {n0 : Nat} (a0 : Addr) (tl : Addr) (th : Addr) (tp : Addr) (L : Nat → Int32) (H : Nat → Nat) (Pm : Nat → Nat) (n : Nat) (g : Nat) (h0 : Heap) (O : ObWT Z h0 a0 (.ref tl) (.ref th) (.ref tp) (.int (Int32.ofNat n))) (AL : Ints Z h0 tl .int 4 L) (AH : Ints Z h0 th .int 4 (own_o H)) (AP : Ints Z h0 tp .int 4 (own_o Pm)) (ne_a0_tl : a0 ≠ tl) (ne_a0_th : a0 ≠ th) (ne_a0_tp : a0 ≠ tp) (ne_tl_th : tl ≠ th) (ne_tl_tp : tl ≠ tp) (ne_th_tp : th ≠ tp) (g_a0 : n0 ≤ a0) (g_th : n0 ≤ th) (g_tp : n0 ≤ tp) (hn : n ≤ 4) (hH : ∀ i, i < 4 → H i < 4) (hP : ∀ i, i < 4 → Pm i < 4) (hg : g < 4) (h1 : 0 < n) (hn0 : n0 ≤ h0.size) :
    Con l Z (⟨"com/example/tasks_to_users/taskstousers/Planner$Waiting", "remove", "(I)V"⟩ : MethodName) prog_27_method_3_code 3 none room8 n0 #[(.ref a0), (.int (Int32.ofNat g))] h0 (Q8 Z a0 tl th tp L H Pm n g h0) := by
  refine Con.body (plainFor_of_name pn_8) hn0 (fun m => ef_8 m a0 (Int32.ofNat g)) ?_
  intro p e s m below meth c T P
  have K := Keep.refl h0 [a0, th, tp]
  have q1 := hP g hg
  refine G.aloadN P d8_0 rfl rfl (pc' := 1) rfl ?_
  refine G.getF P (host := "") (Or.inl (wd hw (i := 14) rfl)) Via.refl O.2.2.2.1 d8_1 (pc' := 4) rfl ?_
  intro T P
  refine G.iloadN P d8_4 rfl (pc' := 5) rfl ?_
  refine G.iaload P AP (i := g) (own_toInt (by omega)) (by omega) d8_5 (pc' := 6) rfl ?_
  show Goes p e below s n0 room8.cells room8.slots (Q8 Z a0 tl th tp L H Pm n g h0) (T.setTop (mkF m 6 #[.val (.ref a0), .val (.int (Int32.ofNat g)), .unset] [(.int (Int32.ofNat (Pm g)))]))
  refine G.istoreN P d8_6 rfl (L' := #[.val (.ref a0), .val (.int (Int32.ofNat g)), .val (.int (Int32.ofNat (Pm g)))]) rfl (pc' := 7) rfl ?_
  refine G.aloadN P d8_7 rfl rfl (pc' := 8) rfl ?_
  refine G.dup P d8_8 rfl (pc' := 9) rfl ?_
  refine G.getF P (host := "") (Or.inl (wd hw (i := 21) rfl)) Via.refl O.2.2.2.2 d8_9 (pc' := 12) rfl ?_
  intro T P
  refine G.iconst P d8_12 (v := (1 : Int32)) rfl (pc' := 13) rfl ?_
  refine G.isub P d8_13 (pc' := 14) rfl ?_
  refine G.top (x' := (Int32.ofNat (n - 1))) (own_pred h1) ?_
  refine G.putF P (host := "") (Or.inl (wd hw (i := 21) rfl)) Via.refl O.2.2.2.2 O.1 (Or.inl (wd hw (i := 22) rfl)) (wd hw (i := 2) rfl) (ty := .int) (by decide) rfl rfl g_a0 d8_14 (pc' := 17) rfl ?_
  intro T h94 P W93
  replace O := O.put3 hw W93
  replace AL := AL.other W93 (Ne.symm ne_a0_tl)
  replace AH := AH.other W93 (Ne.symm ne_a0_th)
  replace AP := AP.other W93 (Ne.symm ne_a0_tp)
  replace K := K.wr W93 (Or.inl (by simp))
  refine G.iloadN P d8_17 rfl (pc' := 18) rfl ?_
  refine G.aloadN P d8_18 rfl rfl (pc' := 19) rfl ?_
  refine G.getF P (host := "") (Or.inl (wd hw (i := 21) rfl)) Via.refl O.2.2.2.2 d8_19 (pc' := 22) rfl ?_
  intro T P
  refine G.icmp_ge P d8_22 (by decide) (pcY := 62) (by decide) (pcN := 25) rfl (fun c22 => ?_) (fun c22 => ?_)
  · have eE : (own_rm (own_bf L) n g H Pm) = (H, Pm) := by unfold own_rm; rw [if_neg (fun q => c22 ((own_lt (by omega) (by omega)).mpr q))]
    replace AH : Ints Z h94 th .int 4 (own_o (own_rm (own_bf L) n g H Pm).1) := by rw [eE]; exact AH
    replace AP : Ints Z h94 tp .int 4 (own_o (own_rm (own_bf L) n g H Pm).2) := by rw [eE]; exact AP
    exact G.return_ P rfl d8_62 (by decide) (by decide) ⟨rfl, K, O, AL, AH, AP⟩
  · have q22 : Pm g < n - 1 := (own_lt (by omega) (by omega)).mp c22
    have q38 := hH (n - 1) (by omega)
    refine G.aloadN P d8_25 rfl rfl (pc' := 26) rfl ?_
    refine G.getF P (host := "") (Or.inl (wd hw (i := 12) rfl)) Via.refl O.2.2.1 d8_26 (pc' := 29) rfl ?_
    intro T P
    refine G.iloadN P d8_29 rfl (pc' := 30) rfl ?_
    refine G.aloadN P d8_30 rfl rfl (pc' := 31) rfl ?_
    refine G.getF P (host := "") (Or.inl (wd hw (i := 12) rfl)) Via.refl O.2.2.1 d8_31 (pc' := 34) rfl ?_
    intro T P
    refine G.aloadN P d8_34 rfl rfl (pc' := 35) rfl ?_
    refine G.getF P (host := "") (Or.inl (wd hw (i := 21) rfl)) Via.refl O.2.2.2.2 d8_35 (pc' := 38) rfl ?_
    intro T P
    refine G.iaload P AH (i := (n - 1)) (own_toInt (by omega)) (by omega) d8_38 (pc' := 39) rfl ?_
    show Goes p e below s n0 room8.cells room8.slots (Q8 Z a0 tl th tp L H Pm n g h0) (T.setTop (mkF m 39 #[.val (.ref a0), .val (.int (Int32.ofNat g)), .val (.int (Int32.ofNat (Pm g)))] [(.int (Int32.ofNat (H (n - 1)))), (.int (Int32.ofNat (Pm g))), (.ref th)]))
    refine G.iastore P AH (i := (Pm g)) (own_toInt (by omega)) (by omega) g_th d8_39 (pc' := 40) rfl ?_
    intro T h96 P W95
    replace O := O.other W95 ne_a0_th
    replace AL := AL.other W95 ne_tl_th
    replace AH := AH.same W95
    replace AP := AP.other W95 (Ne.symm ne_th_tp)
    replace K := K.wr W95 (Or.inl (by simp))
    rw [own_upd] at AH
    refine G.aloadN P d8_40 rfl rfl (pc' := 41) rfl ?_
    refine G.getF P (host := "") (Or.inl (wd hw (i := 14) rfl)) Via.refl O.2.2.2.1 d8_41 (pc' := 44) rfl ?_
    intro T P
    refine G.aloadN P d8_44 rfl rfl (pc' := 45) rfl ?_
    refine G.getF P (host := "") (Or.inl (wd hw (i := 12) rfl)) Via.refl O.2.2.1 d8_45 (pc' := 48) rfl ?_
    intro T P
    refine G.iloadN P d8_48 rfl (pc' := 49) rfl ?_
    refine G.iaload P AH (i := (Pm g)) (own_toInt (by omega)) (by omega) d8_49 (pc' := 50) rfl ?_
    show Goes p e below s n0 room8.cells room8.slots (Q8 Z a0 tl th tp L H Pm n g h0) (T.setTop (mkF m 50 #[.val (.ref a0), .val (.int (Int32.ofNat g)), .val (.int (Int32.ofNat (Pm g)))] [(.int (Int32.ofNat ((own_u H (Pm g) (H (n - 1))) (Pm g)))), (.ref tp)]))
    refine G.top (x' := (Int32.ofNat (H (n - 1)))) (congrArg Int32.ofNat (own_u_same _ _ _)) ?_
    refine G.iloadN P d8_50 rfl (pc' := 51) rfl ?_
    refine G.iastore P AP (i := (H (n - 1))) (own_toInt (by omega)) (by omega) g_tp d8_51 (pc' := 52) rfl ?_
    intro T h99 P W98
    replace O := O.other W98 ne_a0_tp
    replace AL := AL.other W98 ne_tl_tp
    replace AH := AH.other W98 ne_th_tp
    replace AP := AP.same W98
    replace K := K.wr W98 (Or.inl (by simp))
    rw [own_upd] at AP
    refine G.aloadN P d8_52 rfl rfl (pc' := 53) rfl ?_
    refine G.aloadN P d8_53 rfl rfl (pc' := 54) rfl ?_
    refine G.getF P (host := "") (Or.inl (wd hw (i := 12) rfl)) Via.refl O.2.2.1 d8_54 (pc' := 57) rfl ?_
    intro T P
    refine G.iloadN P d8_57 rfl (pc' := 58) rfl ?_
    refine G.iaload P AH (i := (Pm g)) (own_toInt (by omega)) (by omega) d8_58 (pc' := 59) rfl ?_
    show Goes p e below s n0 room8.cells room8.slots (Q8 Z a0 tl th tp L H Pm n g h0) (T.setTop (mkF m 59 #[.val (.ref a0), .val (.int (Int32.ofNat g)), .val (.int (Int32.ofNat (Pm g)))] [(.int (Int32.ofNat ((own_u H (Pm g) (H (n - 1))) (Pm g)))), (.ref a0)]))
    refine G.top (x' := (Int32.ofNat (H (n - 1)))) (congrArg Int32.ofNat (own_u_same _ _ _)) ?_
    refine G.callV P (wd hw (i := 46) rfl) (wd hw (i := 47) rfl) (wd hw (i := 49) rfl) (wd hw (i := 48) rfl) (wd hw (i := 3) rfl) (wd hw (i := 50) rfl) (by decide) O.1 (argsL := [(.int (Int32.ofNat (H (n - 1))))]) (a := a0) (rm9 hw a0 tl th tp L (own_u H (Pm g) (H (n - 1))) (own_u Pm (H (n - 1)) (Pm g)) (n - 1) (H (n - 1)) h99 O AL AH AP ne_a0_tl ne_a0_th ne_a0_tp ne_tl_th ne_tl_tp ne_th_tp g_th g_tp (by omega) (own_u_lt hH q38) (own_u_lt hP q1) q38 P.sz) (by decide) (by decide) (cells' := 0) rfl (slots' := 0) rfl (by decide) (by decide) (lenOf pd_9 rfl) rfl (rest := []) rfl (W := 0) (Nat.le_of_eq rfl) d8_59 (pc' := 62) rfl ?_
    clear O
    clear AL
    clear AH
    clear AP
    rintro T h101 _ P ⟨rfl, K102, O, AL, AH, AP⟩
    replace K := K.trans K102 (by simp)
    show Goes p e below s n0 room8.cells room8.slots (Q8 Z a0 tl th tp L H Pm n g h0) (T.setTop (mkF m 62 #[.val (.ref a0), .val (.int (Int32.ofNat g)), .val (.int (Int32.ofNat (Pm g)))] []))
    have eE : (own_rm (own_bf L) n g H Pm) = own_mv (own_bf L) (n - 1) (H (n - 1)) (own_u H (Pm g) (H (n - 1))) (own_u Pm (H (n - 1)) (Pm g)) := by unfold own_rm; rw [if_pos q22]
    replace AH : Ints Z h101 th .int 4 (own_o (own_rm (own_bf L) n g H Pm).1) := by rw [eE]; exact AH
    replace AP : Ints Z h101 tp .int 4 (own_o (own_rm (own_bf L) n g H Pm).2) := by rw [eE]; exact AP
    exact G.return_ P rfl d8_62 (by decide) (by decide) ⟨rfl, K, O, AL, AH, AP⟩
theorem d3_0 : decode prog_27_method_5_code 0 = .ok (.aload_n 0, 1) := by decide +kernel
theorem d3_1 : decode prog_27_method_5_code 1 = .ok (.getfield 21, 3) := by decide +kernel
theorem d3_4 : decode prog_27_method_5_code 4 = .ok (.ifCond .ne 7, 3) := by decide +kernel
theorem d3_7 : decode prog_27_method_5_code 7 = .ok (.iconst (-1), 1) := by decide +kernel
theorem d3_8 : decode prog_27_method_5_code 8 = .ok (.goto 9, 3) := by decide +kernel
theorem d3_11 : decode prog_27_method_5_code 11 = .ok (.aload_n 0, 1) := by decide +kernel
theorem d3_12 : decode prog_27_method_5_code 12 = .ok (.getfield 15, 3) := by decide +kernel
theorem d3_15 : decode prog_27_method_5_code 15 = .ok (.iconst 0, 1) := by decide +kernel
theorem d3_16 : decode prog_27_method_5_code 16 = .ok (.iaload, 1) := by decide +kernel
theorem d3_17 : decode prog_27_method_5_code 17 = .ok (.ireturn, 1) := by decide +kernel
theorem pn_3 : plainName "com/example/tasks_to_users/taskstousers/Planner$Waiting" = true := by first | (simp [plainName, overriddenIn]; done) | decide +kernel
theorem pd_3 : parseMethodDescriptor "()I" = some ⟨[], some .int⟩ := by decide +kernel
abbrev room3 : Room := { frames := 0, cells := 0, slots := 0, locals := 0 }
def Q3 (Z : State) (a0 : Addr) (tl : Addr) (th : Addr) (tp : Addr) (H : Nat → Nat) (n : Nat) (h0 : Heap) (vv : Option Value) (hh : Heap) : Prop := vv = some (.int (own_first n H)) ∧ h0 = hh
theorem ef_3 (m : MethodId) (a0 : Addr) : entryFrame m #[(.ref a0)] 1 = mkF m 0 #[.val (.ref a0)] [] := by first | (simp [entryFrame, mkF, argsToLocals, Value.category]; done) | rfl
set_option maxRecDepth 65536 in
set_option maxHeartbeats 40000000 in
theorem rm3 {l : Launch} {Z : State} {aw : Array Value} (hw : ∀ d ∈ tables_1, d.before aw Z = true) {n0 : Nat} (a0 : Addr) (tl : Addr) (th : Addr) (tp : Addr) (H : Nat → Nat) (n : Nat) (h0 : Heap) (O : ObWT Z h0 a0 (.ref tl) (.ref th) (.ref tp) (.int (Int32.ofNat n))) (AH : Ints Z h0 th .int 4 (own_o H)) (ne_a0_th : a0 ≠ th) (hn : n ≤ 4) (hn0 : n0 ≤ h0.size) :
    Con l Z (⟨"com/example/tasks_to_users/taskstousers/Planner$Waiting", "first", "()I"⟩ : MethodName) prog_27_method_5_code 1 (some .int) room3 n0 #[(.ref a0)] h0 (Q3 Z a0 tl th tp H n h0) := by
  refine Con.body (plainFor_of_name pn_3) hn0 (fun m => ef_3 m a0) ?_
  intro p e s m below meth c T P
  refine G.aloadN P d3_0 rfl rfl (pc' := 1) rfl ?_
  refine G.getF P (host := "") (Or.inl (wd hw (i := 21) rfl)) Via.refl O.2.2.2.2 d3_1 (pc' := 4) rfl ?_
  intro T P
  refine G.if_ne P d3_4 (by decide) (pcY := 11) (by decide) (pcN := 7) rfl (fun c4 => ?_) (fun c4 => ?_)
  · refine G.aloadN P d3_11 rfl rfl (pc' := 12) rfl ?_
    refine G.getF P (host := "") (Or.inl (wd hw (i := 12) rfl)) Via.refl O.2.2.1 d3_12 (pc' := 15) rfl ?_
    intro T P
    refine G.iconst P d3_15 (v := (0 : Int32)) rfl (pc' := 16) rfl ?_
    refine G.iaload P AH (i := 0) (by decide) (by omega) d3_16 (pc' := 17) rfl ?_
    show Goes p e below s n0 room3.cells room3.slots (Q3 Z a0 tl th tp H n h0) (T.setTop (mkF m 17 #[.val (.ref a0)] [(.int (Int32.ofNat (H 0)))]))
    exact G.ireturn P rfl d3_17 (by decide) (by decide) ⟨congrArg (fun z => some (Value.int z)) (by unfold own_first; rw [if_neg (fun q => c4 ((own_eq0 (by omega)).mpr q))]), rfl⟩
  · refine G.iconst P d3_7 (v := (-1 : Int32)) rfl (pc' := 8) rfl ?_
    refine G.goto P d3_8 (by decide) (pc' := 17) (by decide) ?_
    exact G.ireturn P rfl d3_17 (by decide) (by decide) ⟨congrArg (fun z => some (Value.int z)) (by unfold own_first; rw [if_pos ((own_eq0 (by omega)).mp c4)]), rfl⟩
theorem d1_0 : decode prog_27_method_1_code 0 = .ok (.aload_n 0, 1) := by decide +kernel
theorem d1_1 : decode prog_27_method_1_code 1 = .ok (.invokespecial 3, 3) := by decide +kernel
theorem d1_4 : decode prog_27_method_1_code 4 = .ok (.aload_n 0, 1) := by decide +kernel
theorem d1_5 : decode prog_27_method_1_code 5 = .ok (.aload_n 1, 1) := by decide +kernel
theorem d1_6 : decode prog_27_method_1_code 6 = .ok (.putfield 9, 3) := by decide +kernel
theorem d1_9 : decode prog_27_method_1_code 9 = .ok (.aload_n 0, 1) := by decide +kernel
theorem d1_10 : decode prog_27_method_1_code 10 = .ok (.aload_n 1, 1) := by decide +kernel
theorem d1_11 : decode prog_27_method_1_code 11 = .ok (.arraylength, 1) := by decide +kernel
theorem d1_12 : decode prog_27_method_1_code 12 = .ok (.newarray .int, 2) := by decide +kernel
theorem d1_14 : decode prog_27_method_1_code 14 = .ok (.putfield 15, 3) := by decide +kernel
theorem d1_17 : decode prog_27_method_1_code 17 = .ok (.aload_n 0, 1) := by decide +kernel
theorem d1_18 : decode prog_27_method_1_code 18 = .ok (.aload_n 1, 1) := by decide +kernel
theorem d1_19 : decode prog_27_method_1_code 19 = .ok (.arraylength, 1) := by decide +kernel
theorem d1_20 : decode prog_27_method_1_code 20 = .ok (.newarray .int, 2) := by decide +kernel
theorem d1_22 : decode prog_27_method_1_code 22 = .ok (.putfield 18, 3) := by decide +kernel
theorem d1_25 : decode prog_27_method_1_code 25 = .ok (.return_, 1) := by decide +kernel
theorem pn_1 : plainName "com/example/tasks_to_users/taskstousers/Planner$Waiting" = true := by first | (simp [plainName, overriddenIn]; done) | decide +kernel
theorem pd_1 : parseMethodDescriptor "([I)V" = some ⟨[(.array .int)], none⟩ := by decide +kernel
abbrev room1 : Room := { frames := 1, cells := 2, slots := 8, locals := 12 }
def Q1 (Z : State) (a0 : Addr) (a1 : Addr) (L : Nat → Int32) (h0 : Heap) (vv : Option Value) (hh : Heap) : Prop := ∃ b c : Addr, vv = none ∧ h0.size ≤ b ∧ h0.size ≤ c ∧ b ≠ c ∧ Keep h0 hh [a0] ∧ Ints Z hh b .int 4 (own_o (fun _ => 0)) ∧ Ints Z hh c .int 4 (own_o (fun _ => 0)) ∧ ObWT Z hh a0 (.ref a1) (.ref b) (.ref c) (.int (Int32.ofNat 0)) ∧ Ints Z hh a1 .int 4 L
theorem ef_1 (m : MethodId) (a0 : Addr) (a1 : Addr) : entryFrame m #[(.ref a0), (.ref a1)] 2 = mkF m 0 #[.val (.ref a0), .val (.ref a1)] [] := by first | (simp [entryFrame, mkF, argsToLocals, Value.category]; done) | rfl
set_option maxRecDepth 65536 in
set_option maxHeartbeats 40000000 in
theorem rm1 {l : Launch} {Z : State} {aw : Array Value} (hw : ∀ d ∈ tables_1, d.before aw Z = true) {n0 : Nat} (a0 : Addr) (a1 : Addr) (L : Nat → Int32) (h0 : Heap) (O : ObWT Z h0 a0 .null .null .null (.int (0 : Int32))) (AL : Ints Z h0 a1 .int 4 L) (ne_a0_a1 : a0 ≠ a1) (g_a0 : n0 ≤ a0) (hn0 : n0 ≤ h0.size) :
    Con l Z (⟨"com/example/tasks_to_users/taskstousers/Planner$Waiting", "<init>", "([I)V"⟩ : MethodName) prog_27_method_1_code 2 none room1 n0 #[(.ref a0), (.ref a1)] h0 (Q1 Z a0 a1 L h0) := by
  refine Con.body (plainFor_of_name pn_1) hn0 (fun m => ef_1 m a0 a1) ?_
  intro p e s m below meth c T P
  have K := Keep.refl h0 [a0]
  refine G.aloadN P d1_0 rfl rfl (pc' := 1) rfl ?_
  refine G.initO P (wd hw (i := 7) rfl) (wd hw (i := 8) rfl) (wd hw (i := 9) rfl) rfl d1_1 (by decide) (W := 0) (Nat.le_of_eq rfl) (by decide) (pc' := 4) rfl (fun T P => ?_)
  refine G.aloadN P d1_4 rfl rfl (pc' := 5) rfl ?_
  refine G.aloadN P d1_5 rfl rfl (pc' := 6) rfl ?_
  refine G.putF P (host := "") (Or.inl (wd hw (i := 10) rfl)) Via.refl O.2.1 O.1 (Or.inr ⟨(wd hw (i := 11) rfl), rfl, rfl⟩) (wd hw (i := 2) rfl) (ty := (.array .int)) (by decide) rfl rfl g_a0 d1_6 (pc' := 9) rfl ?_
  intro T h104 P W103
  replace O := O.put0 hw W103
  replace AL := AL.other W103 (Ne.symm ne_a0_a1)
  replace K := K.wr W103 (Or.inl (by simp))
  refine G.aloadN P d1_9 rfl rfl (pc' := 10) rfl ?_
  refine G.aloadN P d1_10 rfl rfl (pc' := 11) rfl ?_
  refine G.arraylength P AL (z := (4 : Int32)) (by decide) d1_11 (pc' := 12) rfl ?_
  refine G.newarray P (wd hw (i := 0) rfl) rfl (N := 4) (by decide) (cap := 4) (Nat.le_refl _) (by decide) d1_12 (cells' := 1) rfl (slots' := 4) rfl (by decide) (by decide) (pc' := 14) rfl ?_
  intro T h105 b105 hb105 g_b105 P E105 A105
  have ne_a0_b105 : a0 ≠ b105 := by rw [hb105]; exact Nat.ne_of_lt O.lt
  have ne_a1_b105 : a1 ≠ b105 := by rw [hb105]; exact Nat.ne_of_lt AL.lt
  replace O := O.ext E105
  replace AL := AL.ext E105
  have sz_b105 : h0.size ≤ b105 := by rw [hb105]; exact K.1
  replace K := K.ext E105
  replace A105 : Ints Z h105 b105 .int 4 (fun _ => 0) := A105
  replace A105 : Ints Z h105 b105 .int 4 (own_o (fun _ => 0)) := A105
  refine G.putF P (host := "") (Or.inl (wd hw (i := 12) rfl)) Via.refl O.2.2.1 O.1 (Or.inr ⟨(wd hw (i := 13) rfl), rfl, rfl⟩) (wd hw (i := 2) rfl) (ty := (.array .int)) (by decide) rfl rfl g_a0 d1_14 (pc' := 17) rfl ?_
  intro T h107 P W106
  replace O := O.put1 hw W106
  replace AL := AL.other W106 (Ne.symm ne_a0_a1)
  replace A105 := A105.other W106 (Ne.symm ne_a0_b105)
  replace K := K.wr W106 (Or.inl (by simp))
  refine G.aloadN P d1_17 rfl rfl (pc' := 18) rfl ?_
  refine G.aloadN P d1_18 rfl rfl (pc' := 19) rfl ?_
  refine G.arraylength P AL (z := (4 : Int32)) (by decide) d1_19 (pc' := 20) rfl ?_
  refine G.newarray P (wd hw (i := 0) rfl) rfl (N := 4) (by decide) (cap := 4) (Nat.le_refl _) (by decide) d1_20 (cells' := 2) rfl (slots' := 8) rfl (by decide) (by decide) (pc' := 22) rfl ?_
  intro T h108 b108 hb108 g_b108 P E108 A108
  have ne_a0_b108 : a0 ≠ b108 := by rw [hb108]; exact Nat.ne_of_lt O.lt
  have ne_a1_b108 : a1 ≠ b108 := by rw [hb108]; exact Nat.ne_of_lt AL.lt
  have ne_b105_b108 : b105 ≠ b108 := by rw [hb108]; exact Nat.ne_of_lt A105.lt
  replace O := O.ext E108
  replace AL := AL.ext E108
  replace A105 := A105.ext E108
  have sz_b108 : h0.size ≤ b108 := by rw [hb108]; exact K.1
  replace K := K.ext E108
  replace A108 : Ints Z h108 b108 .int 4 (fun _ => 0) := A108
  replace A108 : Ints Z h108 b108 .int 4 (own_o (fun _ => 0)) := A108
  refine G.putF P (host := "") (Or.inl (wd hw (i := 14) rfl)) Via.refl O.2.2.2.1 O.1 (Or.inr ⟨(wd hw (i := 15) rfl), rfl, rfl⟩) (wd hw (i := 2) rfl) (ty := (.array .int)) (by decide) rfl rfl g_a0 d1_22 (pc' := 25) rfl ?_
  intro T h110 P W109
  replace O := O.put2 hw W109
  replace AL := AL.other W109 (Ne.symm ne_a0_a1)
  replace A105 := A105.other W109 (Ne.symm ne_a0_b105)
  replace A108 := A108.other W109 (Ne.symm ne_a0_b108)
  replace K := K.wr W109 (Or.inl (by simp))
  exact G.return_ P rfl d1_25 (by decide) (by decide) ⟨b105, b108, rfl, sz_b105, sz_b108, ne_b105_b108, K, A105, A108, O, AL⟩
def own_e (k : Nat) : Int32 := Int32.ofInt ((k : Int) - 1)
theorem own_e_int {k : Nat} (h : k < 1000) : (own_e k).toInt = (k : Int) - 1 := by
  unfold own_e
  rw [Int32.toInt_ofInt_of_le (by omega) (by omega)]
theorem own_e_succ {k : Nat} (h : 0 < k) (h2 : k < 1000) : own_e k = Int32.ofNat (k - 1) := by
  apply Int32.toInt_inj.mp
  rw [own_e_int h2, own_toInt (by omega)]
  omega
theorem own_e_nat {i : Nat} (h : i < 999) : Int32.ofNat i = own_e (i + 1) := by rw [own_e_succ (by omega) (by omega)]; rfl
theorem own_e_eq {i x : Nat} (hi : i < 100) (hx : x < 100) : Int32.ofNat i = own_e x ↔ i + 1 = x := by
  rw [← Int32.toInt_inj, own_toInt (by omega), own_e_int (by omega)]
  omega
theorem own_e_neg {k : Nat} (h : k < 100) : own_e k < 0 ↔ k = 0 := by
  rw [Int32.lt_iff_toInt_lt, own_e_int (by omega)]
  show (k : Int) - 1 < 0 ↔ k = 0
  omega
theorem own_updz1 (H : Nat → Nat) (i : Nat) : oupd (own_o H) i (nar .boolean (1 : Int32)) = own_o (own_u H i 1) := own_upd H i 1
theorem own_updz0 (H : Nat → Nat) (i : Nat) : oupd (own_o H) i (nar .boolean (0 : Int32)) = own_o (own_u H i 0) := own_upd H i 0
theorem own_em1 {k : Nat} (h : k < 100) : own_e k = (-1 : Int32) ↔ k = 0 := by
  have e : (-1 : Int32).toInt = -1 := by decide
  rw [← Int32.toInt_inj, own_e_int (by omega), e]
  omega
def own_pk (b : Nat → Nat → Bool) (M : Nat → Nat) (k i : Nat) : Nat := if M i = 0 then k else if k = 0 ∨ b i (k - 1) = true then i + 1 else k
theorem own_pk_le {b : Nat → Nat → Bool} {M : Nat → Nat} {k i : Nat} (h : k ≤ i) : own_pk b M k i ≤ i + 1 := by
  unfold own_pk
  split
  · omega
  · split <;> omega
theorem own_bf_hi {L : Nat → Int32} {i j : Nat} (hi : i < 4) (h : j < i) : own_bf L i j = true ↔ L i < L j := by
  have q1 : j < 4 := by omega
  have q2 : ¬ i < j := by omega
  simp [own_bf, hi, q1, q2]
theorem d7_0 : decode method_3_code 0 = .ok (.iload_n 0, 1) := by decide +kernel
theorem d7_1 : decode method_3_code 1 = .ok (.istore 4, 2) := by decide +kernel
theorem d7_3 : decode method_3_code 3 = .ok (.aload_n 2, 1) := by decide +kernel
theorem d7_4 : decode method_3_code 4 = .ok (.iload_n 1, 1) := by decide +kernel
theorem d7_5 : decode method_3_code 5 = .ok (.baload, 1) := by decide +kernel
theorem d7_6 : decode method_3_code 6 = .ok (.ifCond .eq 20, 3) := by decide +kernel
theorem d7_9 : decode method_3_code 9 = .ok (.iload_n 0, 1) := by decide +kernel
theorem d7_10 : decode method_3_code 10 = .ok (.iconst (-1), 1) := by decide +kernel
theorem d7_11 : decode method_3_code 11 = .ok (.if_icmp .eq 12, 3) := by decide +kernel
theorem d7_14 : decode method_3_code 14 = .ok (.aload_n 3, 1) := by decide +kernel
theorem d7_15 : decode method_3_code 15 = .ok (.iload_n 1, 1) := by decide +kernel
theorem d7_16 : decode method_3_code 16 = .ok (.iaload, 1) := by decide +kernel
theorem d7_17 : decode method_3_code 17 = .ok (.aload_n 3, 1) := by decide +kernel
theorem d7_18 : decode method_3_code 18 = .ok (.iload_n 0, 1) := by decide +kernel
theorem d7_19 : decode method_3_code 19 = .ok (.iaload, 1) := by decide +kernel
theorem d7_20 : decode method_3_code 20 = .ok (.if_icmp .ge 6, 3) := by decide +kernel
theorem d7_23 : decode method_3_code 23 = .ok (.iload_n 1, 1) := by decide +kernel
theorem d7_24 : decode method_3_code 24 = .ok (.istore 4, 2) := by decide +kernel
theorem d7_26 : decode method_3_code 26 = .ok (.iload 4, 2) := by decide +kernel
theorem d7_28 : decode method_3_code 28 = .ok (.ireturn, 1) := by decide +kernel
theorem pn_7 : plainName "com/example/tasks_to_users/taskstousers/WaitingFirstPinLaw" = true := by first | (simp [plainName, overriddenIn]; done) | decide +kernel
theorem pd_7 : parseMethodDescriptor "(II[Z[I)I" = some ⟨[.int, .int, (.array .boolean), (.array .int)], some .int⟩ := by decide +kernel
abbrev room7 : Room := { frames := 0, cells := 0, slots := 0, locals := 0 }
def Q7 (Z : State) (a2 : Addr) (a3 : Addr) (L : Nat → Int32) (M : Nat → Nat) (k : Nat) (i : Nat) (h0 : Heap) (vv : Option Value) (hh : Heap) : Prop := vv = some (.int (own_e (own_pk (own_bf L) M k i))) ∧ h0 = hh
theorem ef_7 (m : MethodId) (p0 : Int32) (p1 : Int32) (a2 : Addr) (a3 : Addr) : entryFrame m #[(.int p0), (.int p1), (.ref a2), (.ref a3)] 5 = mkF m 0 #[.val (.int p0), .val (.int p1), .val (.ref a2), .val (.ref a3), .unset] [] := by first | (simp [entryFrame, mkF, argsToLocals, Value.category]; done) | rfl
set_option maxRecDepth 65536 in
set_option maxHeartbeats 40000000 in
theorem rm7 {l : Launch} {Z : State} {aw : Array Value} (hw : ∀ d ∈ tables_1, d.before aw Z = true) {n0 : Nat} (a2 : Addr) (a3 : Addr) (L : Nat → Int32) (M : Nat → Nat) (k : Nat) (i : Nat) (h0 : Heap) (AM : Ints Z h0 a2 .boolean 4 (own_o M)) (AL : Ints Z h0 a3 .int 4 L) (hi : i < 4) (hk : k ≤ i) (hM : ∀ j, j < 4 → M j < 4) (hn0 : n0 ≤ h0.size) :
    Con l Z (⟨"com/example/tasks_to_users/taskstousers/WaitingFirstPinLaw", "pick", "(II[Z[I)I"⟩ : MethodName) method_3_code 5 (some .int) room7 n0 #[(.int (own_e k)), (.int (Int32.ofNat i)), (.ref a2), (.ref a3)] h0 (Q7 Z a2 a3 L M k i h0) := by
  refine Con.body (plainFor_of_name pn_7) hn0 (fun m => ef_7 m (own_e k) (Int32.ofNat i) a2 a3) ?_
  intro p e s m below meth c T P
  refine G.iloadN P d7_0 rfl (pc' := 1) rfl ?_
  refine G.istore P d7_1 rfl (L' := #[.val (.int (own_e k)), .val (.int (Int32.ofNat i)), .val (.ref a2), .val (.ref a3), .val (.int (own_e k))]) rfl (pc' := 3) rfl ?_
  refine G.aloadN P d7_3 rfl rfl (pc' := 4) rfl ?_
  have qM := hM i hi
  refine G.iloadN P d7_4 rfl (pc' := 5) rfl ?_
  refine G.zaload P AM (i := i) (own_toInt (by omega)) (by omega) d7_5 (pc' := 6) rfl ?_
  show Goes p e below s n0 room7.cells room7.slots (Q7 Z a2 a3 L M k i h0) (T.setTop (mkF m 6 #[.val (.int (own_e k)), .val (.int (Int32.ofNat i)), .val (.ref a2), .val (.ref a3), .val (.int (own_e k))] [(.int (Int32.ofNat (M i)))]))
  refine G.if_eq P d7_6 (by decide) (pcY := 26) (by decide) (pcN := 9) rfl (fun c6 => ?_) (fun c6 => ?_)
  · refine G.iload P d7_26 rfl (pc' := 28) rfl ?_
    exact G.ireturn P rfl d7_28 (by decide) (by decide) ⟨congrArg (fun z => some (Value.int z)) (by unfold own_pk; rw [if_pos ((own_eq0 (by omega)).mp c6)]), rfl⟩
  · refine G.iloadN P d7_9 rfl (pc' := 10) rfl ?_
    refine G.iconst P d7_10 (v := (-1 : Int32)) rfl (pc' := 11) rfl ?_
    refine G.icmp_eq P d7_11 (by decide) (pcY := 23) (by decide) (pcN := 14) rfl (fun c11 => ?_) (fun c11 => ?_)
    · refine G.iloadN P d7_23 rfl (pc' := 24) rfl ?_
      refine G.istore P d7_24 rfl (L' := #[.val (.int (own_e k)), .val (.int (Int32.ofNat i)), .val (.ref a2), .val (.ref a3), .val (.int (Int32.ofNat i))]) rfl (pc' := 26) rfl ?_
      refine G.iload P d7_26 rfl (pc' := 28) rfl ?_
      exact G.ireturn P rfl d7_28 (by decide) (by decide) ⟨congrArg (fun z => some (Value.int z)) (by unfold own_pk; rw [if_neg (fun q => c6 ((own_eq0 (by omega)).mpr q)), if_pos (Or.inl ((own_em1 (by omega)).mp c11))]; exact own_e_nat (by omega)), rfl⟩
    · refine G.aloadN P d7_14 rfl rfl (pc' := 15) rfl ?_
      refine G.iloadN P d7_15 rfl (pc' := 16) rfl ?_
      refine G.iaload P AL (i := i) (own_toInt (by omega)) (by omega) d7_16 (pc' := 17) rfl ?_
      generalize hx111 : (L i) = x111
      refine G.aloadN P d7_17 rfl rfl (pc' := 18) rfl ?_
      refine G.iloadN P d7_18 rfl (pc' := 19) rfl ?_
      have q11 : 0 < k := Nat.pos_of_ne_zero (fun q => c11 ((own_em1 (by omega)).mpr q))
      refine G.top (x' := (Int32.ofNat (k - 1))) (own_e_succ q11 (by omega)) ?_
      refine G.iaload P AL (i := (k - 1)) (own_toInt (by omega)) (by omega) d7_19 (pc' := 20) rfl ?_
      generalize hx112 : (L (k - 1)) = x112
      refine G.icmp_ge P d7_20 (by decide) (pcY := 26) (by decide) (pcN := 23) rfl (fun c20 => ?_) (fun c20 => ?_)
      · refine G.iload P d7_26 rfl (pc' := 28) rfl ?_
        subst hx111 hx112
        exact G.ireturn P rfl d7_28 (by decide) (by decide) ⟨congrArg (fun z => some (Value.int z)) (by unfold own_pk; rw [if_neg (fun q => c6 ((own_eq0 (by omega)).mpr q)), if_neg (fun q => q.elim (fun q => by omega) (fun q => c20 ((own_bf_hi hi (by omega)).mp q)))]), rfl⟩
      · refine G.iloadN P d7_23 rfl (pc' := 24) rfl ?_
        refine G.istore P d7_24 rfl (L' := #[.val (.int (own_e k)), .val (.int (Int32.ofNat i)), .val (.ref a2), .val (.ref a3), .val (.int (Int32.ofNat i))]) rfl (pc' := 26) rfl ?_
        refine G.iload P d7_26 rfl (pc' := 28) rfl ?_
        subst hx111 hx112
        exact G.ireturn P rfl d7_28 (by decide) (by decide) ⟨congrArg (fun z => some (Value.int z)) (by unfold own_pk; rw [if_neg (fun q => c6 ((own_eq0 (by omega)).mpr q)), if_pos (Or.inr ((own_bf_hi hi (by omega)).mpr c20))]; exact own_e_nat (by omega)), rfl⟩
/-- who comes before whom, by the six answers -/
def own_tb (a b c d e f : Bool) (i j : Nat) : Bool := match i, j with
  | 0, 1 => a | 1, 0 => !a | 0, 2 => b | 2, 0 => !b | 0, 3 => c | 3, 0 => !c | 1, 2 => d | 2, 1 => !d | 1, 3 => e | 3, 1 => !e | 2, 3 => f | 3, 2 => !f | _, _ => false
def own_tri (b : Nat → Nat → Bool) : Bool := (List.range 4).all fun i => (List.range 4).all fun j => (List.range 4).all fun k => !(b i j && b j k) || b i k
def own_agr (b b' : Nat → Nat → Bool) (g : Nat) : Bool := (List.range 4).all fun i => (List.range 4).all fun j => decide (i = g) || (decide (j = g) || decide (b i j = b' i j))
theorem own_flip {a b : Bool} (h : a = !b) : b = !a := by rw [h]; simp
theorem own_bf_eq (L : Nat → Int32) : own_bf L = own_tb (own_bf L 0 1) (own_bf L 0 2) (own_bf L 0 3) (own_bf L 1 2) (own_bf L 1 3) (own_bf L 2 3) := by
  funext i j
  have self : ∀ k, own_bf L k k = false := by intro k; simp [own_bf]
  have big : ∀ i j, ¬ (i < 4 ∧ j < 4) → own_bf L i j = false := by
    intro i j h
    by_cases q : i < 4
    · have r : ¬ j < 4 := fun r => h ⟨q, r⟩
      simp [own_bf, r]
    · simp [own_bf, q]
  match i, j with
  | 0, 0 => exact self 0
  | 0, 1 => rfl
  | 0, 2 => rfl
  | 0, 3 => rfl
  | 0, k + 4 => exact big _ _ (by omega)
  | 1, 0 => exact own_flip (own_bf_as (by omega) (by omega) (by omega))
  | 1, 1 => exact self 1
  | 1, 2 => rfl
  | 1, 3 => rfl
  | 1, k + 4 => exact big _ _ (by omega)
  | 2, 0 => exact own_flip (own_bf_as (by omega) (by omega) (by omega))
  | 2, 1 => exact own_flip (own_bf_as (by omega) (by omega) (by omega))
  | 2, 2 => exact self 2
  | 2, 3 => rfl
  | 2, k + 4 => exact big _ _ (by omega)
  | 3, 0 => exact own_flip (own_bf_as (by omega) (by omega) (by omega))
  | 3, 1 => exact own_flip (own_bf_as (by omega) (by omega) (by omega))
  | 3, 2 => exact own_flip (own_bf_as (by omega) (by omega) (by omega))
  | 3, 3 => exact self 3
  | 3, k + 4 => exact big _ _ (by omega)
  | k + 4, j => exact (big _ _ (by omega)).trans (by simp [own_tb])
theorem own_tri_bf (L : Nat → Int32) : own_tri (own_bf L) = true := by
  refine List.all_eq_true.mpr fun i _ => List.all_eq_true.mpr fun j _ => List.all_eq_true.mpr fun k _ => ?_
  by_cases h1 : own_bf L i j = true
  · by_cases h2 : own_bf L j k = true
    · rw [own_bf_tr h1 h2]; simp
    · simp [h2]
  · simp [h1]
theorem own_agr_bf (L L' : Nat → Int32) (g : Nat) (h : ∀ i, i ≠ g → L' i = L i) : own_agr (own_bf L) (own_bf L') g = true := by
  refine List.all_eq_true.mpr fun i _ => List.all_eq_true.mpr fun j _ => ?_
  by_cases h1 : i = g
  · simp [h1]
  · by_cases h2 : j = g
    · simp [h2]
    · have e : own_bf L i j = own_bf L' i j := by simp only [own_bf, h i h1, h j h2]
      simp [e]
theorem own_updL (L : Nat → Int32) (g : Nat) (v : Int32) : ∀ i, i ≠ g → oupd L g v i = L i := fun i h => by simp [oupd, h]
theorem own_g4 (x k : Int32) (h : x &&& 3 = k) : ∃ g : Nat, g < 4 ∧ k = Int32.ofNat g := by
  have h1 := c_mask x 3 2 (by decide) (by decide)
  rw [h] at h1
  refine ⟨k.toInt.toNat, by omega, ?_⟩
  apply Int32.toInt_inj.mp
  rw [own_toInt (by omega)]
  omega
theorem own_rot1 {r : Nat} (h : r < 4) : (Int32.ofNat r + (1 : Int32)) &&& (3 : Int32) = Int32.ofNat ((r + 1) % 4) := by
  match r, h with | 0, _ => decide | 1, _ => decide | 2, _ => decide | 3, _ => decide | k + 4, h => exact absurd h (by omega)
theorem own_rot2 {r : Nat} (h : r < 4) : (Int32.ofNat r + (2 : Int32)) &&& (3 : Int32) = Int32.ofNat ((r + 2) % 4) := by
  match r, h with | 0, _ => decide | 1, _ => decide | 2, _ => decide | 3, _ => decide | k + 4, h => exact absurd h (by omega)
theorem own_rot3 {r : Nat} (h : r < 4) : (Int32.ofNat r + (3 : Int32)) &&& (3 : Int32) = Int32.ofNat ((r + 3) % 4) := by
  match r, h with | 0, _ => decide | 1, _ => decide | 2, _ => decide | 3, _ => decide | k + 4, h => exact absurd h (by omega)
def own_M : Nat → Nat := own_u (own_u (own_u (own_u (fun _ => 0) 0 1) 1 1) 2 1) 3 1
def own_s4 (b : Nat → Nat → Bool) (r : Nat) : (Nat → Nat) × (Nat → Nat) :=
  let s1 := own_ad b 0 r (fun _ => 0) (fun _ => 0)
  let s2 := own_ad b (0 + 1) ((r + 1) % 4) s1.1 s1.2
  let s3 := own_ad b (0 + 1 + 1) ((r + 2) % 4) s2.1 s2.2
  own_ad b (0 + 1 + 1 + 1) ((r + 3) % 4) s3.1 s3.2
def own_pks (b : Nat → Nat → Bool) (M : Nat → Nat) : Nat := own_pk b M (own_pk b M (own_pk b M (own_pk b M 0 0) 1) 2) 3
def own_cx (b : Nat → Nat → Bool) (H M : Nat → Nat) : Bool := decide (H 0 + 1 = own_pks b M)
def own_cA (b : Nat → Nat → Bool) (r : Nat) : Bool := own_cx b (own_s4 b r).1 own_M
def own_cB (b : Nat → Nat → Bool) (r g : Nat) : Bool := own_cx b (own_rm b (0 + 1 + 1 + 1 + 1) g (own_s4 b r).1 (own_s4 b r).2).1 (own_u own_M g 0)
def own_cC (b b' : Nat → Nat → Bool) (r v : Nat) : Bool := own_cx b' (own_mv b' (0 + 1 + 1 + 1 + 1) v (own_s4 b r).1 (own_s4 b r).2).1 own_M
def own_cD (b b' : Nat → Nat → Bool) (r g v : Nat) : Bool := decide (v = g) || own_cx b' (own_mv b' (0 + 1 + 1 + 1 + 1 - 1) v (own_rm b (0 + 1 + 1 + 1 + 1) g (own_s4 b r).1 (own_s4 b r).2).1 (own_rm b (0 + 1 + 1 + 1 + 1) g (own_s4 b r).1 (own_s4 b r).2).2).1 (own_u own_M g 0)
theorem own_pA {b : Nat → Nat → Bool} {r : Nat} (h : own_cA b r = true) : (own_s4 b r).1 0 + 1 = own_pks b own_M := of_decide_eq_true h
theorem own_pB {b : Nat → Nat → Bool} {r g : Nat} (h : own_cB b r g = true) : (own_rm b (0 + 1 + 1 + 1 + 1) g (own_s4 b r).1 (own_s4 b r).2).1 0 + 1 = own_pks b (own_u own_M g 0) := of_decide_eq_true h
theorem own_pC {b b' : Nat → Nat → Bool} {r v : Nat} (h : own_cC b b' r v = true) : (own_mv b' (0 + 1 + 1 + 1 + 1) v (own_s4 b r).1 (own_s4 b r).2).1 0 + 1 = own_pks b' own_M := of_decide_eq_true h
theorem own_pD {b b' : Nat → Nat → Bool} {r g v : Nat} (ng : ¬ v = g) (h : own_cD b b' r g v = true) : (own_mv b' (0 + 1 + 1 + 1 + 1 - 1) v (own_rm b (0 + 1 + 1 + 1 + 1) g (own_s4 b r).1 (own_s4 b r).2).1 (own_rm b (0 + 1 + 1 + 1 + 1) g (own_s4 b r).1 (own_s4 b r).2).2).1 0 + 1 = own_pks b' (own_u own_M g 0) := by
  rcases (Bool.or_eq_true _ _).mp h with q | q
  · exact absurd (of_decide_eq_true q) ng
  · exact of_decide_eq_true q
set_option maxRecDepth 100000 in
theorem own_fin1 : ∀ (a b c d e f : Bool), own_tri (own_tb a b c d e f) = true → ∀ r : Fin 4, own_cA (own_tb a b c d e f) r = true ∧ ∀ g : Fin 4, own_cB (own_tb a b c d e f) r g = true := by decide +kernel
set_option maxRecDepth 100000 in
theorem own_fin2 : ∀ (a b c d e f : Bool), own_tri (own_tb a b c d e f) = true → ∀ (a' b' c' d' e' f' : Bool), own_tri (own_tb a' b' c' d' e' f') = true → ∀ v : Fin 4, own_agr (own_tb a b c d e f) (own_tb a' b' c' d' e' f') v = true → ∀ r : Fin 4, own_cC (own_tb a b c d e f) (own_tb a' b' c' d' e' f') r v = true ∧ ∀ g : Fin 4, own_cD (own_tb a b c d e f) (own_tb a' b' c' d' e' f') r g v = true := by decide +kernel
theorem own_bfN (L : Nat → Int32) (r : Nat) (hr : r < 4) : own_cA (own_bf L) r = true ∧ ∀ g, g < 4 → own_cB (own_bf L) r g = true := by
  have t1 := own_tri_bf L
  rw [own_bf_eq L] at t1 ⊢
  have q := own_fin1 _ _ _ _ _ _ t1 ⟨r, hr⟩
  exact ⟨q.1, fun g hg => q.2 ⟨g, hg⟩⟩
theorem own_bfM (L L' : Nat → Int32) (r v : Nat) (hr : r < 4) (hv : v < 4) (h : ∀ i, i ≠ v → L' i = L i) : own_cC (own_bf L) (own_bf L') r v = true ∧ ∀ g, g < 4 → own_cD (own_bf L) (own_bf L') r g v = true := by
  have t1 := own_tri_bf L
  have t2 := own_tri_bf L'
  have t3 := own_agr_bf L L' v h
  rw [own_bf_eq L, own_bf_eq L'] at t3 ⊢
  rw [own_bf_eq L] at t1
  rw [own_bf_eq L'] at t2
  have q := own_fin2 _ _ _ _ _ _ t1 _ _ _ _ _ _ t2 ⟨v, hv⟩ t3 ⟨r, hr⟩
  exact ⟨q.1, fun g hg => q.2 ⟨g, hg⟩⟩
theorem own_eqe {n : Nat} {H : Nat → Nat} {e : Nat} (hn : 0 < n) (he : e ≤ 4) (h : H 0 + 1 = e) : own_first n H = own_e e := by
  unfold own_first
  rw [if_neg (by omega), ← h]
  exact own_e_nat (by omega)
theorem pn_0 : plainName "com/example/tasks_to_users/taskstousers/WaitingFirstPinLaw" = true := by first | (simp [plainName, overriddenIn]; done) | decide +kernel
theorem pd_0 : parseMethodDescriptor "(IIIIII)Z" = some ⟨[.int, .int, .int, .int, .int, .int], some .boolean⟩ := by decide +kernel
def Q0 (Z : State) (p0 : Int32) (p1 : Int32) (p2 : Int32) (p3 : Int32) (p4 : Int32) (p5 : Int32) (h0 : Heap) (vv : Option Value) (hh : Heap) : Prop := vv = some (.int 1) ∧ True
theorem ef_0 (m : MethodId) (p0 : Int32) (p1 : Int32) (p2 : Int32) (p3 : Int32) (p4 : Int32) (p5 : Int32) : entryFrame m #[(.int p0), (.int p1), (.int p2), (.int p3), (.int p4), (.int p5)] maxLocals = mkF m 0 #[.val (.int p0), .val (.int p1), .val (.int p2), .val (.int p3), .val (.int p4), .val (.int p5), .unset, .unset, .unset, .unset, .unset, .unset, .unset] [] := by first | (simp [entryFrame, mkF, argsToLocals, Value.category, maxLocals]; done) | rfl
set_option maxRecDepth 65536 in
set_option maxHeartbeats 40000000 in
theorem rm0 {l : Launch} {Z : State} {aw : Array Value} (hw : ∀ d ∈ tables_1, d.before aw Z = true) {n0 : Nat} (p0 : Int32) (p1 : Int32) (p2 : Int32) (p3 : Int32) (p4 : Int32) (p5 : Int32) (h0 : Heap) (hn0 : n0 ≤ h0.size) :
    Con l Z x code maxLocals ret room_1 n0 #[(.int p0), (.int p1), (.int p2), (.int p3), (.int p4), (.int p5)] h0 (Q0 Z p0 p1 p2 p3 p4 p5 h0) := by
  refine Con.body (plainFor_of_name pn_0) hn0 (fun m => ef_0 m p0 p1 p2 p3 p4 p5) ?_
  intro p e s m below meth c T P
  refine G.iconst P at_0 (v := (4 : Int32)) rfl (pc' := 1) rfl ?_
  refine G.newarray P (wd hw (i := 0) rfl) rfl (N := 4) (by decide) (cap := 4) (Nat.le_refl _) (by decide) at_1 (cells' := 1) rfl (slots' := 4) rfl (by decide) (by decide) (pc' := 3) rfl ?_
  intro T h113 b113 hb113 g_b113 P E113 A113
  replace A113 : Ints Z h113 b113 .int 4 (fun _ => 0) := A113
  replace A113 := Ints.congr (g := (lst [(0 : Int32), (0 : Int32), (0 : Int32), (0 : Int32)])) A113 (fun i hi => by match i, hi with | 0, _ => rfl | 1, _ => rfl | 2, _ => rfl | 3, _ => rfl | k + 4, h => exact absurd h (by omega))
  refine G.dup P at_3 rfl (pc' := 4) rfl ?_
  refine G.iconst P at_4 (v := (0 : Int32)) rfl (pc' := 5) rfl ?_
  refine G.iloadN P at_5 rfl (pc' := 6) rfl ?_
  refine G.iastore P A113 (i := 0) (by decide) (by decide) g_b113 at_6 (pc' := 7) rfl ?_
  intro T h115 P W114
  replace A113 := A113.same W114
  replace A113 := Ints.congr (g := (lst [p0, (0 : Int32), (0 : Int32), (0 : Int32)])) A113 (fun i hi => by match i, hi with | 0, _ => rfl | 1, _ => rfl | 2, _ => rfl | 3, _ => rfl | k + 4, h => exact absurd h (by omega))
  refine G.dup P at_7 rfl (pc' := 8) rfl ?_
  refine G.iconst P at_8 (v := (1 : Int32)) rfl (pc' := 9) rfl ?_
  refine G.iloadN P at_9 rfl (pc' := 10) rfl ?_
  refine G.iastore P A113 (i := 1) (by decide) (by decide) g_b113 at_10 (pc' := 11) rfl ?_
  intro T h118 P W117
  replace A113 := A113.same W117
  replace A113 := Ints.congr (g := (lst [p0, p1, (0 : Int32), (0 : Int32)])) A113 (fun i hi => by match i, hi with | 0, _ => rfl | 1, _ => rfl | 2, _ => rfl | 3, _ => rfl | k + 4, h => exact absurd h (by omega))
  refine G.dup P at_11 rfl (pc' := 12) rfl ?_
  refine G.iconst P at_12 (v := (2 : Int32)) rfl (pc' := 13) rfl ?_
  refine G.iloadN P at_13 rfl (pc' := 14) rfl ?_
  refine G.iastore P A113 (i := 2) (by decide) (by decide) g_b113 at_14 (pc' := 15) rfl ?_
  intro T h121 P W120
  replace A113 := A113.same W120
  replace A113 := Ints.congr (g := (lst [p0, p1, p2, (0 : Int32)])) A113 (fun i hi => by match i, hi with | 0, _ => rfl | 1, _ => rfl | 2, _ => rfl | 3, _ => rfl | k + 4, h => exact absurd h (by omega))
  refine G.dup P at_15 rfl (pc' := 16) rfl ?_
  refine G.iconst P at_16 (v := (3 : Int32)) rfl (pc' := 17) rfl ?_
  refine G.iloadN P at_17 rfl (pc' := 18) rfl ?_
  refine G.iastore P A113 (i := 3) (by decide) (by decide) g_b113 at_18 (pc' := 19) rfl ?_
  intro T h124 P W123
  replace A113 := A113.same W123
  replace A113 := Ints.congr (g := (lst [p0, p1, p2, p3])) A113 (fun i hi => by match i, hi with | 0, _ => rfl | 1, _ => rfl | 2, _ => rfl | 3, _ => rfl | k + 4, h => exact absurd h (by omega))
  refine G.astore P at_19 rfl (L' := #[.val (.int p0), .val (.int p1), .val (.int p2), .val (.int p3), .val (.int p4), .val (.int p5), .val (.ref b113), .unset, .unset, .unset, .unset, .unset, .unset]) rfl (pc' := 21) rfl ?_
  refine G.new P (wd hw (i := 1) rfl) (wd hw (i := 2) rfl) (wd hw (i := 3) rfl) at_21 (cells' := 2) rfl (slots' := 8) rfl (by decide) (by decide) (pc' := 24) rfl ?_
  intro T h126 b126 hb126 g_b126 P E126 X126 D126
  have ne_b113_b126 : b113 ≠ b126 := by rw [hb126]; exact Nat.ne_of_lt A113.lt
  replace A113 := A113.ext E126
  have O126 := ObWT.new hw X126 @D126
  refine G.dup P at_24 rfl (pc' := 25) rfl ?_
  refine G.aload P at_25 rfl rfl (pc' := 27) rfl ?_
  refine G.callI P rfl (wd hw (i := 4) rfl) (wd hw (i := 5) rfl) (wd hw (i := 3) rfl) (wd hw (i := 6) rfl) (by decide) (argsL := [(.ref b113)]) (a := b126) (rm1 hw b126 b113 (lst [p0, p1, p2, p3]) h126 O126 A113 (Ne.symm ne_b113_b126) g_b126 P.sz) (by decide) (by decide) (cells' := 4) rfl (slots' := 16) rfl (by decide) (by decide) (lenOf pd_1 rfl) rfl (rest := [(.ref b126)]) rfl (W := 1) (Nat.le_of_eq rfl) at_27 (pc' := 30) rfl ?_
  have old_b129 := P.sz
  rintro T h127 _ P ⟨b129, b130, rfl, sz_b129, sz_b130, ne_b129_b130, K128, Ob129, Ob130, O126', A113'⟩
  have g_b130 : n0 ≤ b130 := Nat.le_trans old_b129 sz_b130
  have ne_b113_b130 : b113 ≠ b130 := Nat.ne_of_lt (Nat.lt_of_lt_of_le A113.lt sz_b130)
  have ne_b126_b130 : b126 ≠ b130 := Nat.ne_of_lt (Nat.lt_of_lt_of_le O126.lt sz_b130)
  have g_b129 : n0 ≤ b129 := Nat.le_trans old_b129 sz_b129
  have ne_b113_b129 : b113 ≠ b129 := Nat.ne_of_lt (Nat.lt_of_lt_of_le A113.lt sz_b129)
  have ne_b126_b129 : b126 ≠ b129 := Nat.ne_of_lt (Nat.lt_of_lt_of_le O126.lt sz_b129)
  replace O126 := O126'
  replace A113 := A113'
  show Goes p e below s n0 room_1.cells room_1.slots (Q0 Z p0 p1 p2 p3 p4 p5 h0) (T.setTop (mkF m 30 #[.val (.int p0), .val (.int p1), .val (.int p2), .val (.int p3), .val (.int p4), .val (.int p5), .val (.ref b113), .unset, .unset, .unset, .unset, .unset, .unset] [(.ref b126)]))
  refine G.astore P at_30 rfl (L' := #[.val (.int p0), .val (.int p1), .val (.int p2), .val (.int p3), .val (.int p4), .val (.int p5), .val (.ref b113), .val (.ref b126), .unset, .unset, .unset, .unset, .unset]) rfl (pc' := 32) rfl ?_
  have V0 : ∀ i, i < 4 → (fun _ => 0 : Nat → Nat) i < 4 := fun i hi => by show 0 < 4; omega
  refine G.aload P at_32 rfl rfl (pc' := 34) rfl ?_
  refine G.callV P (wd hw (i := 16) rfl) (wd hw (i := 17) rfl) (wd hw (i := 19) rfl) (wd hw (i := 18) rfl) (wd hw (i := 3) rfl) (wd hw (i := 20) rfl) (by decide) O126.1 (argsL := []) (a := b126) (rm3 hw b126 b113 b129 b130 (fun _ => 0) 0 h127 O126 Ob129 ne_b126_b129 (by omega) P.sz) (by decide) (by decide) (cells' := 4) rfl (slots' := 16) rfl (by decide) (by decide) (lenOf pd_3 rfl) rfl (rest := []) rfl (W := 0) (Nat.le_of_eq rfl) at_34 (pc' := 37) rfl ?_
  rintro T _ _ P ⟨rfl, rfl⟩
  show Goes p e below s n0 room_1.cells room_1.slots (Q0 Z p0 p1 p2 p3 p4 p5 h0) (T.setTop (mkF m 37 #[.val (.int p0), .val (.int p1), .val (.int p2), .val (.int p3), .val (.int p4), .val (.int p5), .val (.ref b113), .val (.ref b126), .unset, .unset, .unset, .unset, .unset] [(.int (own_first 0 (fun _ => 0)))]))
  generalize hr131 : (own_first 0 (fun _ => 0)) = r131
  refine G.iconst P at_37 (v := (-1 : Int32)) rfl (pc' := 38) rfl ?_
  have J46_38 : ∀ (z132 : Int32), z132 = (if r131 = (-1 : Int32) then (1 : Int32) else (0 : Int32)) → Goes p e below s n0 room_1.cells room_1.slots (Q0 Z p0 p1 p2 p3 p4 p5 h0) (T.setTop (mkF m 46 #[.val (.int p0), .val (.int p1), .val (.int p2), .val (.int p3), .val (.int p4), .val (.int p5), .val (.ref b113), .val (.ref b126), .unset, .unset, .unset, .unset, .unset] [(.int z132)])) := by
    intro z132 hz132
    refine G.istore P at_46 rfl (L' := #[.val (.int p0), .val (.int p1), .val (.int p2), .val (.int p3), .val (.int p4), .val (.int p5), .val (.ref b113), .val (.ref b126), .val (.int z132), .unset, .unset, .unset, .unset]) rfl (pc' := 48) rfl ?_
    refine G.iload P at_48 rfl (pc' := 50) rfl ?_
    refine G.iconst P at_50 (v := (5 : Int32)) rfl (pc' := 51) rfl ?_
    refine G.iushr P at_51 (pc' := 52) rfl ?_
    refine G.iconst P at_52 (v := (3 : Int32)) rfl (pc' := 53) rfl ?_
    refine G.iand P at_53 (pc' := 54) rfl ?_
    obtain ⟨x133, hx133⟩ : ∃ z : Int32, (((p5.toUInt32 >>> ((5 : Int32) &&& 31).toUInt32).toInt32) &&& (3 : Int32)) = z := ⟨_, rfl⟩
    refine G.istore P at_54 hx133 (L' := #[.val (.int p0), .val (.int p1), .val (.int p2), .val (.int p3), .val (.int p4), .val (.int p5), .val (.ref b113), .val (.ref b126), .val (.int z132), .val (.int x133), .unset, .unset, .unset]) rfl (pc' := 56) rfl ?_
    obtain ⟨q, hq, eq⟩ := own_g4 _ _ hx133
    subst eq
    refine G.aload P at_56 rfl rfl (pc' := 58) rfl ?_
    refine G.iload P at_58 rfl (pc' := 60) rfl ?_
    refine G.callV P (wd hw (i := 23) rfl) (wd hw (i := 24) rfl) (wd hw (i := 26) rfl) (wd hw (i := 25) rfl) (wd hw (i := 3) rfl) (wd hw (i := 27) rfl) (by decide) O126.1 (argsL := [(.int (Int32.ofNat q))]) (a := b126) (rm4 hw b126 b113 b129 b130 (lst [p0, p1, p2, p3]) (fun _ => 0) (fun _ => 0) 0 q h127 O126 A113 Ob129 Ob130 (Ne.symm ne_b113_b126) ne_b126_b129 ne_b126_b130 ne_b113_b129 ne_b113_b130 ne_b129_b130 g_b126 g_b129 g_b130 (by omega) V0 V0 (by omega) (by omega) P.sz) (by decide) (by decide) (cells' := 4) rfl (slots' := 16) rfl (by decide) (by decide) (lenOf pd_4 rfl) rfl (rest := []) rfl (W := 0) (Nat.le_of_eq rfl) at_60 (pc' := 63) rfl ?_
    clear O126
    clear A113
    clear Ob129
    clear Ob130
    rintro T h134 _ P ⟨rfl, K135, O126, A113, Ob129, Ob130⟩
    show Goes p e below s n0 room_1.cells room_1.slots (Q0 Z p0 p1 p2 p3 p4 p5 h0) (T.setTop (mkF m 63 #[.val (.int p0), .val (.int p1), .val (.int p2), .val (.int p3), .val (.int p4), .val (.int p5), .val (.ref b113), .val (.ref b126), .val (.int z132), .val (.int (Int32.ofNat q)), .unset, .unset, .unset] []))
    have V1 := own_ad_lt (b := own_bf (lst [p0, p1, p2, p3])) (n := 0) (g := q) (N := 4) (by omega) (by omega) V0 V0
    obtain ⟨H1, eH1⟩ : ∃ qq : Nat → Nat, (own_ad (own_bf (lst [p0, p1, p2, p3])) 0 q (fun _ => 0) (fun _ => 0)).1 = qq := ⟨_, rfl⟩
    rw [eH1] at Ob129
    obtain ⟨P1, eP1⟩ : ∃ qq : Nat → Nat, (own_ad (own_bf (lst [p0, p1, p2, p3])) 0 q (fun _ => 0) (fun _ => 0)).2 = qq := ⟨_, rfl⟩
    rw [eP1] at Ob130
    rw [eH1, eP1] at V1
    refine G.aload P at_63 rfl rfl (pc' := 65) rfl ?_
    refine G.iload P at_65 rfl (pc' := 67) rfl ?_
    refine G.iconst P at_67 (v := (1 : Int32)) rfl (pc' := 68) rfl ?_
    refine G.iadd P at_68 (pc' := 69) rfl ?_
    refine G.iconst P at_69 (v := (3 : Int32)) rfl (pc' := 70) rfl ?_
    refine G.iand P at_70 (pc' := 71) rfl ?_
    refine G.top (x' := (Int32.ofNat ((q + 1) % 4))) (own_rot1 hq) ?_
    refine G.callV P (wd hw (i := 23) rfl) (wd hw (i := 24) rfl) (wd hw (i := 26) rfl) (wd hw (i := 25) rfl) (wd hw (i := 3) rfl) (wd hw (i := 27) rfl) (by decide) O126.1 (argsL := [(.int (Int32.ofNat ((q + 1) % 4)))]) (a := b126) (rm4 hw b126 b113 b129 b130 (lst [p0, p1, p2, p3]) H1 P1 (0 + 1) ((q + 1) % 4) h134 O126 A113 Ob129 Ob130 (Ne.symm ne_b113_b126) ne_b126_b129 ne_b126_b130 ne_b113_b129 ne_b113_b130 ne_b129_b130 g_b126 g_b129 g_b130 (by omega) V1.1 V1.2 (by omega) (by omega) P.sz) (by decide) (by decide) (cells' := 4) rfl (slots' := 16) rfl (by decide) (by decide) (lenOf pd_4 rfl) rfl (rest := []) rfl (W := 0) (Nat.le_of_eq rfl) at_71 (pc' := 74) rfl ?_
    clear O126
    clear A113
    clear Ob129
    clear Ob130
    rintro T h136 _ P ⟨rfl, K137, O126, A113, Ob129, Ob130⟩
    show Goes p e below s n0 room_1.cells room_1.slots (Q0 Z p0 p1 p2 p3 p4 p5 h0) (T.setTop (mkF m 74 #[.val (.int p0), .val (.int p1), .val (.int p2), .val (.int p3), .val (.int p4), .val (.int p5), .val (.ref b113), .val (.ref b126), .val (.int z132), .val (.int (Int32.ofNat q)), .unset, .unset, .unset] []))
    have V2 := own_ad_lt (b := own_bf (lst [p0, p1, p2, p3])) (n := (0 + 1)) (g := ((q + 1) % 4)) (N := 4) (by omega) (by omega) V1.1 V1.2
    obtain ⟨H2, eH2⟩ : ∃ qq : Nat → Nat, (own_ad (own_bf (lst [p0, p1, p2, p3])) (0 + 1) ((q + 1) % 4) H1 P1).1 = qq := ⟨_, rfl⟩
    rw [eH2] at Ob129
    obtain ⟨P2, eP2⟩ : ∃ qq : Nat → Nat, (own_ad (own_bf (lst [p0, p1, p2, p3])) (0 + 1) ((q + 1) % 4) H1 P1).2 = qq := ⟨_, rfl⟩
    rw [eP2] at Ob130
    rw [eH2, eP2] at V2
    refine G.aload P at_74 rfl rfl (pc' := 76) rfl ?_
    refine G.iload P at_76 rfl (pc' := 78) rfl ?_
    refine G.iconst P at_78 (v := (2 : Int32)) rfl (pc' := 79) rfl ?_
    refine G.iadd P at_79 (pc' := 80) rfl ?_
    refine G.iconst P at_80 (v := (3 : Int32)) rfl (pc' := 81) rfl ?_
    refine G.iand P at_81 (pc' := 82) rfl ?_
    refine G.top (x' := (Int32.ofNat ((q + 2) % 4))) (own_rot2 hq) ?_
    refine G.callV P (wd hw (i := 23) rfl) (wd hw (i := 24) rfl) (wd hw (i := 26) rfl) (wd hw (i := 25) rfl) (wd hw (i := 3) rfl) (wd hw (i := 27) rfl) (by decide) O126.1 (argsL := [(.int (Int32.ofNat ((q + 2) % 4)))]) (a := b126) (rm4 hw b126 b113 b129 b130 (lst [p0, p1, p2, p3]) H2 P2 ((0 + 1) + 1) ((q + 2) % 4) h136 O126 A113 Ob129 Ob130 (Ne.symm ne_b113_b126) ne_b126_b129 ne_b126_b130 ne_b113_b129 ne_b113_b130 ne_b129_b130 g_b126 g_b129 g_b130 (by omega) V2.1 V2.2 (by omega) (by omega) P.sz) (by decide) (by decide) (cells' := 4) rfl (slots' := 16) rfl (by decide) (by decide) (lenOf pd_4 rfl) rfl (rest := []) rfl (W := 0) (Nat.le_of_eq rfl) at_82 (pc' := 85) rfl ?_
    clear O126
    clear A113
    clear Ob129
    clear Ob130
    rintro T h138 _ P ⟨rfl, K139, O126, A113, Ob129, Ob130⟩
    show Goes p e below s n0 room_1.cells room_1.slots (Q0 Z p0 p1 p2 p3 p4 p5 h0) (T.setTop (mkF m 85 #[.val (.int p0), .val (.int p1), .val (.int p2), .val (.int p3), .val (.int p4), .val (.int p5), .val (.ref b113), .val (.ref b126), .val (.int z132), .val (.int (Int32.ofNat q)), .unset, .unset, .unset] []))
    have V3 := own_ad_lt (b := own_bf (lst [p0, p1, p2, p3])) (n := ((0 + 1) + 1)) (g := ((q + 2) % 4)) (N := 4) (by omega) (by omega) V2.1 V2.2
    obtain ⟨H3, eH3⟩ : ∃ qq : Nat → Nat, (own_ad (own_bf (lst [p0, p1, p2, p3])) ((0 + 1) + 1) ((q + 2) % 4) H2 P2).1 = qq := ⟨_, rfl⟩
    rw [eH3] at Ob129
    obtain ⟨P3, eP3⟩ : ∃ qq : Nat → Nat, (own_ad (own_bf (lst [p0, p1, p2, p3])) ((0 + 1) + 1) ((q + 2) % 4) H2 P2).2 = qq := ⟨_, rfl⟩
    rw [eP3] at Ob130
    rw [eH3, eP3] at V3
    refine G.aload P at_85 rfl rfl (pc' := 87) rfl ?_
    refine G.iload P at_87 rfl (pc' := 89) rfl ?_
    refine G.iconst P at_89 (v := (3 : Int32)) rfl (pc' := 90) rfl ?_
    refine G.iadd P at_90 (pc' := 91) rfl ?_
    refine G.iconst P at_91 (v := (3 : Int32)) rfl (pc' := 92) rfl ?_
    refine G.iand P at_92 (pc' := 93) rfl ?_
    refine G.top (x' := (Int32.ofNat ((q + 3) % 4))) (own_rot3 hq) ?_
    refine G.callV P (wd hw (i := 23) rfl) (wd hw (i := 24) rfl) (wd hw (i := 26) rfl) (wd hw (i := 25) rfl) (wd hw (i := 3) rfl) (wd hw (i := 27) rfl) (by decide) O126.1 (argsL := [(.int (Int32.ofNat ((q + 3) % 4)))]) (a := b126) (rm4 hw b126 b113 b129 b130 (lst [p0, p1, p2, p3]) H3 P3 (((0 + 1) + 1) + 1) ((q + 3) % 4) h138 O126 A113 Ob129 Ob130 (Ne.symm ne_b113_b126) ne_b126_b129 ne_b126_b130 ne_b113_b129 ne_b113_b130 ne_b129_b130 g_b126 g_b129 g_b130 (by omega) V3.1 V3.2 (by omega) (by omega) P.sz) (by decide) (by decide) (cells' := 4) rfl (slots' := 16) rfl (by decide) (by decide) (lenOf pd_4 rfl) rfl (rest := []) rfl (W := 0) (Nat.le_of_eq rfl) at_93 (pc' := 96) rfl ?_
    clear O126
    clear A113
    clear Ob129
    clear Ob130
    rintro T h140 _ P ⟨rfl, K141, O126, A113, Ob129, Ob130⟩
    show Goes p e below s n0 room_1.cells room_1.slots (Q0 Z p0 p1 p2 p3 p4 p5 h0) (T.setTop (mkF m 96 #[.val (.int p0), .val (.int p1), .val (.int p2), .val (.int p3), .val (.int p4), .val (.int p5), .val (.ref b113), .val (.ref b126), .val (.int z132), .val (.int (Int32.ofNat q)), .unset, .unset, .unset] []))
    have V4 := own_ad_lt (b := own_bf (lst [p0, p1, p2, p3])) (n := (((0 + 1) + 1) + 1)) (g := ((q + 3) % 4)) (N := 4) (by omega) (by omega) V3.1 V3.2
    obtain ⟨H4, eH4⟩ : ∃ qq : Nat → Nat, (own_ad (own_bf (lst [p0, p1, p2, p3])) (((0 + 1) + 1) + 1) ((q + 3) % 4) H3 P3).1 = qq := ⟨_, rfl⟩
    rw [eH4] at Ob129
    obtain ⟨P4, eP4⟩ : ∃ qq : Nat → Nat, (own_ad (own_bf (lst [p0, p1, p2, p3])) (((0 + 1) + 1) + 1) ((q + 3) % 4) H3 P3).2 = qq := ⟨_, rfl⟩
    rw [eP4] at Ob130
    rw [eH4, eP4] at V4
    refine G.iconst P at_96 (v := (4 : Int32)) rfl (pc' := 97) rfl ?_
    refine G.newarray P (wd hw (i := 36) rfl) rfl (N := 4) (by decide) (cap := 4) (Nat.le_refl _) (by decide) at_97 (cells' := 5) rfl (slots' := 20) rfl (by decide) (by decide) (pc' := 99) rfl ?_
    intro T h142 b142 hb142 g_b142 P E142 A142
    have ne_b113_b142 : b113 ≠ b142 := by rw [hb142]; exact Nat.ne_of_lt A113.lt
    have ne_b126_b142 : b126 ≠ b142 := by rw [hb142]; exact Nat.ne_of_lt O126.lt
    have ne_b129_b142 : b129 ≠ b142 := by rw [hb142]; exact Nat.ne_of_lt Ob129.lt
    have ne_b130_b142 : b130 ≠ b142 := by rw [hb142]; exact Nat.ne_of_lt Ob130.lt
    replace A113 := A113.ext E142
    replace O126 := O126.ext E142
    replace Ob129 := Ob129.ext E142
    replace Ob130 := Ob130.ext E142
    replace A142 : Ints Z h142 b142 .boolean 4 (fun _ => 0) := A142
    replace A142 : Ints Z h142 b142 .boolean 4 (own_o (fun _ => 0)) := A142
    refine G.dup P at_99 rfl (pc' := 100) rfl ?_
    refine G.iconst P at_100 (v := (0 : Int32)) rfl (pc' := 101) rfl ?_
    refine G.iconst P at_101 (v := (1 : Int32)) rfl (pc' := 102) rfl ?_
    refine G.zastore P A142 (i := 0) (by decide) (by decide) g_b142 at_102 (pc' := 103) rfl ?_
    intro T h144 P W143
    replace A113 := A113.other W143 ne_b113_b142
    replace O126 := O126.other W143 ne_b126_b142
    replace Ob129 := Ob129.other W143 ne_b129_b142
    replace Ob130 := Ob130.other W143 ne_b130_b142
    replace A142 := A142.same W143
    rw [own_updz1] at A142
    refine G.dup P at_103 rfl (pc' := 104) rfl ?_
    refine G.iconst P at_104 (v := (1 : Int32)) rfl (pc' := 105) rfl ?_
    refine G.iconst P at_105 (v := (1 : Int32)) rfl (pc' := 106) rfl ?_
    refine G.zastore P A142 (i := 1) (by decide) (by decide) g_b142 at_106 (pc' := 107) rfl ?_
    intro T h147 P W146
    replace A113 := A113.other W146 ne_b113_b142
    replace O126 := O126.other W146 ne_b126_b142
    replace Ob129 := Ob129.other W146 ne_b129_b142
    replace Ob130 := Ob130.other W146 ne_b130_b142
    replace A142 := A142.same W146
    rw [own_updz1] at A142
    refine G.dup P at_107 rfl (pc' := 108) rfl ?_
    refine G.iconst P at_108 (v := (2 : Int32)) rfl (pc' := 109) rfl ?_
    refine G.iconst P at_109 (v := (1 : Int32)) rfl (pc' := 110) rfl ?_
    refine G.zastore P A142 (i := 2) (by decide) (by decide) g_b142 at_110 (pc' := 111) rfl ?_
    intro T h150 P W149
    replace A113 := A113.other W149 ne_b113_b142
    replace O126 := O126.other W149 ne_b126_b142
    replace Ob129 := Ob129.other W149 ne_b129_b142
    replace Ob130 := Ob130.other W149 ne_b130_b142
    replace A142 := A142.same W149
    rw [own_updz1] at A142
    refine G.dup P at_111 rfl (pc' := 112) rfl ?_
    refine G.iconst P at_112 (v := (3 : Int32)) rfl (pc' := 113) rfl ?_
    refine G.iconst P at_113 (v := (1 : Int32)) rfl (pc' := 114) rfl ?_
    refine G.zastore P A142 (i := 3) (by decide) (by decide) g_b142 at_114 (pc' := 115) rfl ?_
    intro T h153 P W152
    replace A113 := A113.other W152 ne_b113_b142
    replace O126 := O126.other W152 ne_b126_b142
    replace Ob129 := Ob129.other W152 ne_b129_b142
    replace Ob130 := Ob130.other W152 ne_b130_b142
    replace A142 := A142.same W152
    rw [own_updz1] at A142
    refine G.astore P at_115 rfl (L' := #[.val (.int p0), .val (.int p1), .val (.int p2), .val (.int p3), .val (.int p4), .val (.int p5), .val (.ref b113), .val (.ref b126), .val (.int z132), .val (.int (Int32.ofNat q)), .val (.ref b142), .unset, .unset]) rfl (pc' := 117) rfl ?_
    obtain ⟨M1, eM1⟩ : ∃ qq : Nat → Nat, (own_u (own_u (own_u (own_u (fun _ => 0) 0 1) 1 1) 2 1) 3 1) = qq := ⟨_, rfl⟩
    rw [eM1] at A142
    have hM1 : ∀ j, j < 4 → M1 j < 4 := by rw [← eM1]; exact own_u_lt (own_u_lt (own_u_lt (own_u_lt (fun j hj => by show 0 < 4; omega) (by omega)) (by omega)) (by omega)) (by omega)
    refine G.iload P at_117 rfl (pc' := 119) rfl ?_
    refine G.iconst P at_119 (v := (4 : Int32)) rfl (pc' := 120) rfl ?_
    refine G.iand P at_120 (pc' := 121) rfl ?_
    refine G.if_eq P at_121 (by decide) (pcY := 143) (by decide) (pcN := 124) rfl (fun c121 => ?_) (fun c121 => ?_)
    · refine G.iload P at_143 rfl (pc' := 145) rfl ?_
      refine G.bipush P at_145 (v := (7 : Int32)) rfl (pc' := 147) rfl ?_
      refine G.iushr P at_147 (pc' := 148) rfl ?_
      refine G.iconst P at_148 (v := (3 : Int32)) rfl (pc' := 149) rfl ?_
      refine G.iand P at_149 (pc' := 150) rfl ?_
      obtain ⟨x155, hx155⟩ : ∃ z : Int32, (((p5.toUInt32 >>> ((7 : Int32) &&& 31).toUInt32).toInt32) &&& (3 : Int32)) = z := ⟨_, rfl⟩
      refine G.istore P at_150 hx155 (L' := #[.val (.int p0), .val (.int p1), .val (.int p2), .val (.int p3), .val (.int p4), .val (.int p5), .val (.ref b113), .val (.ref b126), .val (.int z132), .val (.int (Int32.ofNat q)), .val (.ref b142), .val (.int x155), .unset]) rfl (pc' := 152) rfl ?_
      obtain ⟨v, hv, ev⟩ := own_g4 _ _ hx155
      subst ev
      refine G.iload P at_152 rfl (pc' := 154) rfl ?_
      refine G.bipush P at_154 (v := (8 : Int32)) rfl (pc' := 156) rfl ?_
      refine G.iand P at_156 (pc' := 157) rfl ?_
      refine G.if_eq P at_157 (by decide) (pcY := 182) (by decide) (pcN := 160) rfl (fun c157 => ?_) (fun c157 => ?_)
      · refine G.iconst P at_182 (v := (-1 : Int32)) rfl (pc' := 183) rfl ?_
        refine G.istore P at_183 rfl (L' := #[.val (.int p0), .val (.int p1), .val (.int p2), .val (.int p3), .val (.int p4), .val (.int p5), .val (.ref b113), .val (.ref b126), .val (.int z132), .val (.int (Int32.ofNat q)), .val (.ref b142), .val (.int (Int32.ofNat v)), .val (.int (-1 : Int32))]) rfl (pc' := 185) rfl ?_
        refine G.iload P at_185 rfl (pc' := 187) rfl ?_
        refine G.iconst P at_187 (v := (0 : Int32)) rfl (pc' := 188) rfl ?_
        refine G.aload P at_188 rfl rfl (pc' := 190) rfl ?_
        refine G.aload P at_190 rfl rfl (pc' := 192) rfl ?_
        refine G.callS P (wd hw (i := 37) rfl) (wd hw (i := 38) rfl) (wd hw (i := 39) rfl) (wd hw (i := 40) rfl) (by decide) (argsL := [(.int (-1 : Int32)), (.int (0 : Int32)), (.ref b142), (.ref b113)]) (rm7 hw b142 b113 (lst [p0, p1, p2, p3]) M1 0 0 h153 A142 A113 (by omega) (by omega) hM1 P.sz) (by decide) (by decide) (cells' := 5) rfl (slots' := 20) rfl (by decide) (by decide) (lenOf pd_7 rfl) rfl (rest := []) rfl (W := 0) (Nat.le_of_eq rfl) at_192 (pc' := 195) rfl ?_
        rintro T _ _ P ⟨rfl, rfl⟩
        show Goes p e below s n0 room_1.cells room_1.slots (Q0 Z p0 p1 p2 p3 p4 p5 h0) (T.setTop (mkF m 195 #[.val (.int p0), .val (.int p1), .val (.int p2), .val (.int p3), .val (.int p4), .val (.int p5), .val (.ref b113), .val (.ref b126), .val (.int z132), .val (.int (Int32.ofNat q)), .val (.ref b142), .val (.int (Int32.ofNat v)), .val (.int (-1 : Int32))] [(.int (own_e (own_pk (own_bf (lst [p0, p1, p2, p3])) M1 0 0)))]))
        generalize he1 : own_pk (own_bf (lst [p0, p1, p2, p3])) M1 0 0 = e1
        have he1' : e1 ≤ 1 := by rw [← he1]; exact own_pk_le (by omega)
        refine G.istore P at_195 rfl (L' := #[.val (.int p0), .val (.int p1), .val (.int p2), .val (.int p3), .val (.int p4), .val (.int p5), .val (.ref b113), .val (.ref b126), .val (.int z132), .val (.int (Int32.ofNat q)), .val (.ref b142), .val (.int (Int32.ofNat v)), .val (.int (own_e e1))]) rfl (pc' := 197) rfl ?_
        refine G.iload P at_197 rfl (pc' := 199) rfl ?_
        refine G.iconst P at_199 (v := (1 : Int32)) rfl (pc' := 200) rfl ?_
        refine G.aload P at_200 rfl rfl (pc' := 202) rfl ?_
        refine G.aload P at_202 rfl rfl (pc' := 204) rfl ?_
        refine G.callS P (wd hw (i := 37) rfl) (wd hw (i := 38) rfl) (wd hw (i := 39) rfl) (wd hw (i := 40) rfl) (by decide) (argsL := [(.int (own_e e1)), (.int (1 : Int32)), (.ref b142), (.ref b113)]) (rm7 hw b142 b113 (lst [p0, p1, p2, p3]) M1 e1 1 h153 A142 A113 (by omega) (by omega) hM1 P.sz) (by decide) (by decide) (cells' := 5) rfl (slots' := 20) rfl (by decide) (by decide) (lenOf pd_7 rfl) rfl (rest := []) rfl (W := 0) (Nat.le_of_eq rfl) at_204 (pc' := 207) rfl ?_
        rintro T _ _ P ⟨rfl, rfl⟩
        show Goes p e below s n0 room_1.cells room_1.slots (Q0 Z p0 p1 p2 p3 p4 p5 h0) (T.setTop (mkF m 207 #[.val (.int p0), .val (.int p1), .val (.int p2), .val (.int p3), .val (.int p4), .val (.int p5), .val (.ref b113), .val (.ref b126), .val (.int z132), .val (.int (Int32.ofNat q)), .val (.ref b142), .val (.int (Int32.ofNat v)), .val (.int (own_e e1))] [(.int (own_e (own_pk (own_bf (lst [p0, p1, p2, p3])) M1 e1 1)))]))
        generalize he2 : own_pk (own_bf (lst [p0, p1, p2, p3])) M1 e1 1 = e2
        have he2' : e2 ≤ 2 := by rw [← he2]; exact own_pk_le (by omega)
        refine G.istore P at_207 rfl (L' := #[.val (.int p0), .val (.int p1), .val (.int p2), .val (.int p3), .val (.int p4), .val (.int p5), .val (.ref b113), .val (.ref b126), .val (.int z132), .val (.int (Int32.ofNat q)), .val (.ref b142), .val (.int (Int32.ofNat v)), .val (.int (own_e e2))]) rfl (pc' := 209) rfl ?_
        refine G.iload P at_209 rfl (pc' := 211) rfl ?_
        refine G.iconst P at_211 (v := (2 : Int32)) rfl (pc' := 212) rfl ?_
        refine G.aload P at_212 rfl rfl (pc' := 214) rfl ?_
        refine G.aload P at_214 rfl rfl (pc' := 216) rfl ?_
        refine G.callS P (wd hw (i := 37) rfl) (wd hw (i := 38) rfl) (wd hw (i := 39) rfl) (wd hw (i := 40) rfl) (by decide) (argsL := [(.int (own_e e2)), (.int (2 : Int32)), (.ref b142), (.ref b113)]) (rm7 hw b142 b113 (lst [p0, p1, p2, p3]) M1 e2 2 h153 A142 A113 (by omega) (by omega) hM1 P.sz) (by decide) (by decide) (cells' := 5) rfl (slots' := 20) rfl (by decide) (by decide) (lenOf pd_7 rfl) rfl (rest := []) rfl (W := 0) (Nat.le_of_eq rfl) at_216 (pc' := 219) rfl ?_
        rintro T _ _ P ⟨rfl, rfl⟩
        show Goes p e below s n0 room_1.cells room_1.slots (Q0 Z p0 p1 p2 p3 p4 p5 h0) (T.setTop (mkF m 219 #[.val (.int p0), .val (.int p1), .val (.int p2), .val (.int p3), .val (.int p4), .val (.int p5), .val (.ref b113), .val (.ref b126), .val (.int z132), .val (.int (Int32.ofNat q)), .val (.ref b142), .val (.int (Int32.ofNat v)), .val (.int (own_e e2))] [(.int (own_e (own_pk (own_bf (lst [p0, p1, p2, p3])) M1 e2 2)))]))
        generalize he3 : own_pk (own_bf (lst [p0, p1, p2, p3])) M1 e2 2 = e3
        have he3' : e3 ≤ 3 := by rw [← he3]; exact own_pk_le (by omega)
        refine G.istore P at_219 rfl (L' := #[.val (.int p0), .val (.int p1), .val (.int p2), .val (.int p3), .val (.int p4), .val (.int p5), .val (.ref b113), .val (.ref b126), .val (.int z132), .val (.int (Int32.ofNat q)), .val (.ref b142), .val (.int (Int32.ofNat v)), .val (.int (own_e e3))]) rfl (pc' := 221) rfl ?_
        refine G.iload P at_221 rfl (pc' := 223) rfl ?_
        refine G.iconst P at_223 (v := (3 : Int32)) rfl (pc' := 224) rfl ?_
        refine G.aload P at_224 rfl rfl (pc' := 226) rfl ?_
        refine G.aload P at_226 rfl rfl (pc' := 228) rfl ?_
        refine G.callS P (wd hw (i := 37) rfl) (wd hw (i := 38) rfl) (wd hw (i := 39) rfl) (wd hw (i := 40) rfl) (by decide) (argsL := [(.int (own_e e3)), (.int (3 : Int32)), (.ref b142), (.ref b113)]) (rm7 hw b142 b113 (lst [p0, p1, p2, p3]) M1 e3 3 h153 A142 A113 (by omega) (by omega) hM1 P.sz) (by decide) (by decide) (cells' := 5) rfl (slots' := 20) rfl (by decide) (by decide) (lenOf pd_7 rfl) rfl (rest := []) rfl (W := 0) (Nat.le_of_eq rfl) at_228 (pc' := 231) rfl ?_
        rintro T _ _ P ⟨rfl, rfl⟩
        show Goes p e below s n0 room_1.cells room_1.slots (Q0 Z p0 p1 p2 p3 p4 p5 h0) (T.setTop (mkF m 231 #[.val (.int p0), .val (.int p1), .val (.int p2), .val (.int p3), .val (.int p4), .val (.int p5), .val (.ref b113), .val (.ref b126), .val (.int z132), .val (.int (Int32.ofNat q)), .val (.ref b142), .val (.int (Int32.ofNat v)), .val (.int (own_e e3))] [(.int (own_e (own_pk (own_bf (lst [p0, p1, p2, p3])) M1 e3 3)))]))
        generalize he4 : own_pk (own_bf (lst [p0, p1, p2, p3])) M1 e3 3 = e4
        have he4' : e4 ≤ 4 := by rw [← he4]; exact own_pk_le (by omega)
        refine G.istore P at_231 rfl (L' := #[.val (.int p0), .val (.int p1), .val (.int p2), .val (.int p3), .val (.int p4), .val (.int p5), .val (.ref b113), .val (.ref b126), .val (.int z132), .val (.int (Int32.ofNat q)), .val (.ref b142), .val (.int (Int32.ofNat v)), .val (.int (own_e e4))]) rfl (pc' := 233) rfl ?_
        refine G.iload P at_233 rfl (pc' := 235) rfl ?_
        refine G.if_eq P at_235 (by decide) (pcY := 252) (by decide) (pcN := 238) rfl (fun c235 => ?_) (fun c235 => ?_)
        · refine G.iconst P at_252 (v := (0 : Int32)) rfl (pc' := 253) rfl ?_
          have hc := own_pA ((own_bfN (lst [p0, p1, p2, p3]) q hq).1)
          simp only [own_pks, own_s4, own_M] at hc
          rw [eM1, eH1, eP1, eH2, eP2, eH3, eP3, eH4, he1, he2, he3, he4] at hc
          have u1 : r131 = (-1 : Int32) := by rw [← hr131]; unfold own_first; rw [if_pos rfl]
          exact G.ireturnN P (t := .boolean) rfl (by simp) rfl at_253 (by decide) (by decide) ⟨congrArg (fun z => some (Value.int z)) (absurd c235 (by rw [hz132, if_pos u1]; decide)), trivial⟩
        · refine G.aload P at_238 rfl rfl (pc' := 240) rfl ?_
          refine G.callV P (wd hw (i := 16) rfl) (wd hw (i := 17) rfl) (wd hw (i := 19) rfl) (wd hw (i := 18) rfl) (wd hw (i := 3) rfl) (wd hw (i := 20) rfl) (by decide) O126.1 (argsL := []) (a := b126) (rm3 hw b126 b113 b129 b130 H4 ((((0 + 1) + 1) + 1) + 1) h153 O126 Ob129 ne_b126_b129 (by omega) P.sz) (by decide) (by decide) (cells' := 5) rfl (slots' := 20) rfl (by decide) (by decide) (lenOf pd_3 rfl) rfl (rest := []) rfl (W := 0) (Nat.le_of_eq rfl) at_240 (pc' := 243) rfl ?_
          rintro T _ _ P ⟨rfl, rfl⟩
          show Goes p e below s n0 room_1.cells room_1.slots (Q0 Z p0 p1 p2 p3 p4 p5 h0) (T.setTop (mkF m 243 #[.val (.int p0), .val (.int p1), .val (.int p2), .val (.int p3), .val (.int p4), .val (.int p5), .val (.ref b113), .val (.ref b126), .val (.int z132), .val (.int (Int32.ofNat q)), .val (.ref b142), .val (.int (Int32.ofNat v)), .val (.int (own_e e4))] [(.int (own_first ((((0 + 1) + 1) + 1) + 1) H4))]))
          generalize hr156 : (own_first ((((0 + 1) + 1) + 1) + 1) H4) = r156
          refine G.iload P at_243 rfl (pc' := 245) rfl ?_
          have J253_245 : ∀ (z157 : Int32), z157 = (if r156 = (own_e e4) then (1 : Int32) else (0 : Int32)) → Goes p e below s n0 room_1.cells room_1.slots (Q0 Z p0 p1 p2 p3 p4 p5 h0) (T.setTop (mkF m 253 #[.val (.int p0), .val (.int p1), .val (.int p2), .val (.int p3), .val (.int p4), .val (.int p5), .val (.ref b113), .val (.ref b126), .val (.int z132), .val (.int (Int32.ofNat q)), .val (.ref b142), .val (.int (Int32.ofNat v)), .val (.int (own_e e4))] [(.int z157)])) := by
            intro z157 hz157
            have hc := own_pA ((own_bfN (lst [p0, p1, p2, p3]) q hq).1)
            simp only [own_pks, own_s4, own_M] at hc
            rw [eM1, eH1, eP1, eH2, eP2, eH3, eP3, eH4, he1, he2, he3, he4] at hc
            have u1 : r131 = (-1 : Int32) := by rw [← hr131]; unfold own_first; rw [if_pos rfl]
            have u2 : r156 = own_e e4 := by rw [← hr156]; exact own_eqe (by omega) (by omega) hc
            exact G.ireturnN P (t := .boolean) rfl (by simp) rfl at_253 (by decide) (by decide) ⟨congrArg (fun z => some (Value.int z)) (by rw [hz157, if_pos u2]; rfl), trivial⟩
          refine G.icmp_ne P at_245 (by decide) (pcY := 252) (by decide) (pcN := 248) rfl (fun c245 => ?_) (fun c245 => ?_)
          · refine G.iconst P at_252 (v := (0 : Int32)) rfl (pc' := 253) rfl ?_
            exact J253_245 _ (by simp only [if_neg c245])
          · refine G.iconst P at_248 (v := (1 : Int32)) rfl (pc' := 249) rfl ?_
            refine G.goto P at_249 (by decide) (pc' := 253) (by decide) ?_
            exact J253_245 _ (by simp only [if_pos c245])
      · refine G.aload P at_160 rfl rfl (pc' := 162) rfl ?_
        refine G.iload P at_162 rfl (pc' := 164) rfl ?_
        refine G.zaload P A142 (i := v) (own_toInt (by omega)) (by omega) at_164 (pc' := 165) rfl ?_
        show Goes p e below s n0 room_1.cells room_1.slots (Q0 Z p0 p1 p2 p3 p4 p5 h0) (T.setTop (mkF m 165 #[.val (.int p0), .val (.int p1), .val (.int p2), .val (.int p3), .val (.int p4), .val (.int p5), .val (.ref b113), .val (.ref b126), .val (.int z132), .val (.int (Int32.ofNat q)), .val (.ref b142), .val (.int (Int32.ofNat v)), .unset] [(.int (Int32.ofNat (M1 v)))]))
        refine G.if_eq P at_165 (by decide) (pcY := 182) (by decide) (pcN := 168) rfl (fun c165 => ?_) (fun c165 => ?_)
        · refine G.iconst P at_182 (v := (-1 : Int32)) rfl (pc' := 183) rfl ?_
          refine G.istore P at_183 rfl (L' := #[.val (.int p0), .val (.int p1), .val (.int p2), .val (.int p3), .val (.int p4), .val (.int p5), .val (.ref b113), .val (.ref b126), .val (.int z132), .val (.int (Int32.ofNat q)), .val (.ref b142), .val (.int (Int32.ofNat v)), .val (.int (-1 : Int32))]) rfl (pc' := 185) rfl ?_
          refine G.iload P at_185 rfl (pc' := 187) rfl ?_
          refine G.iconst P at_187 (v := (0 : Int32)) rfl (pc' := 188) rfl ?_
          refine G.aload P at_188 rfl rfl (pc' := 190) rfl ?_
          refine G.aload P at_190 rfl rfl (pc' := 192) rfl ?_
          refine G.callS P (wd hw (i := 37) rfl) (wd hw (i := 38) rfl) (wd hw (i := 39) rfl) (wd hw (i := 40) rfl) (by decide) (argsL := [(.int (-1 : Int32)), (.int (0 : Int32)), (.ref b142), (.ref b113)]) (rm7 hw b142 b113 (lst [p0, p1, p2, p3]) M1 0 0 h153 A142 A113 (by omega) (by omega) hM1 P.sz) (by decide) (by decide) (cells' := 5) rfl (slots' := 20) rfl (by decide) (by decide) (lenOf pd_7 rfl) rfl (rest := []) rfl (W := 0) (Nat.le_of_eq rfl) at_192 (pc' := 195) rfl ?_
          rintro T _ _ P ⟨rfl, rfl⟩
          show Goes p e below s n0 room_1.cells room_1.slots (Q0 Z p0 p1 p2 p3 p4 p5 h0) (T.setTop (mkF m 195 #[.val (.int p0), .val (.int p1), .val (.int p2), .val (.int p3), .val (.int p4), .val (.int p5), .val (.ref b113), .val (.ref b126), .val (.int z132), .val (.int (Int32.ofNat q)), .val (.ref b142), .val (.int (Int32.ofNat v)), .val (.int (-1 : Int32))] [(.int (own_e (own_pk (own_bf (lst [p0, p1, p2, p3])) M1 0 0)))]))
          generalize he1 : own_pk (own_bf (lst [p0, p1, p2, p3])) M1 0 0 = e1
          have he1' : e1 ≤ 1 := by rw [← he1]; exact own_pk_le (by omega)
          refine G.istore P at_195 rfl (L' := #[.val (.int p0), .val (.int p1), .val (.int p2), .val (.int p3), .val (.int p4), .val (.int p5), .val (.ref b113), .val (.ref b126), .val (.int z132), .val (.int (Int32.ofNat q)), .val (.ref b142), .val (.int (Int32.ofNat v)), .val (.int (own_e e1))]) rfl (pc' := 197) rfl ?_
          refine G.iload P at_197 rfl (pc' := 199) rfl ?_
          refine G.iconst P at_199 (v := (1 : Int32)) rfl (pc' := 200) rfl ?_
          refine G.aload P at_200 rfl rfl (pc' := 202) rfl ?_
          refine G.aload P at_202 rfl rfl (pc' := 204) rfl ?_
          refine G.callS P (wd hw (i := 37) rfl) (wd hw (i := 38) rfl) (wd hw (i := 39) rfl) (wd hw (i := 40) rfl) (by decide) (argsL := [(.int (own_e e1)), (.int (1 : Int32)), (.ref b142), (.ref b113)]) (rm7 hw b142 b113 (lst [p0, p1, p2, p3]) M1 e1 1 h153 A142 A113 (by omega) (by omega) hM1 P.sz) (by decide) (by decide) (cells' := 5) rfl (slots' := 20) rfl (by decide) (by decide) (lenOf pd_7 rfl) rfl (rest := []) rfl (W := 0) (Nat.le_of_eq rfl) at_204 (pc' := 207) rfl ?_
          rintro T _ _ P ⟨rfl, rfl⟩
          show Goes p e below s n0 room_1.cells room_1.slots (Q0 Z p0 p1 p2 p3 p4 p5 h0) (T.setTop (mkF m 207 #[.val (.int p0), .val (.int p1), .val (.int p2), .val (.int p3), .val (.int p4), .val (.int p5), .val (.ref b113), .val (.ref b126), .val (.int z132), .val (.int (Int32.ofNat q)), .val (.ref b142), .val (.int (Int32.ofNat v)), .val (.int (own_e e1))] [(.int (own_e (own_pk (own_bf (lst [p0, p1, p2, p3])) M1 e1 1)))]))
          generalize he2 : own_pk (own_bf (lst [p0, p1, p2, p3])) M1 e1 1 = e2
          have he2' : e2 ≤ 2 := by rw [← he2]; exact own_pk_le (by omega)
          refine G.istore P at_207 rfl (L' := #[.val (.int p0), .val (.int p1), .val (.int p2), .val (.int p3), .val (.int p4), .val (.int p5), .val (.ref b113), .val (.ref b126), .val (.int z132), .val (.int (Int32.ofNat q)), .val (.ref b142), .val (.int (Int32.ofNat v)), .val (.int (own_e e2))]) rfl (pc' := 209) rfl ?_
          refine G.iload P at_209 rfl (pc' := 211) rfl ?_
          refine G.iconst P at_211 (v := (2 : Int32)) rfl (pc' := 212) rfl ?_
          refine G.aload P at_212 rfl rfl (pc' := 214) rfl ?_
          refine G.aload P at_214 rfl rfl (pc' := 216) rfl ?_
          refine G.callS P (wd hw (i := 37) rfl) (wd hw (i := 38) rfl) (wd hw (i := 39) rfl) (wd hw (i := 40) rfl) (by decide) (argsL := [(.int (own_e e2)), (.int (2 : Int32)), (.ref b142), (.ref b113)]) (rm7 hw b142 b113 (lst [p0, p1, p2, p3]) M1 e2 2 h153 A142 A113 (by omega) (by omega) hM1 P.sz) (by decide) (by decide) (cells' := 5) rfl (slots' := 20) rfl (by decide) (by decide) (lenOf pd_7 rfl) rfl (rest := []) rfl (W := 0) (Nat.le_of_eq rfl) at_216 (pc' := 219) rfl ?_
          rintro T _ _ P ⟨rfl, rfl⟩
          show Goes p e below s n0 room_1.cells room_1.slots (Q0 Z p0 p1 p2 p3 p4 p5 h0) (T.setTop (mkF m 219 #[.val (.int p0), .val (.int p1), .val (.int p2), .val (.int p3), .val (.int p4), .val (.int p5), .val (.ref b113), .val (.ref b126), .val (.int z132), .val (.int (Int32.ofNat q)), .val (.ref b142), .val (.int (Int32.ofNat v)), .val (.int (own_e e2))] [(.int (own_e (own_pk (own_bf (lst [p0, p1, p2, p3])) M1 e2 2)))]))
          generalize he3 : own_pk (own_bf (lst [p0, p1, p2, p3])) M1 e2 2 = e3
          have he3' : e3 ≤ 3 := by rw [← he3]; exact own_pk_le (by omega)
          refine G.istore P at_219 rfl (L' := #[.val (.int p0), .val (.int p1), .val (.int p2), .val (.int p3), .val (.int p4), .val (.int p5), .val (.ref b113), .val (.ref b126), .val (.int z132), .val (.int (Int32.ofNat q)), .val (.ref b142), .val (.int (Int32.ofNat v)), .val (.int (own_e e3))]) rfl (pc' := 221) rfl ?_
          refine G.iload P at_221 rfl (pc' := 223) rfl ?_
          refine G.iconst P at_223 (v := (3 : Int32)) rfl (pc' := 224) rfl ?_
          refine G.aload P at_224 rfl rfl (pc' := 226) rfl ?_
          refine G.aload P at_226 rfl rfl (pc' := 228) rfl ?_
          refine G.callS P (wd hw (i := 37) rfl) (wd hw (i := 38) rfl) (wd hw (i := 39) rfl) (wd hw (i := 40) rfl) (by decide) (argsL := [(.int (own_e e3)), (.int (3 : Int32)), (.ref b142), (.ref b113)]) (rm7 hw b142 b113 (lst [p0, p1, p2, p3]) M1 e3 3 h153 A142 A113 (by omega) (by omega) hM1 P.sz) (by decide) (by decide) (cells' := 5) rfl (slots' := 20) rfl (by decide) (by decide) (lenOf pd_7 rfl) rfl (rest := []) rfl (W := 0) (Nat.le_of_eq rfl) at_228 (pc' := 231) rfl ?_
          rintro T _ _ P ⟨rfl, rfl⟩
          show Goes p e below s n0 room_1.cells room_1.slots (Q0 Z p0 p1 p2 p3 p4 p5 h0) (T.setTop (mkF m 231 #[.val (.int p0), .val (.int p1), .val (.int p2), .val (.int p3), .val (.int p4), .val (.int p5), .val (.ref b113), .val (.ref b126), .val (.int z132), .val (.int (Int32.ofNat q)), .val (.ref b142), .val (.int (Int32.ofNat v)), .val (.int (own_e e3))] [(.int (own_e (own_pk (own_bf (lst [p0, p1, p2, p3])) M1 e3 3)))]))
          generalize he4 : own_pk (own_bf (lst [p0, p1, p2, p3])) M1 e3 3 = e4
          have he4' : e4 ≤ 4 := by rw [← he4]; exact own_pk_le (by omega)
          refine G.istore P at_231 rfl (L' := #[.val (.int p0), .val (.int p1), .val (.int p2), .val (.int p3), .val (.int p4), .val (.int p5), .val (.ref b113), .val (.ref b126), .val (.int z132), .val (.int (Int32.ofNat q)), .val (.ref b142), .val (.int (Int32.ofNat v)), .val (.int (own_e e4))]) rfl (pc' := 233) rfl ?_
          refine G.iload P at_233 rfl (pc' := 235) rfl ?_
          refine G.if_eq P at_235 (by decide) (pcY := 252) (by decide) (pcN := 238) rfl (fun c235 => ?_) (fun c235 => ?_)
          · refine G.iconst P at_252 (v := (0 : Int32)) rfl (pc' := 253) rfl ?_
            have hc := own_pA ((own_bfN (lst [p0, p1, p2, p3]) q hq).1)
            simp only [own_pks, own_s4, own_M] at hc
            rw [eM1, eH1, eP1, eH2, eP2, eH3, eP3, eH4, he1, he2, he3, he4] at hc
            have u1 : r131 = (-1 : Int32) := by rw [← hr131]; unfold own_first; rw [if_pos rfl]
            exact G.ireturnN P (t := .boolean) rfl (by simp) rfl at_253 (by decide) (by decide) ⟨congrArg (fun z => some (Value.int z)) (absurd c235 (by rw [hz132, if_pos u1]; decide)), trivial⟩
          · refine G.aload P at_238 rfl rfl (pc' := 240) rfl ?_
            refine G.callV P (wd hw (i := 16) rfl) (wd hw (i := 17) rfl) (wd hw (i := 19) rfl) (wd hw (i := 18) rfl) (wd hw (i := 3) rfl) (wd hw (i := 20) rfl) (by decide) O126.1 (argsL := []) (a := b126) (rm3 hw b126 b113 b129 b130 H4 ((((0 + 1) + 1) + 1) + 1) h153 O126 Ob129 ne_b126_b129 (by omega) P.sz) (by decide) (by decide) (cells' := 5) rfl (slots' := 20) rfl (by decide) (by decide) (lenOf pd_3 rfl) rfl (rest := []) rfl (W := 0) (Nat.le_of_eq rfl) at_240 (pc' := 243) rfl ?_
            rintro T _ _ P ⟨rfl, rfl⟩
            show Goes p e below s n0 room_1.cells room_1.slots (Q0 Z p0 p1 p2 p3 p4 p5 h0) (T.setTop (mkF m 243 #[.val (.int p0), .val (.int p1), .val (.int p2), .val (.int p3), .val (.int p4), .val (.int p5), .val (.ref b113), .val (.ref b126), .val (.int z132), .val (.int (Int32.ofNat q)), .val (.ref b142), .val (.int (Int32.ofNat v)), .val (.int (own_e e4))] [(.int (own_first ((((0 + 1) + 1) + 1) + 1) H4))]))
            generalize hr158 : (own_first ((((0 + 1) + 1) + 1) + 1) H4) = r158
            refine G.iload P at_243 rfl (pc' := 245) rfl ?_
            have J253_245 : ∀ (z159 : Int32), z159 = (if r158 = (own_e e4) then (1 : Int32) else (0 : Int32)) → Goes p e below s n0 room_1.cells room_1.slots (Q0 Z p0 p1 p2 p3 p4 p5 h0) (T.setTop (mkF m 253 #[.val (.int p0), .val (.int p1), .val (.int p2), .val (.int p3), .val (.int p4), .val (.int p5), .val (.ref b113), .val (.ref b126), .val (.int z132), .val (.int (Int32.ofNat q)), .val (.ref b142), .val (.int (Int32.ofNat v)), .val (.int (own_e e4))] [(.int z159)])) := by
              intro z159 hz159
              have hc := own_pA ((own_bfN (lst [p0, p1, p2, p3]) q hq).1)
              simp only [own_pks, own_s4, own_M] at hc
              rw [eM1, eH1, eP1, eH2, eP2, eH3, eP3, eH4, he1, he2, he3, he4] at hc
              have u1 : r131 = (-1 : Int32) := by rw [← hr131]; unfold own_first; rw [if_pos rfl]
              have u2 : r158 = own_e e4 := by rw [← hr158]; exact own_eqe (by omega) (by omega) hc
              exact G.ireturnN P (t := .boolean) rfl (by simp) rfl at_253 (by decide) (by decide) ⟨congrArg (fun z => some (Value.int z)) (by rw [hz159, if_pos u2]; rfl), trivial⟩
            refine G.icmp_ne P at_245 (by decide) (pcY := 252) (by decide) (pcN := 248) rfl (fun c245 => ?_) (fun c245 => ?_)
            · refine G.iconst P at_252 (v := (0 : Int32)) rfl (pc' := 253) rfl ?_
              exact J253_245 _ (by simp only [if_neg c245])
            · refine G.iconst P at_248 (v := (1 : Int32)) rfl (pc' := 249) rfl ?_
              refine G.goto P at_249 (by decide) (pc' := 253) (by decide) ?_
              exact J253_245 _ (by simp only [if_pos c245])
        · refine G.aload P at_168 rfl rfl (pc' := 170) rfl ?_
          refine G.iload P at_170 rfl (pc' := 172) rfl ?_
          refine G.iload P at_172 rfl (pc' := 174) rfl ?_
          refine G.iastore P A113 (i := v) (own_toInt (by omega)) (by omega) g_b113 at_174 (pc' := 175) rfl ?_
          intro T h161 P W160
          replace A113 := A113.same W160
          replace O126 := O126.other W160 (Ne.symm ne_b113_b126)
          replace Ob129 := Ob129.other W160 (Ne.symm ne_b113_b129)
          replace Ob130 := Ob130.other W160 (Ne.symm ne_b113_b130)
          replace A142 := A142.other W160 (Ne.symm ne_b113_b142)
          obtain ⟨F162, hF162⟩ : ∃ q : Nat → Int32, (oupd (lst [p0, p1, p2, p3]) v p4) = q := ⟨_, rfl⟩
          rw [hF162] at A113
          refine G.aload P at_175 rfl rfl (pc' := 177) rfl ?_
          refine G.iload P at_177 rfl (pc' := 179) rfl ?_
          refine G.callV P (wd hw (i := 55) rfl) (wd hw (i := 47) rfl) (wd hw (i := 49) rfl) (wd hw (i := 48) rfl) (wd hw (i := 3) rfl) (wd hw (i := 50) rfl) (by decide) O126.1 (argsL := [(.int (Int32.ofNat v))]) (a := b126) (rm9 hw b126 b113 b129 b130 F162 H4 P4 ((((0 + 1) + 1) + 1) + 1) v h161 O126 A113 Ob129 Ob130 (Ne.symm ne_b113_b126) ne_b126_b129 ne_b126_b130 ne_b113_b129 ne_b113_b130 ne_b129_b130 g_b129 g_b130 (by omega) V4.1 V4.2 (by omega) P.sz) (by decide) (by decide) (cells' := 5) rfl (slots' := 20) rfl (by decide) (by decide) (lenOf pd_9 rfl) rfl (rest := []) rfl (W := 0) (Nat.le_of_eq rfl) at_179 (pc' := 182) rfl ?_
          clear O126
          clear A113
          clear Ob129
          clear Ob130
          rintro T h163 _ P ⟨rfl, K164, O126, A113, Ob129, Ob130⟩
          replace A142 := A142.keep K164 (ninS (Ne.symm ne_b129_b142) (ninS (Ne.symm ne_b130_b142) nin0))
          show Goes p e below s n0 room_1.cells room_1.slots (Q0 Z p0 p1 p2 p3 p4 p5 h0) (T.setTop (mkF m 182 #[.val (.int p0), .val (.int p1), .val (.int p2), .val (.int p3), .val (.int p4), .val (.int p5), .val (.ref b113), .val (.ref b126), .val (.int z132), .val (.int (Int32.ofNat q)), .val (.ref b142), .val (.int (Int32.ofNat v)), .unset] []))
          have V5 := own_mv_lt (b := own_bf F162) (n := ((((0 + 1) + 1) + 1) + 1)) (g := v) (N := 4) (by omega) (by omega) V4.1 V4.2
          obtain ⟨H5, eH5⟩ : ∃ qq : Nat → Nat, (own_mv (own_bf F162) ((((0 + 1) + 1) + 1) + 1) v H4 P4).1 = qq := ⟨_, rfl⟩
          rw [eH5] at Ob129
          obtain ⟨P5, eP5⟩ : ∃ qq : Nat → Nat, (own_mv (own_bf F162) ((((0 + 1) + 1) + 1) + 1) v H4 P4).2 = qq := ⟨_, rfl⟩
          rw [eP5] at Ob130
          rw [eH5, eP5] at V5
          refine G.iconst P at_182 (v := (-1 : Int32)) rfl (pc' := 183) rfl ?_
          refine G.istore P at_183 rfl (L' := #[.val (.int p0), .val (.int p1), .val (.int p2), .val (.int p3), .val (.int p4), .val (.int p5), .val (.ref b113), .val (.ref b126), .val (.int z132), .val (.int (Int32.ofNat q)), .val (.ref b142), .val (.int (Int32.ofNat v)), .val (.int (-1 : Int32))]) rfl (pc' := 185) rfl ?_
          refine G.iload P at_185 rfl (pc' := 187) rfl ?_
          refine G.iconst P at_187 (v := (0 : Int32)) rfl (pc' := 188) rfl ?_
          refine G.aload P at_188 rfl rfl (pc' := 190) rfl ?_
          refine G.aload P at_190 rfl rfl (pc' := 192) rfl ?_
          refine G.callS P (wd hw (i := 37) rfl) (wd hw (i := 38) rfl) (wd hw (i := 39) rfl) (wd hw (i := 40) rfl) (by decide) (argsL := [(.int (-1 : Int32)), (.int (0 : Int32)), (.ref b142), (.ref b113)]) (rm7 hw b142 b113 F162 M1 0 0 h163 A142 A113 (by omega) (by omega) hM1 P.sz) (by decide) (by decide) (cells' := 5) rfl (slots' := 20) rfl (by decide) (by decide) (lenOf pd_7 rfl) rfl (rest := []) rfl (W := 0) (Nat.le_of_eq rfl) at_192 (pc' := 195) rfl ?_
          rintro T _ _ P ⟨rfl, rfl⟩
          show Goes p e below s n0 room_1.cells room_1.slots (Q0 Z p0 p1 p2 p3 p4 p5 h0) (T.setTop (mkF m 195 #[.val (.int p0), .val (.int p1), .val (.int p2), .val (.int p3), .val (.int p4), .val (.int p5), .val (.ref b113), .val (.ref b126), .val (.int z132), .val (.int (Int32.ofNat q)), .val (.ref b142), .val (.int (Int32.ofNat v)), .val (.int (-1 : Int32))] [(.int (own_e (own_pk (own_bf F162) M1 0 0)))]))
          generalize he1 : own_pk (own_bf F162) M1 0 0 = e1
          have he1' : e1 ≤ 1 := by rw [← he1]; exact own_pk_le (by omega)
          refine G.istore P at_195 rfl (L' := #[.val (.int p0), .val (.int p1), .val (.int p2), .val (.int p3), .val (.int p4), .val (.int p5), .val (.ref b113), .val (.ref b126), .val (.int z132), .val (.int (Int32.ofNat q)), .val (.ref b142), .val (.int (Int32.ofNat v)), .val (.int (own_e e1))]) rfl (pc' := 197) rfl ?_
          refine G.iload P at_197 rfl (pc' := 199) rfl ?_
          refine G.iconst P at_199 (v := (1 : Int32)) rfl (pc' := 200) rfl ?_
          refine G.aload P at_200 rfl rfl (pc' := 202) rfl ?_
          refine G.aload P at_202 rfl rfl (pc' := 204) rfl ?_
          refine G.callS P (wd hw (i := 37) rfl) (wd hw (i := 38) rfl) (wd hw (i := 39) rfl) (wd hw (i := 40) rfl) (by decide) (argsL := [(.int (own_e e1)), (.int (1 : Int32)), (.ref b142), (.ref b113)]) (rm7 hw b142 b113 F162 M1 e1 1 h163 A142 A113 (by omega) (by omega) hM1 P.sz) (by decide) (by decide) (cells' := 5) rfl (slots' := 20) rfl (by decide) (by decide) (lenOf pd_7 rfl) rfl (rest := []) rfl (W := 0) (Nat.le_of_eq rfl) at_204 (pc' := 207) rfl ?_
          rintro T _ _ P ⟨rfl, rfl⟩
          show Goes p e below s n0 room_1.cells room_1.slots (Q0 Z p0 p1 p2 p3 p4 p5 h0) (T.setTop (mkF m 207 #[.val (.int p0), .val (.int p1), .val (.int p2), .val (.int p3), .val (.int p4), .val (.int p5), .val (.ref b113), .val (.ref b126), .val (.int z132), .val (.int (Int32.ofNat q)), .val (.ref b142), .val (.int (Int32.ofNat v)), .val (.int (own_e e1))] [(.int (own_e (own_pk (own_bf F162) M1 e1 1)))]))
          generalize he2 : own_pk (own_bf F162) M1 e1 1 = e2
          have he2' : e2 ≤ 2 := by rw [← he2]; exact own_pk_le (by omega)
          refine G.istore P at_207 rfl (L' := #[.val (.int p0), .val (.int p1), .val (.int p2), .val (.int p3), .val (.int p4), .val (.int p5), .val (.ref b113), .val (.ref b126), .val (.int z132), .val (.int (Int32.ofNat q)), .val (.ref b142), .val (.int (Int32.ofNat v)), .val (.int (own_e e2))]) rfl (pc' := 209) rfl ?_
          refine G.iload P at_209 rfl (pc' := 211) rfl ?_
          refine G.iconst P at_211 (v := (2 : Int32)) rfl (pc' := 212) rfl ?_
          refine G.aload P at_212 rfl rfl (pc' := 214) rfl ?_
          refine G.aload P at_214 rfl rfl (pc' := 216) rfl ?_
          refine G.callS P (wd hw (i := 37) rfl) (wd hw (i := 38) rfl) (wd hw (i := 39) rfl) (wd hw (i := 40) rfl) (by decide) (argsL := [(.int (own_e e2)), (.int (2 : Int32)), (.ref b142), (.ref b113)]) (rm7 hw b142 b113 F162 M1 e2 2 h163 A142 A113 (by omega) (by omega) hM1 P.sz) (by decide) (by decide) (cells' := 5) rfl (slots' := 20) rfl (by decide) (by decide) (lenOf pd_7 rfl) rfl (rest := []) rfl (W := 0) (Nat.le_of_eq rfl) at_216 (pc' := 219) rfl ?_
          rintro T _ _ P ⟨rfl, rfl⟩
          show Goes p e below s n0 room_1.cells room_1.slots (Q0 Z p0 p1 p2 p3 p4 p5 h0) (T.setTop (mkF m 219 #[.val (.int p0), .val (.int p1), .val (.int p2), .val (.int p3), .val (.int p4), .val (.int p5), .val (.ref b113), .val (.ref b126), .val (.int z132), .val (.int (Int32.ofNat q)), .val (.ref b142), .val (.int (Int32.ofNat v)), .val (.int (own_e e2))] [(.int (own_e (own_pk (own_bf F162) M1 e2 2)))]))
          generalize he3 : own_pk (own_bf F162) M1 e2 2 = e3
          have he3' : e3 ≤ 3 := by rw [← he3]; exact own_pk_le (by omega)
          refine G.istore P at_219 rfl (L' := #[.val (.int p0), .val (.int p1), .val (.int p2), .val (.int p3), .val (.int p4), .val (.int p5), .val (.ref b113), .val (.ref b126), .val (.int z132), .val (.int (Int32.ofNat q)), .val (.ref b142), .val (.int (Int32.ofNat v)), .val (.int (own_e e3))]) rfl (pc' := 221) rfl ?_
          refine G.iload P at_221 rfl (pc' := 223) rfl ?_
          refine G.iconst P at_223 (v := (3 : Int32)) rfl (pc' := 224) rfl ?_
          refine G.aload P at_224 rfl rfl (pc' := 226) rfl ?_
          refine G.aload P at_226 rfl rfl (pc' := 228) rfl ?_
          refine G.callS P (wd hw (i := 37) rfl) (wd hw (i := 38) rfl) (wd hw (i := 39) rfl) (wd hw (i := 40) rfl) (by decide) (argsL := [(.int (own_e e3)), (.int (3 : Int32)), (.ref b142), (.ref b113)]) (rm7 hw b142 b113 F162 M1 e3 3 h163 A142 A113 (by omega) (by omega) hM1 P.sz) (by decide) (by decide) (cells' := 5) rfl (slots' := 20) rfl (by decide) (by decide) (lenOf pd_7 rfl) rfl (rest := []) rfl (W := 0) (Nat.le_of_eq rfl) at_228 (pc' := 231) rfl ?_
          rintro T _ _ P ⟨rfl, rfl⟩
          show Goes p e below s n0 room_1.cells room_1.slots (Q0 Z p0 p1 p2 p3 p4 p5 h0) (T.setTop (mkF m 231 #[.val (.int p0), .val (.int p1), .val (.int p2), .val (.int p3), .val (.int p4), .val (.int p5), .val (.ref b113), .val (.ref b126), .val (.int z132), .val (.int (Int32.ofNat q)), .val (.ref b142), .val (.int (Int32.ofNat v)), .val (.int (own_e e3))] [(.int (own_e (own_pk (own_bf F162) M1 e3 3)))]))
          generalize he4 : own_pk (own_bf F162) M1 e3 3 = e4
          have he4' : e4 ≤ 4 := by rw [← he4]; exact own_pk_le (by omega)
          refine G.istore P at_231 rfl (L' := #[.val (.int p0), .val (.int p1), .val (.int p2), .val (.int p3), .val (.int p4), .val (.int p5), .val (.ref b113), .val (.ref b126), .val (.int z132), .val (.int (Int32.ofNat q)), .val (.ref b142), .val (.int (Int32.ofNat v)), .val (.int (own_e e4))]) rfl (pc' := 233) rfl ?_
          refine G.iload P at_233 rfl (pc' := 235) rfl ?_
          refine G.if_eq P at_235 (by decide) (pcY := 252) (by decide) (pcN := 238) rfl (fun c235 => ?_) (fun c235 => ?_)
          · refine G.iconst P at_252 (v := (0 : Int32)) rfl (pc' := 253) rfl ?_
            have hc := own_pC ((own_bfM (lst [p0, p1, p2, p3]) F162 q v hq hv (by rw [← hF162]; exact own_updL _ _ _)).1)
            simp only [own_pks, own_s4, own_M] at hc
            rw [eM1, eH1, eP1, eH2, eP2, eH3, eP3, eH4, eP4, eH5, he1, he2, he3, he4] at hc
            have u1 : r131 = (-1 : Int32) := by rw [← hr131]; unfold own_first; rw [if_pos rfl]
            exact G.ireturnN P (t := .boolean) rfl (by simp) rfl at_253 (by decide) (by decide) ⟨congrArg (fun z => some (Value.int z)) (absurd c235 (by rw [hz132, if_pos u1]; decide)), trivial⟩
          · refine G.aload P at_238 rfl rfl (pc' := 240) rfl ?_
            refine G.callV P (wd hw (i := 16) rfl) (wd hw (i := 17) rfl) (wd hw (i := 19) rfl) (wd hw (i := 18) rfl) (wd hw (i := 3) rfl) (wd hw (i := 20) rfl) (by decide) O126.1 (argsL := []) (a := b126) (rm3 hw b126 b113 b129 b130 H5 ((((0 + 1) + 1) + 1) + 1) h163 O126 Ob129 ne_b126_b129 (by omega) P.sz) (by decide) (by decide) (cells' := 5) rfl (slots' := 20) rfl (by decide) (by decide) (lenOf pd_3 rfl) rfl (rest := []) rfl (W := 0) (Nat.le_of_eq rfl) at_240 (pc' := 243) rfl ?_
            rintro T _ _ P ⟨rfl, rfl⟩
            show Goes p e below s n0 room_1.cells room_1.slots (Q0 Z p0 p1 p2 p3 p4 p5 h0) (T.setTop (mkF m 243 #[.val (.int p0), .val (.int p1), .val (.int p2), .val (.int p3), .val (.int p4), .val (.int p5), .val (.ref b113), .val (.ref b126), .val (.int z132), .val (.int (Int32.ofNat q)), .val (.ref b142), .val (.int (Int32.ofNat v)), .val (.int (own_e e4))] [(.int (own_first ((((0 + 1) + 1) + 1) + 1) H5))]))
            generalize hr165 : (own_first ((((0 + 1) + 1) + 1) + 1) H5) = r165
            refine G.iload P at_243 rfl (pc' := 245) rfl ?_
            have J253_245 : ∀ (z166 : Int32), z166 = (if r165 = (own_e e4) then (1 : Int32) else (0 : Int32)) → Goes p e below s n0 room_1.cells room_1.slots (Q0 Z p0 p1 p2 p3 p4 p5 h0) (T.setTop (mkF m 253 #[.val (.int p0), .val (.int p1), .val (.int p2), .val (.int p3), .val (.int p4), .val (.int p5), .val (.ref b113), .val (.ref b126), .val (.int z132), .val (.int (Int32.ofNat q)), .val (.ref b142), .val (.int (Int32.ofNat v)), .val (.int (own_e e4))] [(.int z166)])) := by
              intro z166 hz166
              have hc := own_pC ((own_bfM (lst [p0, p1, p2, p3]) F162 q v hq hv (by rw [← hF162]; exact own_updL _ _ _)).1)
              simp only [own_pks, own_s4, own_M] at hc
              rw [eM1, eH1, eP1, eH2, eP2, eH3, eP3, eH4, eP4, eH5, he1, he2, he3, he4] at hc
              have u1 : r131 = (-1 : Int32) := by rw [← hr131]; unfold own_first; rw [if_pos rfl]
              have u2 : r165 = own_e e4 := by rw [← hr165]; exact own_eqe (by omega) (by omega) hc
              exact G.ireturnN P (t := .boolean) rfl (by simp) rfl at_253 (by decide) (by decide) ⟨congrArg (fun z => some (Value.int z)) (by rw [hz166, if_pos u2]; rfl), trivial⟩
            refine G.icmp_ne P at_245 (by decide) (pcY := 252) (by decide) (pcN := 248) rfl (fun c245 => ?_) (fun c245 => ?_)
            · refine G.iconst P at_252 (v := (0 : Int32)) rfl (pc' := 253) rfl ?_
              exact J253_245 _ (by simp only [if_neg c245])
            · refine G.iconst P at_248 (v := (1 : Int32)) rfl (pc' := 249) rfl ?_
              refine G.goto P at_249 (by decide) (pc' := 253) (by decide) ?_
              exact J253_245 _ (by simp only [if_pos c245])
    · refine G.iload P at_124 rfl (pc' := 126) rfl ?_
      refine G.iconst P at_126 (v := (3 : Int32)) rfl (pc' := 127) rfl ?_
      refine G.iand P at_127 (pc' := 128) rfl ?_
      obtain ⟨x167, hx167⟩ : ∃ z : Int32, (p5 &&& (3 : Int32)) = z := ⟨_, rfl⟩
      refine G.istore P at_128 hx167 (L' := #[.val (.int p0), .val (.int p1), .val (.int p2), .val (.int p3), .val (.int p4), .val (.int p5), .val (.ref b113), .val (.ref b126), .val (.int z132), .val (.int (Int32.ofNat q)), .val (.ref b142), .val (.int x167), .unset]) rfl (pc' := 130) rfl ?_
      obtain ⟨g, hg, eg⟩ := own_g4 _ _ hx167
      subst eg
      refine G.aload P at_130 rfl rfl (pc' := 132) rfl ?_
      refine G.iload P at_132 rfl (pc' := 134) rfl ?_
      refine G.callV P (wd hw (i := 41) rfl) (wd hw (i := 42) rfl) (wd hw (i := 44) rfl) (wd hw (i := 43) rfl) (wd hw (i := 3) rfl) (wd hw (i := 45) rfl) (by decide) O126.1 (argsL := [(.int (Int32.ofNat g))]) (a := b126) (rm8 hw b126 b113 b129 b130 (lst [p0, p1, p2, p3]) H4 P4 ((((0 + 1) + 1) + 1) + 1) g h153 O126 A113 Ob129 Ob130 (Ne.symm ne_b113_b126) ne_b126_b129 ne_b126_b130 ne_b113_b129 ne_b113_b130 ne_b129_b130 g_b126 g_b129 g_b130 (by omega) V4.1 V4.2 (by omega) (by omega) P.sz) (by decide) (by decide) (cells' := 5) rfl (slots' := 20) rfl (by decide) (by decide) (lenOf pd_8 rfl) rfl (rest := []) rfl (W := 0) (Nat.le_of_eq rfl) at_134 (pc' := 137) rfl ?_
      clear O126
      clear A113
      clear Ob129
      clear Ob130
      rintro T h168 _ P ⟨rfl, K169, O126, A113, Ob129, Ob130⟩
      replace A142 := A142.keep K169 (ninS (Ne.symm ne_b126_b142) (ninS (Ne.symm ne_b129_b142) (ninS (Ne.symm ne_b130_b142) nin0)))
      show Goes p e below s n0 room_1.cells room_1.slots (Q0 Z p0 p1 p2 p3 p4 p5 h0) (T.setTop (mkF m 137 #[.val (.int p0), .val (.int p1), .val (.int p2), .val (.int p3), .val (.int p4), .val (.int p5), .val (.ref b113), .val (.ref b126), .val (.int z132), .val (.int (Int32.ofNat q)), .val (.ref b142), .val (.int (Int32.ofNat g)), .unset] []))
      have V5 := own_rm_lt (b := own_bf (lst [p0, p1, p2, p3])) (n := ((((0 + 1) + 1) + 1) + 1)) (g := g) (N := 4) (by omega) (by omega) (by omega) V4.1 V4.2
      obtain ⟨H5, eH5⟩ : ∃ qq : Nat → Nat, (own_rm (own_bf (lst [p0, p1, p2, p3])) ((((0 + 1) + 1) + 1) + 1) g H4 P4).1 = qq := ⟨_, rfl⟩
      rw [eH5] at Ob129
      obtain ⟨P5, eP5⟩ : ∃ qq : Nat → Nat, (own_rm (own_bf (lst [p0, p1, p2, p3])) ((((0 + 1) + 1) + 1) + 1) g H4 P4).2 = qq := ⟨_, rfl⟩
      rw [eP5] at Ob130
      rw [eH5, eP5] at V5
      refine G.aload P at_137 rfl rfl (pc' := 139) rfl ?_
      refine G.iload P at_139 rfl (pc' := 141) rfl ?_
      refine G.iconst P at_141 (v := (0 : Int32)) rfl (pc' := 142) rfl ?_
      refine G.zastore P A142 (i := g) (own_toInt (by omega)) (by omega) g_b142 at_142 (pc' := 143) rfl ?_
      intro T h171 P W170
      replace A113 := A113.other W170 ne_b113_b142
      replace O126 := O126.other W170 ne_b126_b142
      replace Ob129 := Ob129.other W170 ne_b129_b142
      replace Ob130 := Ob130.other W170 ne_b130_b142
      replace A142 := A142.same W170
      rw [own_updz0] at A142
      obtain ⟨M2, eM2⟩ : ∃ qq : Nat → Nat, (own_u M1 g 0) = qq := ⟨_, rfl⟩
      rw [eM2] at A142
      have hM2 : ∀ j, j < 4 → M2 j < 4 := by rw [← eM2]; exact own_u_lt hM1 (by omega)
      refine G.iload P at_143 rfl (pc' := 145) rfl ?_
      refine G.bipush P at_145 (v := (7 : Int32)) rfl (pc' := 147) rfl ?_
      refine G.iushr P at_147 (pc' := 148) rfl ?_
      refine G.iconst P at_148 (v := (3 : Int32)) rfl (pc' := 149) rfl ?_
      refine G.iand P at_149 (pc' := 150) rfl ?_
      obtain ⟨x173, hx173⟩ : ∃ z : Int32, (((p5.toUInt32 >>> ((7 : Int32) &&& 31).toUInt32).toInt32) &&& (3 : Int32)) = z := ⟨_, rfl⟩
      refine G.istore P at_150 hx173 (L' := #[.val (.int p0), .val (.int p1), .val (.int p2), .val (.int p3), .val (.int p4), .val (.int p5), .val (.ref b113), .val (.ref b126), .val (.int z132), .val (.int (Int32.ofNat q)), .val (.ref b142), .val (.int x173), .unset]) rfl (pc' := 152) rfl ?_
      obtain ⟨v, hv, ev⟩ := own_g4 _ _ hx173
      subst ev
      refine G.iload P at_152 rfl (pc' := 154) rfl ?_
      refine G.bipush P at_154 (v := (8 : Int32)) rfl (pc' := 156) rfl ?_
      refine G.iand P at_156 (pc' := 157) rfl ?_
      refine G.if_eq P at_157 (by decide) (pcY := 182) (by decide) (pcN := 160) rfl (fun c157 => ?_) (fun c157 => ?_)
      · refine G.iconst P at_182 (v := (-1 : Int32)) rfl (pc' := 183) rfl ?_
        refine G.istore P at_183 rfl (L' := #[.val (.int p0), .val (.int p1), .val (.int p2), .val (.int p3), .val (.int p4), .val (.int p5), .val (.ref b113), .val (.ref b126), .val (.int z132), .val (.int (Int32.ofNat q)), .val (.ref b142), .val (.int (Int32.ofNat v)), .val (.int (-1 : Int32))]) rfl (pc' := 185) rfl ?_
        refine G.iload P at_185 rfl (pc' := 187) rfl ?_
        refine G.iconst P at_187 (v := (0 : Int32)) rfl (pc' := 188) rfl ?_
        refine G.aload P at_188 rfl rfl (pc' := 190) rfl ?_
        refine G.aload P at_190 rfl rfl (pc' := 192) rfl ?_
        refine G.callS P (wd hw (i := 37) rfl) (wd hw (i := 38) rfl) (wd hw (i := 39) rfl) (wd hw (i := 40) rfl) (by decide) (argsL := [(.int (-1 : Int32)), (.int (0 : Int32)), (.ref b142), (.ref b113)]) (rm7 hw b142 b113 (lst [p0, p1, p2, p3]) M2 0 0 h171 A142 A113 (by omega) (by omega) hM2 P.sz) (by decide) (by decide) (cells' := 5) rfl (slots' := 20) rfl (by decide) (by decide) (lenOf pd_7 rfl) rfl (rest := []) rfl (W := 0) (Nat.le_of_eq rfl) at_192 (pc' := 195) rfl ?_
        rintro T _ _ P ⟨rfl, rfl⟩
        show Goes p e below s n0 room_1.cells room_1.slots (Q0 Z p0 p1 p2 p3 p4 p5 h0) (T.setTop (mkF m 195 #[.val (.int p0), .val (.int p1), .val (.int p2), .val (.int p3), .val (.int p4), .val (.int p5), .val (.ref b113), .val (.ref b126), .val (.int z132), .val (.int (Int32.ofNat q)), .val (.ref b142), .val (.int (Int32.ofNat v)), .val (.int (-1 : Int32))] [(.int (own_e (own_pk (own_bf (lst [p0, p1, p2, p3])) M2 0 0)))]))
        generalize he1 : own_pk (own_bf (lst [p0, p1, p2, p3])) M2 0 0 = e1
        have he1' : e1 ≤ 1 := by rw [← he1]; exact own_pk_le (by omega)
        refine G.istore P at_195 rfl (L' := #[.val (.int p0), .val (.int p1), .val (.int p2), .val (.int p3), .val (.int p4), .val (.int p5), .val (.ref b113), .val (.ref b126), .val (.int z132), .val (.int (Int32.ofNat q)), .val (.ref b142), .val (.int (Int32.ofNat v)), .val (.int (own_e e1))]) rfl (pc' := 197) rfl ?_
        refine G.iload P at_197 rfl (pc' := 199) rfl ?_
        refine G.iconst P at_199 (v := (1 : Int32)) rfl (pc' := 200) rfl ?_
        refine G.aload P at_200 rfl rfl (pc' := 202) rfl ?_
        refine G.aload P at_202 rfl rfl (pc' := 204) rfl ?_
        refine G.callS P (wd hw (i := 37) rfl) (wd hw (i := 38) rfl) (wd hw (i := 39) rfl) (wd hw (i := 40) rfl) (by decide) (argsL := [(.int (own_e e1)), (.int (1 : Int32)), (.ref b142), (.ref b113)]) (rm7 hw b142 b113 (lst [p0, p1, p2, p3]) M2 e1 1 h171 A142 A113 (by omega) (by omega) hM2 P.sz) (by decide) (by decide) (cells' := 5) rfl (slots' := 20) rfl (by decide) (by decide) (lenOf pd_7 rfl) rfl (rest := []) rfl (W := 0) (Nat.le_of_eq rfl) at_204 (pc' := 207) rfl ?_
        rintro T _ _ P ⟨rfl, rfl⟩
        show Goes p e below s n0 room_1.cells room_1.slots (Q0 Z p0 p1 p2 p3 p4 p5 h0) (T.setTop (mkF m 207 #[.val (.int p0), .val (.int p1), .val (.int p2), .val (.int p3), .val (.int p4), .val (.int p5), .val (.ref b113), .val (.ref b126), .val (.int z132), .val (.int (Int32.ofNat q)), .val (.ref b142), .val (.int (Int32.ofNat v)), .val (.int (own_e e1))] [(.int (own_e (own_pk (own_bf (lst [p0, p1, p2, p3])) M2 e1 1)))]))
        generalize he2 : own_pk (own_bf (lst [p0, p1, p2, p3])) M2 e1 1 = e2
        have he2' : e2 ≤ 2 := by rw [← he2]; exact own_pk_le (by omega)
        refine G.istore P at_207 rfl (L' := #[.val (.int p0), .val (.int p1), .val (.int p2), .val (.int p3), .val (.int p4), .val (.int p5), .val (.ref b113), .val (.ref b126), .val (.int z132), .val (.int (Int32.ofNat q)), .val (.ref b142), .val (.int (Int32.ofNat v)), .val (.int (own_e e2))]) rfl (pc' := 209) rfl ?_
        refine G.iload P at_209 rfl (pc' := 211) rfl ?_
        refine G.iconst P at_211 (v := (2 : Int32)) rfl (pc' := 212) rfl ?_
        refine G.aload P at_212 rfl rfl (pc' := 214) rfl ?_
        refine G.aload P at_214 rfl rfl (pc' := 216) rfl ?_
        refine G.callS P (wd hw (i := 37) rfl) (wd hw (i := 38) rfl) (wd hw (i := 39) rfl) (wd hw (i := 40) rfl) (by decide) (argsL := [(.int (own_e e2)), (.int (2 : Int32)), (.ref b142), (.ref b113)]) (rm7 hw b142 b113 (lst [p0, p1, p2, p3]) M2 e2 2 h171 A142 A113 (by omega) (by omega) hM2 P.sz) (by decide) (by decide) (cells' := 5) rfl (slots' := 20) rfl (by decide) (by decide) (lenOf pd_7 rfl) rfl (rest := []) rfl (W := 0) (Nat.le_of_eq rfl) at_216 (pc' := 219) rfl ?_
        rintro T _ _ P ⟨rfl, rfl⟩
        show Goes p e below s n0 room_1.cells room_1.slots (Q0 Z p0 p1 p2 p3 p4 p5 h0) (T.setTop (mkF m 219 #[.val (.int p0), .val (.int p1), .val (.int p2), .val (.int p3), .val (.int p4), .val (.int p5), .val (.ref b113), .val (.ref b126), .val (.int z132), .val (.int (Int32.ofNat q)), .val (.ref b142), .val (.int (Int32.ofNat v)), .val (.int (own_e e2))] [(.int (own_e (own_pk (own_bf (lst [p0, p1, p2, p3])) M2 e2 2)))]))
        generalize he3 : own_pk (own_bf (lst [p0, p1, p2, p3])) M2 e2 2 = e3
        have he3' : e3 ≤ 3 := by rw [← he3]; exact own_pk_le (by omega)
        refine G.istore P at_219 rfl (L' := #[.val (.int p0), .val (.int p1), .val (.int p2), .val (.int p3), .val (.int p4), .val (.int p5), .val (.ref b113), .val (.ref b126), .val (.int z132), .val (.int (Int32.ofNat q)), .val (.ref b142), .val (.int (Int32.ofNat v)), .val (.int (own_e e3))]) rfl (pc' := 221) rfl ?_
        refine G.iload P at_221 rfl (pc' := 223) rfl ?_
        refine G.iconst P at_223 (v := (3 : Int32)) rfl (pc' := 224) rfl ?_
        refine G.aload P at_224 rfl rfl (pc' := 226) rfl ?_
        refine G.aload P at_226 rfl rfl (pc' := 228) rfl ?_
        refine G.callS P (wd hw (i := 37) rfl) (wd hw (i := 38) rfl) (wd hw (i := 39) rfl) (wd hw (i := 40) rfl) (by decide) (argsL := [(.int (own_e e3)), (.int (3 : Int32)), (.ref b142), (.ref b113)]) (rm7 hw b142 b113 (lst [p0, p1, p2, p3]) M2 e3 3 h171 A142 A113 (by omega) (by omega) hM2 P.sz) (by decide) (by decide) (cells' := 5) rfl (slots' := 20) rfl (by decide) (by decide) (lenOf pd_7 rfl) rfl (rest := []) rfl (W := 0) (Nat.le_of_eq rfl) at_228 (pc' := 231) rfl ?_
        rintro T _ _ P ⟨rfl, rfl⟩
        show Goes p e below s n0 room_1.cells room_1.slots (Q0 Z p0 p1 p2 p3 p4 p5 h0) (T.setTop (mkF m 231 #[.val (.int p0), .val (.int p1), .val (.int p2), .val (.int p3), .val (.int p4), .val (.int p5), .val (.ref b113), .val (.ref b126), .val (.int z132), .val (.int (Int32.ofNat q)), .val (.ref b142), .val (.int (Int32.ofNat v)), .val (.int (own_e e3))] [(.int (own_e (own_pk (own_bf (lst [p0, p1, p2, p3])) M2 e3 3)))]))
        generalize he4 : own_pk (own_bf (lst [p0, p1, p2, p3])) M2 e3 3 = e4
        have he4' : e4 ≤ 4 := by rw [← he4]; exact own_pk_le (by omega)
        refine G.istore P at_231 rfl (L' := #[.val (.int p0), .val (.int p1), .val (.int p2), .val (.int p3), .val (.int p4), .val (.int p5), .val (.ref b113), .val (.ref b126), .val (.int z132), .val (.int (Int32.ofNat q)), .val (.ref b142), .val (.int (Int32.ofNat v)), .val (.int (own_e e4))]) rfl (pc' := 233) rfl ?_
        refine G.iload P at_233 rfl (pc' := 235) rfl ?_
        refine G.if_eq P at_235 (by decide) (pcY := 252) (by decide) (pcN := 238) rfl (fun c235 => ?_) (fun c235 => ?_)
        · refine G.iconst P at_252 (v := (0 : Int32)) rfl (pc' := 253) rfl ?_
          have hc := own_pB ((own_bfN (lst [p0, p1, p2, p3]) q hq).2 g hg)
          simp only [own_pks, own_s4, own_M] at hc
          rw [eM1, eM2, eH1, eP1, eH2, eP2, eH3, eP3, eH4, eP4, eH5, he1, he2, he3, he4] at hc
          have u1 : r131 = (-1 : Int32) := by rw [← hr131]; unfold own_first; rw [if_pos rfl]
          exact G.ireturnN P (t := .boolean) rfl (by simp) rfl at_253 (by decide) (by decide) ⟨congrArg (fun z => some (Value.int z)) (absurd c235 (by rw [hz132, if_pos u1]; decide)), trivial⟩
        · refine G.aload P at_238 rfl rfl (pc' := 240) rfl ?_
          refine G.callV P (wd hw (i := 16) rfl) (wd hw (i := 17) rfl) (wd hw (i := 19) rfl) (wd hw (i := 18) rfl) (wd hw (i := 3) rfl) (wd hw (i := 20) rfl) (by decide) O126.1 (argsL := []) (a := b126) (rm3 hw b126 b113 b129 b130 H5 (((((0 + 1) + 1) + 1) + 1) - 1) h171 O126 Ob129 ne_b126_b129 (by omega) P.sz) (by decide) (by decide) (cells' := 5) rfl (slots' := 20) rfl (by decide) (by decide) (lenOf pd_3 rfl) rfl (rest := []) rfl (W := 0) (Nat.le_of_eq rfl) at_240 (pc' := 243) rfl ?_
          rintro T _ _ P ⟨rfl, rfl⟩
          show Goes p e below s n0 room_1.cells room_1.slots (Q0 Z p0 p1 p2 p3 p4 p5 h0) (T.setTop (mkF m 243 #[.val (.int p0), .val (.int p1), .val (.int p2), .val (.int p3), .val (.int p4), .val (.int p5), .val (.ref b113), .val (.ref b126), .val (.int z132), .val (.int (Int32.ofNat q)), .val (.ref b142), .val (.int (Int32.ofNat v)), .val (.int (own_e e4))] [(.int (own_first (((((0 + 1) + 1) + 1) + 1) - 1) H5))]))
          generalize hr174 : (own_first (((((0 + 1) + 1) + 1) + 1) - 1) H5) = r174
          refine G.iload P at_243 rfl (pc' := 245) rfl ?_
          have J253_245 : ∀ (z175 : Int32), z175 = (if r174 = (own_e e4) then (1 : Int32) else (0 : Int32)) → Goes p e below s n0 room_1.cells room_1.slots (Q0 Z p0 p1 p2 p3 p4 p5 h0) (T.setTop (mkF m 253 #[.val (.int p0), .val (.int p1), .val (.int p2), .val (.int p3), .val (.int p4), .val (.int p5), .val (.ref b113), .val (.ref b126), .val (.int z132), .val (.int (Int32.ofNat q)), .val (.ref b142), .val (.int (Int32.ofNat v)), .val (.int (own_e e4))] [(.int z175)])) := by
            intro z175 hz175
            have hc := own_pB ((own_bfN (lst [p0, p1, p2, p3]) q hq).2 g hg)
            simp only [own_pks, own_s4, own_M] at hc
            rw [eM1, eM2, eH1, eP1, eH2, eP2, eH3, eP3, eH4, eP4, eH5, he1, he2, he3, he4] at hc
            have u1 : r131 = (-1 : Int32) := by rw [← hr131]; unfold own_first; rw [if_pos rfl]
            have u2 : r174 = own_e e4 := by rw [← hr174]; exact own_eqe (by omega) (by omega) hc
            exact G.ireturnN P (t := .boolean) rfl (by simp) rfl at_253 (by decide) (by decide) ⟨congrArg (fun z => some (Value.int z)) (by rw [hz175, if_pos u2]; rfl), trivial⟩
          refine G.icmp_ne P at_245 (by decide) (pcY := 252) (by decide) (pcN := 248) rfl (fun c245 => ?_) (fun c245 => ?_)
          · refine G.iconst P at_252 (v := (0 : Int32)) rfl (pc' := 253) rfl ?_
            exact J253_245 _ (by simp only [if_neg c245])
          · refine G.iconst P at_248 (v := (1 : Int32)) rfl (pc' := 249) rfl ?_
            refine G.goto P at_249 (by decide) (pc' := 253) (by decide) ?_
            exact J253_245 _ (by simp only [if_pos c245])
      · refine G.aload P at_160 rfl rfl (pc' := 162) rfl ?_
        refine G.iload P at_162 rfl (pc' := 164) rfl ?_
        refine G.zaload P A142 (i := v) (own_toInt (by omega)) (by omega) at_164 (pc' := 165) rfl ?_
        show Goes p e below s n0 room_1.cells room_1.slots (Q0 Z p0 p1 p2 p3 p4 p5 h0) (T.setTop (mkF m 165 #[.val (.int p0), .val (.int p1), .val (.int p2), .val (.int p3), .val (.int p4), .val (.int p5), .val (.ref b113), .val (.ref b126), .val (.int z132), .val (.int (Int32.ofNat q)), .val (.ref b142), .val (.int (Int32.ofNat v)), .unset] [(.int (Int32.ofNat (M2 v)))]))
        refine G.if_eq P at_165 (by decide) (pcY := 182) (by decide) (pcN := 168) rfl (fun c165 => ?_) (fun c165 => ?_)
        · refine G.iconst P at_182 (v := (-1 : Int32)) rfl (pc' := 183) rfl ?_
          refine G.istore P at_183 rfl (L' := #[.val (.int p0), .val (.int p1), .val (.int p2), .val (.int p3), .val (.int p4), .val (.int p5), .val (.ref b113), .val (.ref b126), .val (.int z132), .val (.int (Int32.ofNat q)), .val (.ref b142), .val (.int (Int32.ofNat v)), .val (.int (-1 : Int32))]) rfl (pc' := 185) rfl ?_
          refine G.iload P at_185 rfl (pc' := 187) rfl ?_
          refine G.iconst P at_187 (v := (0 : Int32)) rfl (pc' := 188) rfl ?_
          refine G.aload P at_188 rfl rfl (pc' := 190) rfl ?_
          refine G.aload P at_190 rfl rfl (pc' := 192) rfl ?_
          refine G.callS P (wd hw (i := 37) rfl) (wd hw (i := 38) rfl) (wd hw (i := 39) rfl) (wd hw (i := 40) rfl) (by decide) (argsL := [(.int (-1 : Int32)), (.int (0 : Int32)), (.ref b142), (.ref b113)]) (rm7 hw b142 b113 (lst [p0, p1, p2, p3]) M2 0 0 h171 A142 A113 (by omega) (by omega) hM2 P.sz) (by decide) (by decide) (cells' := 5) rfl (slots' := 20) rfl (by decide) (by decide) (lenOf pd_7 rfl) rfl (rest := []) rfl (W := 0) (Nat.le_of_eq rfl) at_192 (pc' := 195) rfl ?_
          rintro T _ _ P ⟨rfl, rfl⟩
          show Goes p e below s n0 room_1.cells room_1.slots (Q0 Z p0 p1 p2 p3 p4 p5 h0) (T.setTop (mkF m 195 #[.val (.int p0), .val (.int p1), .val (.int p2), .val (.int p3), .val (.int p4), .val (.int p5), .val (.ref b113), .val (.ref b126), .val (.int z132), .val (.int (Int32.ofNat q)), .val (.ref b142), .val (.int (Int32.ofNat v)), .val (.int (-1 : Int32))] [(.int (own_e (own_pk (own_bf (lst [p0, p1, p2, p3])) M2 0 0)))]))
          generalize he1 : own_pk (own_bf (lst [p0, p1, p2, p3])) M2 0 0 = e1
          have he1' : e1 ≤ 1 := by rw [← he1]; exact own_pk_le (by omega)
          refine G.istore P at_195 rfl (L' := #[.val (.int p0), .val (.int p1), .val (.int p2), .val (.int p3), .val (.int p4), .val (.int p5), .val (.ref b113), .val (.ref b126), .val (.int z132), .val (.int (Int32.ofNat q)), .val (.ref b142), .val (.int (Int32.ofNat v)), .val (.int (own_e e1))]) rfl (pc' := 197) rfl ?_
          refine G.iload P at_197 rfl (pc' := 199) rfl ?_
          refine G.iconst P at_199 (v := (1 : Int32)) rfl (pc' := 200) rfl ?_
          refine G.aload P at_200 rfl rfl (pc' := 202) rfl ?_
          refine G.aload P at_202 rfl rfl (pc' := 204) rfl ?_
          refine G.callS P (wd hw (i := 37) rfl) (wd hw (i := 38) rfl) (wd hw (i := 39) rfl) (wd hw (i := 40) rfl) (by decide) (argsL := [(.int (own_e e1)), (.int (1 : Int32)), (.ref b142), (.ref b113)]) (rm7 hw b142 b113 (lst [p0, p1, p2, p3]) M2 e1 1 h171 A142 A113 (by omega) (by omega) hM2 P.sz) (by decide) (by decide) (cells' := 5) rfl (slots' := 20) rfl (by decide) (by decide) (lenOf pd_7 rfl) rfl (rest := []) rfl (W := 0) (Nat.le_of_eq rfl) at_204 (pc' := 207) rfl ?_
          rintro T _ _ P ⟨rfl, rfl⟩
          show Goes p e below s n0 room_1.cells room_1.slots (Q0 Z p0 p1 p2 p3 p4 p5 h0) (T.setTop (mkF m 207 #[.val (.int p0), .val (.int p1), .val (.int p2), .val (.int p3), .val (.int p4), .val (.int p5), .val (.ref b113), .val (.ref b126), .val (.int z132), .val (.int (Int32.ofNat q)), .val (.ref b142), .val (.int (Int32.ofNat v)), .val (.int (own_e e1))] [(.int (own_e (own_pk (own_bf (lst [p0, p1, p2, p3])) M2 e1 1)))]))
          generalize he2 : own_pk (own_bf (lst [p0, p1, p2, p3])) M2 e1 1 = e2
          have he2' : e2 ≤ 2 := by rw [← he2]; exact own_pk_le (by omega)
          refine G.istore P at_207 rfl (L' := #[.val (.int p0), .val (.int p1), .val (.int p2), .val (.int p3), .val (.int p4), .val (.int p5), .val (.ref b113), .val (.ref b126), .val (.int z132), .val (.int (Int32.ofNat q)), .val (.ref b142), .val (.int (Int32.ofNat v)), .val (.int (own_e e2))]) rfl (pc' := 209) rfl ?_
          refine G.iload P at_209 rfl (pc' := 211) rfl ?_
          refine G.iconst P at_211 (v := (2 : Int32)) rfl (pc' := 212) rfl ?_
          refine G.aload P at_212 rfl rfl (pc' := 214) rfl ?_
          refine G.aload P at_214 rfl rfl (pc' := 216) rfl ?_
          refine G.callS P (wd hw (i := 37) rfl) (wd hw (i := 38) rfl) (wd hw (i := 39) rfl) (wd hw (i := 40) rfl) (by decide) (argsL := [(.int (own_e e2)), (.int (2 : Int32)), (.ref b142), (.ref b113)]) (rm7 hw b142 b113 (lst [p0, p1, p2, p3]) M2 e2 2 h171 A142 A113 (by omega) (by omega) hM2 P.sz) (by decide) (by decide) (cells' := 5) rfl (slots' := 20) rfl (by decide) (by decide) (lenOf pd_7 rfl) rfl (rest := []) rfl (W := 0) (Nat.le_of_eq rfl) at_216 (pc' := 219) rfl ?_
          rintro T _ _ P ⟨rfl, rfl⟩
          show Goes p e below s n0 room_1.cells room_1.slots (Q0 Z p0 p1 p2 p3 p4 p5 h0) (T.setTop (mkF m 219 #[.val (.int p0), .val (.int p1), .val (.int p2), .val (.int p3), .val (.int p4), .val (.int p5), .val (.ref b113), .val (.ref b126), .val (.int z132), .val (.int (Int32.ofNat q)), .val (.ref b142), .val (.int (Int32.ofNat v)), .val (.int (own_e e2))] [(.int (own_e (own_pk (own_bf (lst [p0, p1, p2, p3])) M2 e2 2)))]))
          generalize he3 : own_pk (own_bf (lst [p0, p1, p2, p3])) M2 e2 2 = e3
          have he3' : e3 ≤ 3 := by rw [← he3]; exact own_pk_le (by omega)
          refine G.istore P at_219 rfl (L' := #[.val (.int p0), .val (.int p1), .val (.int p2), .val (.int p3), .val (.int p4), .val (.int p5), .val (.ref b113), .val (.ref b126), .val (.int z132), .val (.int (Int32.ofNat q)), .val (.ref b142), .val (.int (Int32.ofNat v)), .val (.int (own_e e3))]) rfl (pc' := 221) rfl ?_
          refine G.iload P at_221 rfl (pc' := 223) rfl ?_
          refine G.iconst P at_223 (v := (3 : Int32)) rfl (pc' := 224) rfl ?_
          refine G.aload P at_224 rfl rfl (pc' := 226) rfl ?_
          refine G.aload P at_226 rfl rfl (pc' := 228) rfl ?_
          refine G.callS P (wd hw (i := 37) rfl) (wd hw (i := 38) rfl) (wd hw (i := 39) rfl) (wd hw (i := 40) rfl) (by decide) (argsL := [(.int (own_e e3)), (.int (3 : Int32)), (.ref b142), (.ref b113)]) (rm7 hw b142 b113 (lst [p0, p1, p2, p3]) M2 e3 3 h171 A142 A113 (by omega) (by omega) hM2 P.sz) (by decide) (by decide) (cells' := 5) rfl (slots' := 20) rfl (by decide) (by decide) (lenOf pd_7 rfl) rfl (rest := []) rfl (W := 0) (Nat.le_of_eq rfl) at_228 (pc' := 231) rfl ?_
          rintro T _ _ P ⟨rfl, rfl⟩
          show Goes p e below s n0 room_1.cells room_1.slots (Q0 Z p0 p1 p2 p3 p4 p5 h0) (T.setTop (mkF m 231 #[.val (.int p0), .val (.int p1), .val (.int p2), .val (.int p3), .val (.int p4), .val (.int p5), .val (.ref b113), .val (.ref b126), .val (.int z132), .val (.int (Int32.ofNat q)), .val (.ref b142), .val (.int (Int32.ofNat v)), .val (.int (own_e e3))] [(.int (own_e (own_pk (own_bf (lst [p0, p1, p2, p3])) M2 e3 3)))]))
          generalize he4 : own_pk (own_bf (lst [p0, p1, p2, p3])) M2 e3 3 = e4
          have he4' : e4 ≤ 4 := by rw [← he4]; exact own_pk_le (by omega)
          refine G.istore P at_231 rfl (L' := #[.val (.int p0), .val (.int p1), .val (.int p2), .val (.int p3), .val (.int p4), .val (.int p5), .val (.ref b113), .val (.ref b126), .val (.int z132), .val (.int (Int32.ofNat q)), .val (.ref b142), .val (.int (Int32.ofNat v)), .val (.int (own_e e4))]) rfl (pc' := 233) rfl ?_
          refine G.iload P at_233 rfl (pc' := 235) rfl ?_
          refine G.if_eq P at_235 (by decide) (pcY := 252) (by decide) (pcN := 238) rfl (fun c235 => ?_) (fun c235 => ?_)
          · refine G.iconst P at_252 (v := (0 : Int32)) rfl (pc' := 253) rfl ?_
            have hc := own_pB ((own_bfN (lst [p0, p1, p2, p3]) q hq).2 g hg)
            simp only [own_pks, own_s4, own_M] at hc
            rw [eM1, eM2, eH1, eP1, eH2, eP2, eH3, eP3, eH4, eP4, eH5, he1, he2, he3, he4] at hc
            have u1 : r131 = (-1 : Int32) := by rw [← hr131]; unfold own_first; rw [if_pos rfl]
            exact G.ireturnN P (t := .boolean) rfl (by simp) rfl at_253 (by decide) (by decide) ⟨congrArg (fun z => some (Value.int z)) (absurd c235 (by rw [hz132, if_pos u1]; decide)), trivial⟩
          · refine G.aload P at_238 rfl rfl (pc' := 240) rfl ?_
            refine G.callV P (wd hw (i := 16) rfl) (wd hw (i := 17) rfl) (wd hw (i := 19) rfl) (wd hw (i := 18) rfl) (wd hw (i := 3) rfl) (wd hw (i := 20) rfl) (by decide) O126.1 (argsL := []) (a := b126) (rm3 hw b126 b113 b129 b130 H5 (((((0 + 1) + 1) + 1) + 1) - 1) h171 O126 Ob129 ne_b126_b129 (by omega) P.sz) (by decide) (by decide) (cells' := 5) rfl (slots' := 20) rfl (by decide) (by decide) (lenOf pd_3 rfl) rfl (rest := []) rfl (W := 0) (Nat.le_of_eq rfl) at_240 (pc' := 243) rfl ?_
            rintro T _ _ P ⟨rfl, rfl⟩
            show Goes p e below s n0 room_1.cells room_1.slots (Q0 Z p0 p1 p2 p3 p4 p5 h0) (T.setTop (mkF m 243 #[.val (.int p0), .val (.int p1), .val (.int p2), .val (.int p3), .val (.int p4), .val (.int p5), .val (.ref b113), .val (.ref b126), .val (.int z132), .val (.int (Int32.ofNat q)), .val (.ref b142), .val (.int (Int32.ofNat v)), .val (.int (own_e e4))] [(.int (own_first (((((0 + 1) + 1) + 1) + 1) - 1) H5))]))
            generalize hr176 : (own_first (((((0 + 1) + 1) + 1) + 1) - 1) H5) = r176
            refine G.iload P at_243 rfl (pc' := 245) rfl ?_
            have J253_245 : ∀ (z177 : Int32), z177 = (if r176 = (own_e e4) then (1 : Int32) else (0 : Int32)) → Goes p e below s n0 room_1.cells room_1.slots (Q0 Z p0 p1 p2 p3 p4 p5 h0) (T.setTop (mkF m 253 #[.val (.int p0), .val (.int p1), .val (.int p2), .val (.int p3), .val (.int p4), .val (.int p5), .val (.ref b113), .val (.ref b126), .val (.int z132), .val (.int (Int32.ofNat q)), .val (.ref b142), .val (.int (Int32.ofNat v)), .val (.int (own_e e4))] [(.int z177)])) := by
              intro z177 hz177
              have hc := own_pB ((own_bfN (lst [p0, p1, p2, p3]) q hq).2 g hg)
              simp only [own_pks, own_s4, own_M] at hc
              rw [eM1, eM2, eH1, eP1, eH2, eP2, eH3, eP3, eH4, eP4, eH5, he1, he2, he3, he4] at hc
              have u1 : r131 = (-1 : Int32) := by rw [← hr131]; unfold own_first; rw [if_pos rfl]
              have u2 : r176 = own_e e4 := by rw [← hr176]; exact own_eqe (by omega) (by omega) hc
              exact G.ireturnN P (t := .boolean) rfl (by simp) rfl at_253 (by decide) (by decide) ⟨congrArg (fun z => some (Value.int z)) (by rw [hz177, if_pos u2]; rfl), trivial⟩
            refine G.icmp_ne P at_245 (by decide) (pcY := 252) (by decide) (pcN := 248) rfl (fun c245 => ?_) (fun c245 => ?_)
            · refine G.iconst P at_252 (v := (0 : Int32)) rfl (pc' := 253) rfl ?_
              exact J253_245 _ (by simp only [if_neg c245])
            · refine G.iconst P at_248 (v := (1 : Int32)) rfl (pc' := 249) rfl ?_
              refine G.goto P at_249 (by decide) (pc' := 253) (by decide) ?_
              exact J253_245 _ (by simp only [if_pos c245])
        · refine G.aload P at_168 rfl rfl (pc' := 170) rfl ?_
          refine G.iload P at_170 rfl (pc' := 172) rfl ?_
          refine G.iload P at_172 rfl (pc' := 174) rfl ?_
          refine G.iastore P A113 (i := v) (own_toInt (by omega)) (by omega) g_b113 at_174 (pc' := 175) rfl ?_
          intro T h179 P W178
          replace A113 := A113.same W178
          replace O126 := O126.other W178 (Ne.symm ne_b113_b126)
          replace Ob129 := Ob129.other W178 (Ne.symm ne_b113_b129)
          replace Ob130 := Ob130.other W178 (Ne.symm ne_b113_b130)
          replace A142 := A142.other W178 (Ne.symm ne_b113_b142)
          obtain ⟨F180, hF180⟩ : ∃ q : Nat → Int32, (oupd (lst [p0, p1, p2, p3]) v p4) = q := ⟨_, rfl⟩
          rw [hF180] at A113
          refine G.aload P at_175 rfl rfl (pc' := 177) rfl ?_
          refine G.iload P at_177 rfl (pc' := 179) rfl ?_
          refine G.callV P (wd hw (i := 55) rfl) (wd hw (i := 47) rfl) (wd hw (i := 49) rfl) (wd hw (i := 48) rfl) (wd hw (i := 3) rfl) (wd hw (i := 50) rfl) (by decide) O126.1 (argsL := [(.int (Int32.ofNat v))]) (a := b126) (rm9 hw b126 b113 b129 b130 F180 H5 P5 (((((0 + 1) + 1) + 1) + 1) - 1) v h179 O126 A113 Ob129 Ob130 (Ne.symm ne_b113_b126) ne_b126_b129 ne_b126_b130 ne_b113_b129 ne_b113_b130 ne_b129_b130 g_b129 g_b130 (by omega) V5.1 V5.2 (by omega) P.sz) (by decide) (by decide) (cells' := 5) rfl (slots' := 20) rfl (by decide) (by decide) (lenOf pd_9 rfl) rfl (rest := []) rfl (W := 0) (Nat.le_of_eq rfl) at_179 (pc' := 182) rfl ?_
          clear O126
          clear A113
          clear Ob129
          clear Ob130
          rintro T h181 _ P ⟨rfl, K182, O126, A113, Ob129, Ob130⟩
          replace A142 := A142.keep K182 (ninS (Ne.symm ne_b129_b142) (ninS (Ne.symm ne_b130_b142) nin0))
          show Goes p e below s n0 room_1.cells room_1.slots (Q0 Z p0 p1 p2 p3 p4 p5 h0) (T.setTop (mkF m 182 #[.val (.int p0), .val (.int p1), .val (.int p2), .val (.int p3), .val (.int p4), .val (.int p5), .val (.ref b113), .val (.ref b126), .val (.int z132), .val (.int (Int32.ofNat q)), .val (.ref b142), .val (.int (Int32.ofNat v)), .unset] []))
          have V6 := own_mv_lt (b := own_bf F180) (n := (((((0 + 1) + 1) + 1) + 1) - 1)) (g := v) (N := 4) (by omega) (by omega) V5.1 V5.2
          obtain ⟨H6, eH6⟩ : ∃ qq : Nat → Nat, (own_mv (own_bf F180) (((((0 + 1) + 1) + 1) + 1) - 1) v H5 P5).1 = qq := ⟨_, rfl⟩
          rw [eH6] at Ob129
          obtain ⟨P6, eP6⟩ : ∃ qq : Nat → Nat, (own_mv (own_bf F180) (((((0 + 1) + 1) + 1) + 1) - 1) v H5 P5).2 = qq := ⟨_, rfl⟩
          rw [eP6] at Ob130
          rw [eH6, eP6] at V6
          refine G.iconst P at_182 (v := (-1 : Int32)) rfl (pc' := 183) rfl ?_
          refine G.istore P at_183 rfl (L' := #[.val (.int p0), .val (.int p1), .val (.int p2), .val (.int p3), .val (.int p4), .val (.int p5), .val (.ref b113), .val (.ref b126), .val (.int z132), .val (.int (Int32.ofNat q)), .val (.ref b142), .val (.int (Int32.ofNat v)), .val (.int (-1 : Int32))]) rfl (pc' := 185) rfl ?_
          refine G.iload P at_185 rfl (pc' := 187) rfl ?_
          refine G.iconst P at_187 (v := (0 : Int32)) rfl (pc' := 188) rfl ?_
          refine G.aload P at_188 rfl rfl (pc' := 190) rfl ?_
          refine G.aload P at_190 rfl rfl (pc' := 192) rfl ?_
          refine G.callS P (wd hw (i := 37) rfl) (wd hw (i := 38) rfl) (wd hw (i := 39) rfl) (wd hw (i := 40) rfl) (by decide) (argsL := [(.int (-1 : Int32)), (.int (0 : Int32)), (.ref b142), (.ref b113)]) (rm7 hw b142 b113 F180 M2 0 0 h181 A142 A113 (by omega) (by omega) hM2 P.sz) (by decide) (by decide) (cells' := 5) rfl (slots' := 20) rfl (by decide) (by decide) (lenOf pd_7 rfl) rfl (rest := []) rfl (W := 0) (Nat.le_of_eq rfl) at_192 (pc' := 195) rfl ?_
          rintro T _ _ P ⟨rfl, rfl⟩
          show Goes p e below s n0 room_1.cells room_1.slots (Q0 Z p0 p1 p2 p3 p4 p5 h0) (T.setTop (mkF m 195 #[.val (.int p0), .val (.int p1), .val (.int p2), .val (.int p3), .val (.int p4), .val (.int p5), .val (.ref b113), .val (.ref b126), .val (.int z132), .val (.int (Int32.ofNat q)), .val (.ref b142), .val (.int (Int32.ofNat v)), .val (.int (-1 : Int32))] [(.int (own_e (own_pk (own_bf F180) M2 0 0)))]))
          generalize he1 : own_pk (own_bf F180) M2 0 0 = e1
          have he1' : e1 ≤ 1 := by rw [← he1]; exact own_pk_le (by omega)
          refine G.istore P at_195 rfl (L' := #[.val (.int p0), .val (.int p1), .val (.int p2), .val (.int p3), .val (.int p4), .val (.int p5), .val (.ref b113), .val (.ref b126), .val (.int z132), .val (.int (Int32.ofNat q)), .val (.ref b142), .val (.int (Int32.ofNat v)), .val (.int (own_e e1))]) rfl (pc' := 197) rfl ?_
          refine G.iload P at_197 rfl (pc' := 199) rfl ?_
          refine G.iconst P at_199 (v := (1 : Int32)) rfl (pc' := 200) rfl ?_
          refine G.aload P at_200 rfl rfl (pc' := 202) rfl ?_
          refine G.aload P at_202 rfl rfl (pc' := 204) rfl ?_
          refine G.callS P (wd hw (i := 37) rfl) (wd hw (i := 38) rfl) (wd hw (i := 39) rfl) (wd hw (i := 40) rfl) (by decide) (argsL := [(.int (own_e e1)), (.int (1 : Int32)), (.ref b142), (.ref b113)]) (rm7 hw b142 b113 F180 M2 e1 1 h181 A142 A113 (by omega) (by omega) hM2 P.sz) (by decide) (by decide) (cells' := 5) rfl (slots' := 20) rfl (by decide) (by decide) (lenOf pd_7 rfl) rfl (rest := []) rfl (W := 0) (Nat.le_of_eq rfl) at_204 (pc' := 207) rfl ?_
          rintro T _ _ P ⟨rfl, rfl⟩
          show Goes p e below s n0 room_1.cells room_1.slots (Q0 Z p0 p1 p2 p3 p4 p5 h0) (T.setTop (mkF m 207 #[.val (.int p0), .val (.int p1), .val (.int p2), .val (.int p3), .val (.int p4), .val (.int p5), .val (.ref b113), .val (.ref b126), .val (.int z132), .val (.int (Int32.ofNat q)), .val (.ref b142), .val (.int (Int32.ofNat v)), .val (.int (own_e e1))] [(.int (own_e (own_pk (own_bf F180) M2 e1 1)))]))
          generalize he2 : own_pk (own_bf F180) M2 e1 1 = e2
          have he2' : e2 ≤ 2 := by rw [← he2]; exact own_pk_le (by omega)
          refine G.istore P at_207 rfl (L' := #[.val (.int p0), .val (.int p1), .val (.int p2), .val (.int p3), .val (.int p4), .val (.int p5), .val (.ref b113), .val (.ref b126), .val (.int z132), .val (.int (Int32.ofNat q)), .val (.ref b142), .val (.int (Int32.ofNat v)), .val (.int (own_e e2))]) rfl (pc' := 209) rfl ?_
          refine G.iload P at_209 rfl (pc' := 211) rfl ?_
          refine G.iconst P at_211 (v := (2 : Int32)) rfl (pc' := 212) rfl ?_
          refine G.aload P at_212 rfl rfl (pc' := 214) rfl ?_
          refine G.aload P at_214 rfl rfl (pc' := 216) rfl ?_
          refine G.callS P (wd hw (i := 37) rfl) (wd hw (i := 38) rfl) (wd hw (i := 39) rfl) (wd hw (i := 40) rfl) (by decide) (argsL := [(.int (own_e e2)), (.int (2 : Int32)), (.ref b142), (.ref b113)]) (rm7 hw b142 b113 F180 M2 e2 2 h181 A142 A113 (by omega) (by omega) hM2 P.sz) (by decide) (by decide) (cells' := 5) rfl (slots' := 20) rfl (by decide) (by decide) (lenOf pd_7 rfl) rfl (rest := []) rfl (W := 0) (Nat.le_of_eq rfl) at_216 (pc' := 219) rfl ?_
          rintro T _ _ P ⟨rfl, rfl⟩
          show Goes p e below s n0 room_1.cells room_1.slots (Q0 Z p0 p1 p2 p3 p4 p5 h0) (T.setTop (mkF m 219 #[.val (.int p0), .val (.int p1), .val (.int p2), .val (.int p3), .val (.int p4), .val (.int p5), .val (.ref b113), .val (.ref b126), .val (.int z132), .val (.int (Int32.ofNat q)), .val (.ref b142), .val (.int (Int32.ofNat v)), .val (.int (own_e e2))] [(.int (own_e (own_pk (own_bf F180) M2 e2 2)))]))
          generalize he3 : own_pk (own_bf F180) M2 e2 2 = e3
          have he3' : e3 ≤ 3 := by rw [← he3]; exact own_pk_le (by omega)
          refine G.istore P at_219 rfl (L' := #[.val (.int p0), .val (.int p1), .val (.int p2), .val (.int p3), .val (.int p4), .val (.int p5), .val (.ref b113), .val (.ref b126), .val (.int z132), .val (.int (Int32.ofNat q)), .val (.ref b142), .val (.int (Int32.ofNat v)), .val (.int (own_e e3))]) rfl (pc' := 221) rfl ?_
          refine G.iload P at_221 rfl (pc' := 223) rfl ?_
          refine G.iconst P at_223 (v := (3 : Int32)) rfl (pc' := 224) rfl ?_
          refine G.aload P at_224 rfl rfl (pc' := 226) rfl ?_
          refine G.aload P at_226 rfl rfl (pc' := 228) rfl ?_
          refine G.callS P (wd hw (i := 37) rfl) (wd hw (i := 38) rfl) (wd hw (i := 39) rfl) (wd hw (i := 40) rfl) (by decide) (argsL := [(.int (own_e e3)), (.int (3 : Int32)), (.ref b142), (.ref b113)]) (rm7 hw b142 b113 F180 M2 e3 3 h181 A142 A113 (by omega) (by omega) hM2 P.sz) (by decide) (by decide) (cells' := 5) rfl (slots' := 20) rfl (by decide) (by decide) (lenOf pd_7 rfl) rfl (rest := []) rfl (W := 0) (Nat.le_of_eq rfl) at_228 (pc' := 231) rfl ?_
          rintro T _ _ P ⟨rfl, rfl⟩
          show Goes p e below s n0 room_1.cells room_1.slots (Q0 Z p0 p1 p2 p3 p4 p5 h0) (T.setTop (mkF m 231 #[.val (.int p0), .val (.int p1), .val (.int p2), .val (.int p3), .val (.int p4), .val (.int p5), .val (.ref b113), .val (.ref b126), .val (.int z132), .val (.int (Int32.ofNat q)), .val (.ref b142), .val (.int (Int32.ofNat v)), .val (.int (own_e e3))] [(.int (own_e (own_pk (own_bf F180) M2 e3 3)))]))
          generalize he4 : own_pk (own_bf F180) M2 e3 3 = e4
          have he4' : e4 ≤ 4 := by rw [← he4]; exact own_pk_le (by omega)
          refine G.istore P at_231 rfl (L' := #[.val (.int p0), .val (.int p1), .val (.int p2), .val (.int p3), .val (.int p4), .val (.int p5), .val (.ref b113), .val (.ref b126), .val (.int z132), .val (.int (Int32.ofNat q)), .val (.ref b142), .val (.int (Int32.ofNat v)), .val (.int (own_e e4))]) rfl (pc' := 233) rfl ?_
          refine G.iload P at_233 rfl (pc' := 235) rfl ?_
          refine G.if_eq P at_235 (by decide) (pcY := 252) (by decide) (pcN := 238) rfl (fun c235 => ?_) (fun c235 => ?_)
          · refine G.iconst P at_252 (v := (0 : Int32)) rfl (pc' := 253) rfl ?_
            have ng : ¬ v = g := fun q' => c165 (by rw [← eM2, q', own_u_same]; rfl)
            have hc := own_pD ng ((own_bfM (lst [p0, p1, p2, p3]) F180 q v hq hv (by rw [← hF180]; exact own_updL _ _ _)).2 g hg)
            simp only [own_pks, own_s4, own_M] at hc
            rw [eM1, eM2, eH1, eP1, eH2, eP2, eH3, eP3, eH4, eP4, eH5, eP5, eH6, he1, he2, he3, he4] at hc
            have u1 : r131 = (-1 : Int32) := by rw [← hr131]; unfold own_first; rw [if_pos rfl]
            exact G.ireturnN P (t := .boolean) rfl (by simp) rfl at_253 (by decide) (by decide) ⟨congrArg (fun z => some (Value.int z)) (absurd c235 (by rw [hz132, if_pos u1]; decide)), trivial⟩
          · refine G.aload P at_238 rfl rfl (pc' := 240) rfl ?_
            refine G.callV P (wd hw (i := 16) rfl) (wd hw (i := 17) rfl) (wd hw (i := 19) rfl) (wd hw (i := 18) rfl) (wd hw (i := 3) rfl) (wd hw (i := 20) rfl) (by decide) O126.1 (argsL := []) (a := b126) (rm3 hw b126 b113 b129 b130 H6 (((((0 + 1) + 1) + 1) + 1) - 1) h181 O126 Ob129 ne_b126_b129 (by omega) P.sz) (by decide) (by decide) (cells' := 5) rfl (slots' := 20) rfl (by decide) (by decide) (lenOf pd_3 rfl) rfl (rest := []) rfl (W := 0) (Nat.le_of_eq rfl) at_240 (pc' := 243) rfl ?_
            rintro T _ _ P ⟨rfl, rfl⟩
            show Goes p e below s n0 room_1.cells room_1.slots (Q0 Z p0 p1 p2 p3 p4 p5 h0) (T.setTop (mkF m 243 #[.val (.int p0), .val (.int p1), .val (.int p2), .val (.int p3), .val (.int p4), .val (.int p5), .val (.ref b113), .val (.ref b126), .val (.int z132), .val (.int (Int32.ofNat q)), .val (.ref b142), .val (.int (Int32.ofNat v)), .val (.int (own_e e4))] [(.int (own_first (((((0 + 1) + 1) + 1) + 1) - 1) H6))]))
            generalize hr183 : (own_first (((((0 + 1) + 1) + 1) + 1) - 1) H6) = r183
            refine G.iload P at_243 rfl (pc' := 245) rfl ?_
            have J253_245 : ∀ (z184 : Int32), z184 = (if r183 = (own_e e4) then (1 : Int32) else (0 : Int32)) → Goes p e below s n0 room_1.cells room_1.slots (Q0 Z p0 p1 p2 p3 p4 p5 h0) (T.setTop (mkF m 253 #[.val (.int p0), .val (.int p1), .val (.int p2), .val (.int p3), .val (.int p4), .val (.int p5), .val (.ref b113), .val (.ref b126), .val (.int z132), .val (.int (Int32.ofNat q)), .val (.ref b142), .val (.int (Int32.ofNat v)), .val (.int (own_e e4))] [(.int z184)])) := by
              intro z184 hz184
              have ng : ¬ v = g := fun q' => c165 (by rw [← eM2, q', own_u_same]; rfl)
              have hc := own_pD ng ((own_bfM (lst [p0, p1, p2, p3]) F180 q v hq hv (by rw [← hF180]; exact own_updL _ _ _)).2 g hg)
              simp only [own_pks, own_s4, own_M] at hc
              rw [eM1, eM2, eH1, eP1, eH2, eP2, eH3, eP3, eH4, eP4, eH5, eP5, eH6, he1, he2, he3, he4] at hc
              have u1 : r131 = (-1 : Int32) := by rw [← hr131]; unfold own_first; rw [if_pos rfl]
              have u2 : r183 = own_e e4 := by rw [← hr183]; exact own_eqe (by omega) (by omega) hc
              exact G.ireturnN P (t := .boolean) rfl (by simp) rfl at_253 (by decide) (by decide) ⟨congrArg (fun z => some (Value.int z)) (by rw [hz184, if_pos u2]; rfl), trivial⟩
            refine G.icmp_ne P at_245 (by decide) (pcY := 252) (by decide) (pcN := 248) rfl (fun c245 => ?_) (fun c245 => ?_)
            · refine G.iconst P at_252 (v := (0 : Int32)) rfl (pc' := 253) rfl ?_
              exact J253_245 _ (by simp only [if_neg c245])
            · refine G.iconst P at_248 (v := (1 : Int32)) rfl (pc' := 249) rfl ?_
              refine G.goto P at_249 (by decide) (pc' := 253) (by decide) ?_
              exact J253_245 _ (by simp only [if_pos c245])
  refine G.icmp_ne P at_38 (by decide) (pcY := 45) (by decide) (pcN := 41) rfl (fun c38 => ?_) (fun c38 => ?_)
  · refine G.iconst P at_45 (v := (0 : Int32)) rfl (pc' := 46) rfl ?_
    exact J46_38 _ (by simp only [if_neg c38])
  · refine G.iconst P at_41 (v := (1 : Int32)) rfl (pc' := 42) rfl ?_
    refine G.goto P at_42 (by decide) (pc' := 46) (by decide) ?_
    exact J46_38 _ (by simp only [if_pos c38])
set_option maxRecDepth 65536 in
set_option maxHeartbeats 40000000 in
theorem comes_1 {Post : Tables → Env → Array Value → State → Outcome → State → Prop} (hpost : ∀ tb e args s v u, (limb_1_1.after args s (.returned v) u = true ∧ limb_1_2.after args s (.returned v) u = true) → FrameEnd s (.returned v) u (Jvm.fieldLocs frame_1_writes args s ++ Jvm.arrayLocs frame_1_arrays args s ++ Jvm.staticLocs frame_1_statics s) 24 128 → Post tb e args s (.returned v) u) :
    ArmFor flags0 classFile x code maxLocals ret World_1 tables_1 room_1 Calls_1 rest_1 Pre_1 Post := by
  intro l hfl _ _ p e ha hc hk s m args below hf hA hF happ hP
  obtain ⟨hcalls, hrest, hpre⟩ := hP
  obtain ⟨-, -, -, hnamed, -, -, -, hat⟩ := (Spec.applies_iff hf).mp happ
  obtain ⟨hg, hn⟩ := and_e (Cond.before_iff.mp (show (Jvm.Cond.and given_1 narrow_1).before args s = true from hpre))
  obtain ⟨hcount, g0⟩ := and_e hg
  obtain ⟨v0, g1⟩ := and_e g0
  obtain ⟨v1, g2⟩ := and_e g1
  obtain ⟨v2, g3⟩ := and_e g2
  obtain ⟨v3, g4⟩ := and_e g3
  obtain ⟨v4, g5⟩ := and_e g4
  have v5 := g5
  obtain ⟨w0, w1, w2, w3, w4, w5, rfl⟩ : ∃ w0 w1 w2 w3 w4 w5 : Value, args = #[w0, w1, w2, w3, w4, w5] := by
    have hs : args.size = 6 := by simpa [Cond.value, given_1] using hcount
    obtain ⟨L⟩ := args
    match L, hs with
    | [w0, w1, w2, w3, w4, w5], _ => exact ⟨w0, w1, w2, w3, w4, w5, rfl⟩
  have hw := fun d (hd : d ∈ tables_1) => atoms_spec (ws := Jvm.Cond.code x code maxLocals ret :: tables_1) hat d (List.mem_cons_of_mem _ hd)
  obtain ⟨i0, ei0⟩ := is_v v0
  obtain rfl : w0 = (.int i0) := Option.some.inj ei0
  obtain ⟨i1, ei1⟩ := is_v v1
  obtain rfl : w1 = (.int i1) := Option.some.inj ei1
  obtain ⟨i2, ei2⟩ := is_v v2
  obtain rfl : w2 = (.int i2) := Option.some.inj ei2
  obtain ⟨i3, ei3⟩ := is_v v3
  obtain rfl : w3 = (.int i3) := Option.some.inj ei3
  obtain ⟨i4, ei4⟩ := is_v v4
  obtain rfl : w4 = (.int i4) := Option.some.inj ei4
  obtain ⟨i5, ei5⟩ := is_v v5
  obtain rfl : w5 = (.int i5) := Option.some.inj ei5
  obtain ⟨n, o, h1, h2, h3, v, L, rfl, ⟨hQ, N⟩, hq⟩ := rm0 hw i0 i1 i2 i3 i4 i5 s.heap (Nat.le_refl s.heap.size) tables_1 p e ha hc hk s m _ below hf ((Spec.applies_iff_loose hf).mp happ).1 ⟨rfl, State.Warmed39.refl s, rfl⟩ trivial
  obtain rfl : v = some (.int 1) := hQ.1
  refine ⟨n, _, h1, h2, h3, hpost _ _ _ _ _ _ ⟨Cond.after_iff.mpr rfl, Cond.after_iff.mpr (eq_i res_at (Term.int_eval (1)) rfl)⟩ ⟨hq.1, hq.2.1, (hq.2.2.sift fun y hy => Or.inr (N y hy)).mono (by decide) (by decide)⟩⟩
theorem main_1_1 : Claimed_1_1 := comes_1 fun _ _ _ _ _ _ h hF => ⟨h.1, hF⟩
theorem main_1_2 : Claimed_1_2 := comes_1 fun _ _ _ _ _ _ h hF => ⟨h.2, hF⟩
end Jvm.Pilot.@@N@@
namespace Jvm.Pilot.@@N@@
open Jvm Jvm.ClassFile Sem Op Lib Jvm.Free Jvm.Stand Jvm.Pilot.@@N@@.Jvm.D
/-! MADE BY PROGRAM (witnessworld.py) out of the Statement's table words and the real class files: 11 classes; the members and pool entries that the words name. The judged class is class 1, her method 1. -/
namespace start1
open Jvm.ClassFile
def u (s : String) : CpInfo := .utf8 (stringToUtf16 s)
/-- a pool by its gaps: so many unusable entries, then the entry; so many at the end -/
def gap : Nat → List CpInfo → List CpInfo
  | 0, r => r
  | n + 1, r => .unusable :: gap n r
def poolList (es : List (Nat × CpInfo)) (last : Nat) : List CpInfo := es.foldr (fun e r => gap e.1 (e.2 :: r)) (gap last [])
def pool (es : List (Nat × CpInfo)) (last : Nat) : Array CpInfo := ⟨poolList es last⟩
def fileOf (pool : Array CpInfo) (this : Nat) (attrs : Array Attribute := #[]) (ms : Array MethodInfo := #[]) (fl : Nat := 33) (sup : Nat := 0) (ifs : Array Nat := #[]) (fds : Array FieldInfo := #[]) : ClassFile where
  minorVersion := 0
  majorVersion := 65
  constantPool := pool
  accessFlags := fl
  thisClass := this
  superClass := sup
  interfaces := ifs
  fields := fds
  methods := ms
  attributes := attrs
def plain (name : String) (sup : Option ClassId) : Class where
  name := name
  kind := .ordinary
  loader := none
  accessFlags := 33
  super := sup
  interfaces := #[]
  cf := none
  fields := #[]
  methods := #[]
  instanceTypes := #[]
  staticTypes := #[]
  resolved := #[]
  callSites := []
  init := .initialized
  statics := none
  mirror := none

def pool0 : Array CpInfo := pool [(5, u "<init>"), (0, u "()V"), (1, .class_ 10), (1, u "java/lang/Object")] 113

def k0c0 : Code := { maxStack := 0, maxLocals := 1, code := object_method_1_code, exceptionTable := #[], attributes := #[] }
def k0m0 : Method := { name := "<init>", desc := "()V", sig := { parameters := [], returnType := none }, accessFlags := 1, code := some k0c0 }
/-- java/lang/Object -/
def k0 : Class := { plain "java/lang/Object" none with
  accessFlags := 33
  interfaces := #[]
  cf := some (fileOf pool0 8 #[] #[{ accessFlags := 1, nameIndex := 5, descriptorIndex := 6, attributes := #[] }] 33 0 #[] #[])
  fields := #[]
  methods := #[k0m0]
  instanceTypes := #[]
  staticTypes := #[]
  resolved := Array.replicate 124 none
  statics := none }

def pool1 : Array CpInfo := pool [(2, .class_ 4), (1, u "java/lang/Object"), (0, u "<init>"), (0, u "()V"), (0, .class_ 8), (0, u "com/example/tasks_to_users/taskstousers/Planner$Waiting"), (0, .methodref 7 10), (0, .nameAndType 5 11), (0, u "([I)V"), (0, .methodref 7 13), (0, .nameAndType 14 15), (0, u "first"), (0, u "()I"), (0, .methodref 7 17), (0, .nameAndType 18 19), (0, u "add"), (0, u "(I)V"), (0, .methodref 7 21), (0, .nameAndType 22 19), (0, u "remove"), (0, .methodref 7 24), (0, .nameAndType 25 19), (0, u "moved"), (0, .methodref 27 28), (0, .class_ 29), (0, .nameAndType 30 31), (0, u "com/example/tasks_to_users/taskstousers/WaitingFirstPinLaw"), (0, u "pick"), (0, u "(II[Z[I)I"), (2, u "law"), (0, u "(IIIIII)Z")] 11

def k1m0 : Method := { name := "<init>", desc := "()V", sig := { parameters := [], returnType := none }, accessFlags := 2, code := none }
def k1c1 : Code := { maxStack := 4, maxLocals := 13, code := code, exceptionTable := #[], attributes := #[] }
def k1m1 : Method := { name := "law", desc := "(IIIIII)Z", sig := { parameters := [.int, .int, .int, .int, .int, .int], returnType := some .boolean }, accessFlags := 9, code := some k1c1 }
def k1c2 : Code := { maxStack := 3, maxLocals := 5, code := method_3_code, exceptionTable := #[], attributes := #[] }
def k1m2 : Method := { name := "pick", desc := "(II[Z[I)I", sig := { parameters := [.int, .int, (.array .boolean), (.array .int)], returnType := some .int }, accessFlags := 10, code := some k1c2 }
/-- com/example/tasks_to_users/taskstousers/WaitingFirstPinLaw -/
def k1 : Class := { plain "com/example/tasks_to_users/taskstousers/WaitingFirstPinLaw" (some 0) with
  accessFlags := 49
  interfaces := #[]
  cf := some (fileOf pool1 27 #[] #[{ accessFlags := 2, nameIndex := 5, descriptorIndex := 6, attributes := #[] }, { accessFlags := 9, nameIndex := 34, descriptorIndex := 35, attributes := #[] }, { accessFlags := 10, nameIndex := 30, descriptorIndex := 31, attributes := #[] }] 49 2 #[] #[])
  fields := #[]
  methods := #[k1m0, k1m1, k1m2]
  instanceTypes := #[]
  staticTypes := #[]
  resolved := Array.replicate 47 none
  statics := none }

def pool2 : Array CpInfo := pool [(1, .class_ 2), (0, u "com/example/tasks_to_users/taskstousers/Planner"), (0, .methodref 4 5), (0, .class_ 6), (0, .nameAndType 7 8), (0, u "java/lang/Object"), (0, u "<init>"), (0, u "()V"), (0, .fieldref 10 11), (0, .class_ 12), (0, .nameAndType 13 14), (0, u "com/example/tasks_to_users/taskstousers/Planner$Waiting"), (0, u "left"), (0, u "[I"), (0, .fieldref 10 16), (0, .nameAndType 17 14), (0, u "heap"), (0, .fieldref 10 19), (0, .nameAndType 20 14), (0, u "place"), (0, .fieldref 10 22), (0, .nameAndType 23 24), (0, u "size"), (0, u "I"), (0, .methodref 10 26), (0, .nameAndType 27 28), (0, u "up"), (0, u "(I)V"), (0, .methodref 10 30), (0, .nameAndType 31 28), (0, u "moved"), (0, .methodref 10 33), (0, .nameAndType 34 28), (0, u "down"), (0, .methodref 10 36), (0, .nameAndType 37 38), (0, u "before"), (0, u "(II)Z"), (0, u "([I)V"), (2, u "add"), (0, u "remove"), (1, u "first"), (0, u "()I")] 5

def k2c0 : Code := { maxStack := 2, maxLocals := 2, code := prog_27_method_1_code, exceptionTable := #[], attributes := #[] }
def k2m0 : Method := { name := "<init>", desc := "([I)V", sig := { parameters := [(.array .int)], returnType := none }, accessFlags := 0, code := some k2c0 }
def k2c1 : Code := { maxStack := 3, maxLocals := 2, code := prog_27_method_2_code, exceptionTable := #[], attributes := #[] }
def k2m1 : Method := { name := "add", desc := "(I)V", sig := { parameters := [.int], returnType := none }, accessFlags := 0, code := some k2c1 }
def k2c2 : Code := { maxStack := 4, maxLocals := 3, code := prog_27_method_3_code, exceptionTable := #[], attributes := #[] }
def k2m2 : Method := { name := "remove", desc := "(I)V", sig := { parameters := [.int], returnType := none }, accessFlags := 0, code := some k2c2 }
def k2c3 : Code := { maxStack := 3, maxLocals := 2, code := prog_27_method_4_code, exceptionTable := #[], attributes := #[] }
def k2m3 : Method := { name := "moved", desc := "(I)V", sig := { parameters := [.int], returnType := none }, accessFlags := 0, code := some k2c3 }
def k2c4 : Code := { maxStack := 2, maxLocals := 1, code := prog_27_method_5_code, exceptionTable := #[], attributes := #[] }
def k2m4 : Method := { name := "first", desc := "()I", sig := { parameters := [], returnType := some .int }, accessFlags := 0, code := some k2c4 }
def k2c5 : Code := { maxStack := 5, maxLocals := 5, code := prog_27_method_6_code, exceptionTable := #[], attributes := #[] }
def k2m5 : Method := { name := "up", desc := "(I)V", sig := { parameters := [.int], returnType := none }, accessFlags := 2, code := some k2c5 }
def k2c6 : Code := { maxStack := 4, maxLocals := 6, code := prog_27_method_7_code, exceptionTable := #[], attributes := #[] }
def k2m6 : Method := { name := "down", desc := "(I)V", sig := { parameters := [.int], returnType := none }, accessFlags := 2, code := some k2c6 }
def k2c7 : Code := { maxStack := 3, maxLocals := 3, code := prog_27_method_8_code, exceptionTable := #[], attributes := #[] }
def k2m7 : Method := { name := "before", desc := "(II)Z", sig := { parameters := [.int, .int], returnType := some .boolean }, accessFlags := 2, code := some k2c7 }
/-- com/example/tasks_to_users/taskstousers/Planner$Waiting -/
def k2 : Class := { plain "com/example/tasks_to_users/taskstousers/Planner$Waiting" (some 0) with
  accessFlags := 48
  interfaces := #[]
  cf := some (fileOf pool2 10 #[.nestHost 1] #[{ accessFlags := 0, nameIndex := 7, descriptorIndex := 39, attributes := #[] }, { accessFlags := 0, nameIndex := 42, descriptorIndex := 28, attributes := #[] }, { accessFlags := 0, nameIndex := 43, descriptorIndex := 28, attributes := #[] }, { accessFlags := 0, nameIndex := 31, descriptorIndex := 28, attributes := #[] }, { accessFlags := 0, nameIndex := 45, descriptorIndex := 46, attributes := #[] }, { accessFlags := 2, nameIndex := 27, descriptorIndex := 28, attributes := #[] }, { accessFlags := 2, nameIndex := 34, descriptorIndex := 28, attributes := #[] }, { accessFlags := 2, nameIndex := 37, descriptorIndex := 38, attributes := #[] }] 48 4 #[] #[{ accessFlags := 18, nameIndex := 13, descriptorIndex := 14, attributes := #[] }, { accessFlags := 18, nameIndex := 17, descriptorIndex := 14, attributes := #[] }, { accessFlags := 18, nameIndex := 20, descriptorIndex := 14, attributes := #[] }, { accessFlags := 2, nameIndex := 23, descriptorIndex := 24, attributes := #[] }])
  fields := #[{ name := "left", type := (.array .int), accessFlags := 18, slot := 0, constantValue := 0 }, { name := "heap", type := (.array .int), accessFlags := 18, slot := 1, constantValue := 0 }, { name := "place", type := (.array .int), accessFlags := 18, slot := 2, constantValue := 0 }, { name := "size", type := .int, accessFlags := 2, slot := 3, constantValue := 0 }]
  methods := #[k2m0, k2m1, k2m2, k2m3, k2m4, k2m5, k2m6, k2m7]
  instanceTypes := #[(.array .int), (.array .int), (.array .int), .int]
  staticTypes := #[]
  resolved := Array.replicate 52 none
  statics := none }

def pool3 : Array CpInfo := pool [(1, u "java/lang/Cloneable"), (0, .class_ 1), (0, u "java/lang/Object"), (0, .class_ 3)] 3

/-- java/lang/Cloneable -/
def k3 : Class := { plain "java/lang/Cloneable" (some 0) with
  accessFlags := 1537
  interfaces := #[]
  cf := some (fileOf pool3 2 #[] #[] 1537 4 #[] #[])
  fields := #[]
  methods := #[]
  instanceTypes := #[]
  staticTypes := #[]
  resolved := Array.replicate 8 none
  statics := none }

def pool4 : Array CpInfo := pool [(1, u "java/io/Serializable"), (0, .class_ 1), (0, u "java/lang/Object"), (0, .class_ 3)] 3

/-- java/io/Serializable -/
def k4 : Class := { plain "java/io/Serializable" (some 0) with
  accessFlags := 1537
  interfaces := #[]
  cf := some (fileOf pool4 2 #[] #[] 1537 4 #[] #[])
  fields := #[]
  methods := #[]
  instanceTypes := #[]
  staticTypes := #[]
  resolved := Array.replicate 8 none
  statics := none }

/-- the primitive boolean -/
def k5 : Class := { plain "boolean" none with kind := .primitive 'Z', accessFlags := 0x411 }
/-- [Z -/
def k6 : Class := { plain "[Z" (some 0) with kind := .array 5 .boolean, interfaces := #[3, 4], accessFlags := 1041 }

/-- the primitive byte -/
def k7 : Class := { plain "byte" none with kind := .primitive 'B', accessFlags := 0x411 }
/-- [B -/
def k8 : Class := { plain "[B" (some 0) with kind := .array 7 .byte, interfaces := #[3, 4], accessFlags := 1041 }

/-- the primitive int -/
def k9 : Class := { plain "int" none with kind := .primitive 'I', accessFlags := 0x411 }
/-- [I -/
def k10 : Class := { plain "[I" (some 0) with kind := .array 9 .int, interfaces := #[3, 4], accessFlags := 1041 }

def heap : Heap := #[]
def classes : Array Class := #[k0, k1, k2, k3, k4, k5, k6, k7, k8, k9, k10]
def interned : List (Array UInt16 × Addr) := []
def slotsUsed : Nat := 0
def theMethod : MethodId := ⟨1, 1⟩
def args0 : Array Value := #[.int 5, .int 5, .int 5, .int 5, .int 5, .int 5]
def aboutOver (below : List Frame) : State where
  vm := { classes := classes, interned := interned.toArray }
  heap := heap
  slotsUsed := slotsUsed
  threads := #[{ frames := .invoking theMethod args0 :: below }]
def below0 : List Frame := [.native { method := ⟨0, 0⟩, args := #[] }]
def about1 : State := aboutOver below0
def p0 : Program := .bare "" "" ""
def e0 : Env := launch0.env 0 0 0
theorem w_frames : about1.frames = Frame.invoking theMethod args0 :: below0 := rfl
set_option maxRecDepth 65536 in
theorem w_args : argsFit about1.vm theMethod args0 = true := by decide +kernel
set_option maxRecDepth 65536 in
theorem w_heap : heapFits about1 = true := by decide +kernel
set_option maxRecDepth 65536 in
theorem w_runnable : about1.curStatus? = some .runnable := by decide +kernel
set_option maxRecDepth 65536 in
theorem w_alone : about1.alone = true := by decide +kernel
set_option maxRecDepth 65536 in
theorem w_named : about1.methodNamed? x = some theMethod := by decide +kernel
set_option maxRecDepth 65536 in
theorem w_hears : about1.hears theMethod below0 = true := by decide +kernel
set_option maxRecDepth 65536 in
theorem w_ripe : about1.ripe theMethod args0 below0 = true := by decide +kernel
theorem w_running : about1.status = .running := rfl
set_option maxRecDepth 65536 in
theorem w_room : about1.hasRoom e0.platform room_1 = true :=
  launch0.hasRoom_least _ room_1 (by decide +kernel) (by decide +kernel) (by decide +kernel) (by decide +kernel) (by decide +kernel) (by decide +kernel)
theorem allAtoms_all (ts : List Jvm.Cond) (a : Array Jvm.Value) (st : Jvm.State) : (allAtoms ts).before a st = ts.all (fun c => c.before a st) := by
  induction ts with
  | nil => rfl
  | cons c t ih =>
    show (Jvm.Cond.and c (allAtoms t)).before a st = _
    rw [Jvm.Cond.before_and, ih, List.all_cons]
def words1 : List Jvm.Cond := Jvm.Cond.code x code maxLocals ret :: tables_1
/-- a 'code' word, met by the world's own term for the bytes: nothing is compared byte by byte -/
theorem code_word {y : MethodName} {bytes : ByteArray} {mx : Nat} {rt : Option FieldType} {a : Array Value} {s : State} {m : MethodId} {meth : Method} {c : Code} (h1 : s.methodNamed? y = some m) (h2 : s.vm.method? m = some meth) (h3 : meth.code = some c) (h4 : c.code = bytes)
    (h5 : (c.maxLocals == mx && c.exceptionTable.isEmpty && decide (c.maxStack ≤ mostOperands) && decide (meth.sig.returnType = rt) && !meth.locks && decide (parseMethodDescriptor y.desc = some meth.sig)) = true) : (Jvm.Cond.code y bytes mx rt).before a s = true := by
  simp only [Bool.and_eq_true, beq_iff_eq, Bool.not_eq_true', decide_eq_true_eq] at h5
  obtain ⟨⟨⟨⟨⟨g1, g2⟩, g3⟩, g4⟩, g5⟩, g6⟩ := h5
  simp [Cond.before, Cond.holds, Cond.value, h1, h2, h3, h4, g1, g2, g3, g4, g5, g6]
def isCode : Jvm.Cond → Bool
  | .code _ _ _ _ => true
  | _ => false
theorem all_split {L : List Jvm.Cond} {P : Jvm.Cond → Bool} (h1 : L.all (fun c => isCode c || P c) = true) (h2 : ∀ c ∈ L.filter isCode, P c = true) : L.all P = true := by
  refine List.all_eq_true.mpr fun c hc => ?_
  have h := List.all_eq_true.mp h1 c hc
  rcases Bool.eq_false_or_eq_true (isCode c) with hi | hi
  · exact h2 c (List.mem_filter.mpr ⟨hc, hi⟩)
  · simpa [hi] using h
set_option maxRecDepth 65536 in
theorem w_c0 : (Jvm.Cond.code x code maxLocals ret).before args0 about1 = true := code_word (m := ⟨1, 1⟩) (meth := k1m1) (c := k1c1) (by decide +kernel) rfl rfl rfl (by decide +kernel)
set_option maxRecDepth 65536 in
theorem w_c1 : (Jvm.Cond.code ({ cls := "com/example/tasks_to_users/taskstousers/Planner$Waiting", name := "<init>", desc := "([I)V" } : Jvm.MethodName) prog_27_method_1_code (2 : Nat) (Option.none : Option Jvm.ClassFile.FieldType)).before args0 about1 = true := code_word (m := ⟨2, 0⟩) (meth := k2m0) (c := k2c0) (by decide +kernel) rfl rfl rfl (by decide +kernel)
set_option maxRecDepth 65536 in
theorem w_c2 : (Jvm.Cond.code ({ cls := "java/lang/Object", name := "<init>", desc := "()V" } : Jvm.MethodName) object_method_1_code (1 : Nat) (Option.none : Option Jvm.ClassFile.FieldType)).before args0 about1 = true := code_word (m := ⟨0, 0⟩) (meth := k0m0) (c := k0c0) (by decide +kernel) rfl rfl rfl (by decide +kernel)
set_option maxRecDepth 65536 in
theorem w_c3 : (Jvm.Cond.code ({ cls := "com/example/tasks_to_users/taskstousers/Planner$Waiting", name := "first", desc := "()I" } : Jvm.MethodName) prog_27_method_5_code (1 : Nat) (Option.some Jvm.ClassFile.FieldType.int)).before args0 about1 = true := code_word (m := ⟨2, 4⟩) (meth := k2m4) (c := k2c4) (by decide +kernel) rfl rfl rfl (by decide +kernel)
set_option maxRecDepth 65536 in
theorem w_c4 : (Jvm.Cond.code ({ cls := "com/example/tasks_to_users/taskstousers/Planner$Waiting", name := "add", desc := "(I)V" } : Jvm.MethodName) prog_27_method_2_code (2 : Nat) (Option.none : Option Jvm.ClassFile.FieldType)).before args0 about1 = true := code_word (m := ⟨2, 1⟩) (meth := k2m1) (c := k2c1) (by decide +kernel) rfl rfl rfl (by decide +kernel)
set_option maxRecDepth 65536 in
theorem w_c5 : (Jvm.Cond.code ({ cls := "com/example/tasks_to_users/taskstousers/Planner$Waiting", name := "up", desc := "(I)V" } : Jvm.MethodName) prog_27_method_6_code (5 : Nat) (Option.none : Option Jvm.ClassFile.FieldType)).before args0 about1 = true := code_word (m := ⟨2, 5⟩) (meth := k2m5) (c := k2c5) (by decide +kernel) rfl rfl rfl (by decide +kernel)
set_option maxRecDepth 65536 in
theorem w_c6 : (Jvm.Cond.code ({ cls := "com/example/tasks_to_users/taskstousers/Planner$Waiting", name := "before", desc := "(II)Z" } : Jvm.MethodName) prog_27_method_8_code (3 : Nat) (Option.some Jvm.ClassFile.FieldType.boolean)).before args0 about1 = true := code_word (m := ⟨2, 7⟩) (meth := k2m7) (c := k2c7) (by decide +kernel) rfl rfl rfl (by decide +kernel)
set_option maxRecDepth 65536 in
theorem w_c7 : (Jvm.Cond.code ({ cls := "com/example/tasks_to_users/taskstousers/WaitingFirstPinLaw", name := "pick", desc := "(II[Z[I)I" } : Jvm.MethodName) method_3_code (5 : Nat) (Option.some Jvm.ClassFile.FieldType.int)).before args0 about1 = true := code_word (m := ⟨1, 2⟩) (meth := k1m2) (c := k1c2) (by decide +kernel) rfl rfl rfl (by decide +kernel)
set_option maxRecDepth 65536 in
theorem w_c8 : (Jvm.Cond.code ({ cls := "com/example/tasks_to_users/taskstousers/Planner$Waiting", name := "remove", desc := "(I)V" } : Jvm.MethodName) prog_27_method_3_code (3 : Nat) (Option.none : Option Jvm.ClassFile.FieldType)).before args0 about1 = true := code_word (m := ⟨2, 2⟩) (meth := k2m2) (c := k2c2) (by decide +kernel) rfl rfl rfl (by decide +kernel)
set_option maxRecDepth 65536 in
theorem w_c9 : (Jvm.Cond.code ({ cls := "com/example/tasks_to_users/taskstousers/Planner$Waiting", name := "moved", desc := "(I)V" } : Jvm.MethodName) prog_27_method_4_code (2 : Nat) (Option.none : Option Jvm.ClassFile.FieldType)).before args0 about1 = true := code_word (m := ⟨2, 3⟩) (meth := k2m3) (c := k2c3) (by decide +kernel) rfl rfl rfl (by decide +kernel)
set_option maxRecDepth 65536 in
theorem w_c10 : (Jvm.Cond.code ({ cls := "com/example/tasks_to_users/taskstousers/Planner$Waiting", name := "down", desc := "(I)V" } : Jvm.MethodName) prog_27_method_7_code (6 : Nat) (Option.none : Option Jvm.ClassFile.FieldType)).before args0 about1 = true := code_word (m := ⟨2, 6⟩) (meth := k2m6) (c := k2c6) (by decide +kernel) rfl rfl rfl (by decide +kernel)
def codes1 : List Jvm.Cond := [Jvm.Cond.code x code maxLocals ret, Jvm.Cond.code ({ cls := "com/example/tasks_to_users/taskstousers/Planner$Waiting", name := "<init>", desc := "([I)V" } : Jvm.MethodName) prog_27_method_1_code (2 : Nat) (Option.none : Option Jvm.ClassFile.FieldType), Jvm.Cond.code ({ cls := "java/lang/Object", name := "<init>", desc := "()V" } : Jvm.MethodName) object_method_1_code (1 : Nat) (Option.none : Option Jvm.ClassFile.FieldType), Jvm.Cond.code ({ cls := "com/example/tasks_to_users/taskstousers/Planner$Waiting", name := "first", desc := "()I" } : Jvm.MethodName) prog_27_method_5_code (1 : Nat) (Option.some Jvm.ClassFile.FieldType.int), Jvm.Cond.code ({ cls := "com/example/tasks_to_users/taskstousers/Planner$Waiting", name := "add", desc := "(I)V" } : Jvm.MethodName) prog_27_method_2_code (2 : Nat) (Option.none : Option Jvm.ClassFile.FieldType), Jvm.Cond.code ({ cls := "com/example/tasks_to_users/taskstousers/Planner$Waiting", name := "up", desc := "(I)V" } : Jvm.MethodName) prog_27_method_6_code (5 : Nat) (Option.none : Option Jvm.ClassFile.FieldType), Jvm.Cond.code ({ cls := "com/example/tasks_to_users/taskstousers/Planner$Waiting", name := "before", desc := "(II)Z" } : Jvm.MethodName) prog_27_method_8_code (3 : Nat) (Option.some Jvm.ClassFile.FieldType.boolean), Jvm.Cond.code ({ cls := "com/example/tasks_to_users/taskstousers/WaitingFirstPinLaw", name := "pick", desc := "(II[Z[I)I" } : Jvm.MethodName) method_3_code (5 : Nat) (Option.some Jvm.ClassFile.FieldType.int), Jvm.Cond.code ({ cls := "com/example/tasks_to_users/taskstousers/Planner$Waiting", name := "remove", desc := "(I)V" } : Jvm.MethodName) prog_27_method_3_code (3 : Nat) (Option.none : Option Jvm.ClassFile.FieldType), Jvm.Cond.code ({ cls := "com/example/tasks_to_users/taskstousers/Planner$Waiting", name := "moved", desc := "(I)V" } : Jvm.MethodName) prog_27_method_4_code (2 : Nat) (Option.none : Option Jvm.ClassFile.FieldType), Jvm.Cond.code ({ cls := "com/example/tasks_to_users/taskstousers/Planner$Waiting", name := "down", desc := "(I)V" } : Jvm.MethodName) prog_27_method_7_code (6 : Nat) (Option.none : Option Jvm.ClassFile.FieldType)]
set_option maxRecDepth 65536 in
theorem codes_eq : words1.filter isCode = codes1 := rfl
theorem w_codes : ∀ c ∈ words1.filter isCode, c.before args0 about1 = true := by
  rw [codes_eq]
  intro c hc
  simp only [codes1, List.mem_cons, List.not_mem_nil, or_false] at hc
  rcases hc with rfl | rfl | rfl | rfl | rfl | rfl | rfl | rfl | rfl | rfl | rfl
  · exact w_c0
  · exact w_c1
  · exact w_c2
  · exact w_c3
  · exact w_c4
  · exact w_c5
  · exact w_c6
  · exact w_c7
  · exact w_c8
  · exact w_c9
  · exact w_c10
set_option maxRecDepth 65536 in
theorem w_t1 : (words1.take 24).all (fun c => isCode c || c.before args0 about1) = true := by decide +kernel
set_option maxRecDepth 65536 in
theorem w_t2 : ((words1.drop 24).take 24).all (fun c => isCode c || c.before args0 about1) = true := by decide +kernel
set_option maxRecDepth 65536 in
theorem w_t3 : ((words1.drop 24).drop 24).all (fun c => isCode c || c.before args0 about1) = true := by decide +kernel
theorem w_tables : (allAtoms (Jvm.Cond.code x code maxLocals ret :: tables_1)).before args0 about1 = true := by
  rw [allAtoms_all]
  show words1.all (fun c => c.before args0 about1) = true
  refine all_split ?_ w_codes
  rw [← List.take_append_drop 24 words1, List.all_append, w_t1, ← List.take_append_drop 24 (words1.drop 24), List.all_append, w_t2, w_t3]
  rfl
set_option maxRecDepth 65536 in
theorem w_case : (Jvm.Cond.and given_1 narrow_1).before args0 about1 = true := by decide +kernel
theorem w_applies : (headSpec (Jvm.Cond.code x code maxLocals ret :: tables_1) room_1).applies x e0.platform about1 = true :=
  (Spec.applies_iff w_frames).mpr ⟨w_running, w_runnable, w_alone, w_named, w_hears, w_ripe, w_room, w_tables⟩
theorem atStart : AtStart classFile x code maxLocals ret World_1 tables_1 room_1 Calls_1 rest_1 Pre_1 launch0 p0 e0 about1 theMethod args0 below0 :=
  ⟨lists_1, trivial, launch0.admits_env _ _ _, launch0.least_env, fairChoices_fair.cas, fairChoices_fair.clock, w_frames, w_args, w_heap, w_applies, trivial, trivial, w_case⟩
end start1
theorem witness_1 : WitnessClaimed_1 := ⟨start1.p0, start1.e0, start1.about1, start1.theMethod, start1.args0, start1.below0, start1.atStart⟩
end Jvm.Pilot.@@N@@
