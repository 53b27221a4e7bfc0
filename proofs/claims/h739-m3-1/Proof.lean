import JvmDerived
import JvmDerived.Pilot.@@N@@Statement
import JvmDerived.Pilot.@@N@@Code
set_option linter.unusedVariables false
set_option linter.unusedSimpArgs false
namespace Jvm.OwnW
open Sem ClassFile Op Lib Jvm.Free Jvm.Stand Jvm.LawKit Jvm.RoadKit
/-- where a walk stands: the method's facts, the heap, nothing old written -/
def Pos (Z : State) (y : MethodName) (bytes : ByteArray) (maxL : Nat) (ret : Option FieldType) (n0 : Nat) (p : Program) (l : Launch) (e : Env) (R : Room) (s : State) (m : MethodId) (args : Array Value) (below : List Frame) (meth : Method) (c : Code) (T : State) (h : Heap) (cells slots : Nat) : Prop :=
  (p.tables.exec = Jvm.exec ∧ c.code = bytes ∧ c.maxLocals = maxL ∧ s.vm.findClass y.cls = some m.cls ∧ meth.name = y.name ∧ meth.sig.returnType = ret ∧ meth.locks = false ∧ Z.Warmed39 s.vm ∧ n0 ≤ s.heap.size) ∧
  ∃ locs, Stand p l e R s m args below meth c T locs cells slots ∧ T.heap = h ∧ Fr n0 locs
/-- the run from t comes to a return of which Q holds -/
def Goes (p : Program) (e : Env) (below : List Frame) (s : State) (n0 kc ks : Nat) (Q : Option Value → Heap → Prop) (t : State) : Prop :=
  ∃ s₂ o, Steps p.tables e below t s₂ ∧ s₂.status = .running ∧ Ended s₂ below o ∧ ∃ v L, o = .returned v ∧ (Q v s₂.heap ∧ Fr n0 L) ∧ FrameEnd s o s₂ L kc ks
/-- a method's contract: called with these arguments at the heap h0 it returns, and Q holds of the value and the heap -/
def Con (l : Launch) (Z : State) (y : MethodName) (bytes : ByteArray) (maxL : Nat) (ret : Option FieldType) (rm : Room) (n0 : Nat) (as : Array Value) (h0 : Heap) (Q : Option Value → Heap → Prop) : Prop :=
  ∀ ws : List Jvm.Cond, MetFree l y (head1 (Jvm.Cond.code y bytes maxL ret :: ws) rm) (fun a U => a = as ∧ Z.Warmed39 U.vm ∧ U.heap = h0) (fun _ _ _ _ _ => True) (fun _ U o U' => ∃ v L, o = .returned v ∧ (Q v U'.heap ∧ Fr n0 L) ∧ FrameEnd U o U' L rm.cells rm.slots)
section Base
variable {Z : State} {y : MethodName} {bytes : ByteArray} {maxL : Nat} {ret : Option FieldType} {n0 : Nat} {p : Program} {l : Launch} {e : Env} {R : Room} {s : State} {m : MethodId} {args : Array Value} {below : List Frame} {meth : Method} {c : Code} {T : State} {h : Heap} {cells slots kc ks : Nat} {Q : Option Value → Heap → Prop} {pc pc' pcY pcN : Nat} {L L' : Array Slot} {S : List Value} {a0 : Array Value}
theorem Goes.via {t t' : State} (k : ∀ target, Steps p.tables e below t' target → Steps p.tables e below t target) (G : Goes p e below s n0 kc ks Q t') : Goes p e below s n0 kc ks Q t := by
  obtain ⟨s₂, o, h1, r⟩ := G
  exact ⟨s₂, o, k _ h1, r⟩
theorem Goes.mono {Q' : Option Value → Heap → Prop} {t : State} (k : ∀ v h, Q' v h → Q v h) (G : Goes p e below s n0 kc ks Q' t) : Goes p e below s n0 kc ks Q t := by
  obtain ⟨s₂, o, h1, h2, h3, v, L, h4, ⟨h5, h6⟩, h7⟩ := G
  exact ⟨s₂, o, h1, h2, h3, v, L, h4, ⟨k _ _ h5, h6⟩, h7⟩
theorem Con.mono {rm : Room} {as : Array Value} {h0 : Heap} {Q' : Option Value → Heap → Prop} (K : Con l Z y bytes maxL ret rm n0 as h0 Q') (k : ∀ v h, Q' v h → Q v h) : Con l Z y bytes maxL ret rm n0 as h0 Q := by
  intro ws p e ha hc hk s m args below hf happ hP hK
  obtain ⟨n, o, h1, h2, h3, v, L, h4, ⟨h5, h6⟩, h7⟩ := K ws p e ha hc hk s m args below hf happ hP hK
  exact ⟨n, o, h1, h2, h3, v, L, h4, ⟨k _ _ h5, h6⟩, h7⟩
theorem Con.body {rm : Room} {as : Array Value} {h0 : Heap} {Ls : Array Slot} (pn : plainFor y = true) (hn0 : n0 ≤ h0.size) (ef : ∀ m, entryFrame m as maxL = mkF m 0 Ls [])
    (H : ∀ p e s m below meth c T, Pos Z y bytes maxL ret n0 p l e rm s m as below meth c T h0 0 0 → Goes p e below s n0 rm.cells rm.slots Q (T.setTop (mkF m 0 Ls []))) : Con l Z y bytes maxL ret rm n0 as h0 Q := by
  intro ws
  refine MetFree.of_bodySF pn hisR ?_
  intro p e s m args below meth c s₁ Bd hml0 hP hK
  obtain ⟨rfl, hZ, hh⟩ := hP
  have X0 : Stand p l e rm s m args below meth c s₁ [] 0 0 := Stand.of_body Bd
  have e0 : s₁.heap = h0 := by rw [← hh, Bd.state]; rfl
  rw [ef]
  exact H p e s m below meth c s₁ ⟨⟨Bd.exec, Bd.bytes, hml0, findClass_of_methodNamed Bd.named, (name_of_methodNamed Bd.named Bd.method).1, Bd.returns, Bd.notSynchronized, hZ, by rw [hh]; exact hn0⟩, [], X0, e0, Fr.nil n0⟩
theorem Pos.sz (P : Pos Z y bytes maxL ret n0 p l e R s m args below meth c T h cells slots) : n0 ≤ h.size := by
  obtain ⟨⟨-, -, -, -, -, -, -, -, hn0⟩, locs, X, rfl, -⟩ := P
  exact Nat.le_trans hn0 X.same.2.1
end Base
namespace G
section Plain
variable {Z : State} {y : MethodName} {bytes : ByteArray} {maxL : Nat} {ret : Option FieldType} {n0 : Nat} {p : Program} {l : Launch} {e : Env} {R : Room} {s : State} {m : MethodId} {args : Array Value} {below : List Frame} {meth : Method} {c : Code} {T : State} {h : Heap} {cells slots kc ks : Nat} {Q : Option Value → Heap → Prop} {pc pc' pcY pcN : Nat} {L L' : Array Slot} {S : List Value} {a0 : Array Value}
theorem iload (P : Pos Z y bytes maxL ret n0 p l e R s m args below meth c T h cells slots) {k : Nat} {v : Int32} (hd : decode bytes pc = .ok (.iload k, 2)) (hl : L[k]? = some (.val (.int v))) (hp : pc + 2 = pc') (k : Goes p e below s n0 kc ks Q (T.setTop (mkF m pc' L (.int v :: S)))) : Goes p e below s n0 kc ks Q (T.setTop (mkF m pc L S)) := by
  obtain ⟨⟨hx, rfl, rfl, hown, hnm, rfl, hlk, hZ, hn0⟩, locs, X, rfl, N⟩ := P
  subst hp
  exact k.via fun t q => XS.iload X.here hx rfl hd hl q
theorem iloadN (P : Pos Z y bytes maxL ret n0 p l e R s m args below meth c T h cells slots) {k : Fin 4} {v : Int32} (hd : decode bytes pc = .ok (.iload_n k, 1)) (hl : L[k.val]? = some (.val (.int v))) (hp : pc + 1 = pc') (k : Goes p e below s n0 kc ks Q (T.setTop (mkF m pc' L (.int v :: S)))) : Goes p e below s n0 kc ks Q (T.setTop (mkF m pc L S)) := by
  obtain ⟨⟨hx, rfl, rfl, hown, hnm, rfl, hlk, hZ, hn0⟩, locs, X, rfl, N⟩ := P
  subst hp
  exact k.via fun t q => XS.iloadN X.here hx rfl hd hl q
theorem lload (P : Pos Z y bytes maxL ret n0 p l e R s m args below meth c T h cells slots) {k : Nat} {v : Int64} (hd : decode bytes pc = .ok (.lload k, 2)) (hl : L[k]? = some (.val (.long v))) (hp : pc + 2 = pc') (k : Goes p e below s n0 kc ks Q (T.setTop (mkF m pc' L (.long v :: S)))) : Goes p e below s n0 kc ks Q (T.setTop (mkF m pc L S)) := by
  obtain ⟨⟨hx, rfl, rfl, hown, hnm, rfl, hlk, hZ, hn0⟩, locs, X, rfl, N⟩ := P
  subst hp
  exact k.via fun t q => XS.lload X.here hx rfl hd hl q
theorem lloadN (P : Pos Z y bytes maxL ret n0 p l e R s m args below meth c T h cells slots) {k : Fin 4} {v : Int64} (hd : decode bytes pc = .ok (.lload_n k, 1)) (hl : L[k.val]? = some (.val (.long v))) (hp : pc + 1 = pc') (k : Goes p e below s n0 kc ks Q (T.setTop (mkF m pc' L (.long v :: S)))) : Goes p e below s n0 kc ks Q (T.setTop (mkF m pc L S)) := by
  obtain ⟨⟨hx, rfl, rfl, hown, hnm, rfl, hlk, hZ, hn0⟩, locs, X, rfl, N⟩ := P
  subst hp
  exact k.via fun t q => XS.lloadN X.here hx rfl hd hl q
theorem aload (P : Pos Z y bytes maxL ret n0 p l e R s m args below meth c T h cells slots) {k : Nat} {v : Value} (hd : decode bytes pc = .ok (.aload k, 2)) (hl : L[k]? = some (.val v)) (hv : v.isRef = true) (hp : pc + 2 = pc') (k : Goes p e below s n0 kc ks Q (T.setTop (mkF m pc' L (v :: S)))) : Goes p e below s n0 kc ks Q (T.setTop (mkF m pc L S)) := by
  obtain ⟨⟨hx, rfl, rfl, hown, hnm, rfl, hlk, hZ, hn0⟩, locs, X, rfl, N⟩ := P
  subst hp
  exact k.via fun t q => XS.aload X.here hx rfl hd hl hv q
theorem aloadN (P : Pos Z y bytes maxL ret n0 p l e R s m args below meth c T h cells slots) {k : Fin 4} {v : Value} (hd : decode bytes pc = .ok (.aload_n k, 1)) (hl : L[k.val]? = some (.val v)) (hv : v.isRef = true) (hp : pc + 1 = pc') (k : Goes p e below s n0 kc ks Q (T.setTop (mkF m pc' L (v :: S)))) : Goes p e below s n0 kc ks Q (T.setTop (mkF m pc L S)) := by
  obtain ⟨⟨hx, rfl, rfl, hown, hnm, rfl, hlk, hZ, hn0⟩, locs, X, rfl, N⟩ := P
  subst hp
  exact k.via fun t q => XS.aloadN X.here hx rfl hd hl hv q
theorem istore (P : Pos Z y bytes maxL ret n0 p l e R s m args below meth c T h cells slots) {k : Nat} {v v' : Int32} (hd : decode bytes pc = .ok (.istore k, 2)) (hv : v = v') (hl : storeLocals L k (.int v') = some L') (hp : pc + 2 = pc') (k : Goes p e below s n0 kc ks Q (T.setTop (mkF m pc' L' S))) : Goes p e below s n0 kc ks Q (T.setTop (mkF m pc L (.int v :: S))) := by
  obtain ⟨⟨hx, rfl, rfl, hown, hnm, rfl, hlk, hZ, hn0⟩, locs, X, rfl, N⟩ := P
  subst hp hv
  exact k.via fun t q => XS.istore X.here hx rfl hd rfl hl q
theorem istoreN (P : Pos Z y bytes maxL ret n0 p l e R s m args below meth c T h cells slots) {k : Fin 4} {v v' : Int32} (hd : decode bytes pc = .ok (.istore_n k, 1)) (hv : v = v') (hl : storeLocals L k.val (.int v') = some L') (hp : pc + 1 = pc') (k : Goes p e below s n0 kc ks Q (T.setTop (mkF m pc' L' S))) : Goes p e below s n0 kc ks Q (T.setTop (mkF m pc L (.int v :: S))) := by
  obtain ⟨⟨hx, rfl, rfl, hown, hnm, rfl, hlk, hZ, hn0⟩, locs, X, rfl, N⟩ := P
  subst hp hv
  exact k.via fun t q => XS.istoreN X.here hx rfl hd rfl hl q
theorem lstore (P : Pos Z y bytes maxL ret n0 p l e R s m args below meth c T h cells slots) {k : Nat} {v v' : Int64} (hd : decode bytes pc = .ok (.lstore k, 2)) (hv : v = v') (hl : storeLocals L k (.long v') = some L') (hp : pc + 2 = pc') (k : Goes p e below s n0 kc ks Q (T.setTop (mkF m pc' L' S))) : Goes p e below s n0 kc ks Q (T.setTop (mkF m pc L (.long v :: S))) := by
  obtain ⟨⟨hx, rfl, rfl, hown, hnm, rfl, hlk, hZ, hn0⟩, locs, X, rfl, N⟩ := P
  subst hp hv
  exact k.via fun t q => XS.lstore X.here hx rfl hd rfl hl q
theorem lstoreN (P : Pos Z y bytes maxL ret n0 p l e R s m args below meth c T h cells slots) {k : Fin 4} {v v' : Int64} (hd : decode bytes pc = .ok (.lstore_n k, 1)) (hv : v = v') (hl : storeLocals L k.val (.long v') = some L') (hp : pc + 1 = pc') (k : Goes p e below s n0 kc ks Q (T.setTop (mkF m pc' L' S))) : Goes p e below s n0 kc ks Q (T.setTop (mkF m pc L (.long v :: S))) := by
  obtain ⟨⟨hx, rfl, rfl, hown, hnm, rfl, hlk, hZ, hn0⟩, locs, X, rfl, N⟩ := P
  subst hp hv
  exact k.via fun t q => XS.lstoreN X.here hx rfl hd rfl hl q
theorem astore (P : Pos Z y bytes maxL ret n0 p l e R s m args below meth c T h cells slots) {k : Nat} {v : Value} (hd : decode bytes pc = .ok (.astore k, 2)) (hv : v.isRef = true) (hl : storeLocals L k v = some L') (hp : pc + 2 = pc') (k : Goes p e below s n0 kc ks Q (T.setTop (mkF m pc' L' S))) : Goes p e below s n0 kc ks Q (T.setTop (mkF m pc L (v :: S))) := by
  obtain ⟨⟨hx, rfl, rfl, hown, hnm, rfl, hlk, hZ, hn0⟩, locs, X, rfl, N⟩ := P
  subst hp
  exact k.via fun t q => XS.astore X.here hx rfl hd rfl hv hl q
theorem astoreN (P : Pos Z y bytes maxL ret n0 p l e R s m args below meth c T h cells slots) {k : Fin 4} {v : Value} (hd : decode bytes pc = .ok (.astore_n k, 1)) (hv : v.isRef = true) (hl : storeLocals L k.val v = some L') (hp : pc + 1 = pc') (k : Goes p e below s n0 kc ks Q (T.setTop (mkF m pc' L' S))) : Goes p e below s n0 kc ks Q (T.setTop (mkF m pc L (v :: S))) := by
  obtain ⟨⟨hx, rfl, rfl, hown, hnm, rfl, hlk, hZ, hn0⟩, locs, X, rfl, N⟩ := P
  subst hp
  exact k.via fun t q => XS.astoreN X.here hx rfl hd rfl hv hl q
theorem iconst (P : Pos Z y bytes maxL ret n0 p l e R s m args below meth c T h cells slots) {i : Int} {v : Int32} (hd : decode bytes pc = .ok (.iconst i, 1)) (hv : Int32.ofInt i = v) (hp : pc + 1 = pc') (k : Goes p e below s n0 kc ks Q (T.setTop (mkF m pc' L (.int v :: S)))) : Goes p e below s n0 kc ks Q (T.setTop (mkF m pc L S)) := by
  obtain ⟨⟨hx, rfl, rfl, hown, hnm, rfl, hlk, hZ, hn0⟩, locs, X, rfl, N⟩ := P
  subst hp hv
  exact k.via fun t q => XS.iconst X.here hx rfl hd q
theorem bipush (P : Pos Z y bytes maxL ret n0 p l e R s m args below meth c T h cells slots) {i : Int} {v : Int32} (hd : decode bytes pc = .ok (.bipush i, 2)) (hv : (Int8.ofInt i).toInt32 = v) (hp : pc + 2 = pc') (k : Goes p e below s n0 kc ks Q (T.setTop (mkF m pc' L (.int v :: S)))) : Goes p e below s n0 kc ks Q (T.setTop (mkF m pc L S)) := by
  obtain ⟨⟨hx, rfl, rfl, hown, hnm, rfl, hlk, hZ, hn0⟩, locs, X, rfl, N⟩ := P
  subst hp hv
  exact k.via fun t q => XS.bipush X.here hx rfl hd q
theorem sipush (P : Pos Z y bytes maxL ret n0 p l e R s m args below meth c T h cells slots) {i : Int} {v : Int32} (hd : decode bytes pc = .ok (.sipush i, 3)) (hv : (Int16.ofInt i).toInt32 = v) (hp : pc + 3 = pc') (k : Goes p e below s n0 kc ks Q (T.setTop (mkF m pc' L (.int v :: S)))) : Goes p e below s n0 kc ks Q (T.setTop (mkF m pc L S)) := by
  obtain ⟨⟨hx, rfl, rfl, hown, hnm, rfl, hlk, hZ, hn0⟩, locs, X, rfl, N⟩ := P
  subst hp hv
  exact k.via fun t q => XS.sipush X.here hx rfl hd q
theorem lconst (P : Pos Z y bytes maxL ret n0 p l e R s m args below meth c T h cells slots) {i : Fin 2} {v : Int64} (hd : decode bytes pc = .ok (.lconst i, 1)) (hv : Int64.ofNat i = v) (hp : pc + 1 = pc') (k : Goes p e below s n0 kc ks Q (T.setTop (mkF m pc' L (.long v :: S)))) : Goes p e below s n0 kc ks Q (T.setTop (mkF m pc L S)) := by
  obtain ⟨⟨hx, rfl, rfl, hown, hnm, rfl, hlk, hZ, hn0⟩, locs, X, rfl, N⟩ := P
  subst hp hv
  exact k.via fun t q => XS.lconst X.here hx rfl hd q
theorem aconstNull (P : Pos Z y bytes maxL ret n0 p l e R s m args below meth c T h cells slots) (hd : decode bytes pc = .ok (.aconst_null, 1)) (hp : pc + 1 = pc') (k : Goes p e below s n0 kc ks Q (T.setTop (mkF m pc' L (.null :: S)))) : Goes p e below s n0 kc ks Q (T.setTop (mkF m pc L S)) := by
  obtain ⟨⟨hx, rfl, rfl, hown, hnm, rfl, hlk, hZ, hn0⟩, locs, X, rfl, N⟩ := P
  subst hp
  exact k.via fun t q => XS.aconstNull X.here hx rfl hd q
theorem iadd (P : Pos Z y bytes maxL ret n0 p l e R s m args below meth c T h cells slots) {x z : Int32} (hd : decode bytes pc = .ok (.iadd, 1)) (hp : pc + 1 = pc') (k : Goes p e below s n0 kc ks Q (T.setTop (mkF m pc' L (.int (x + z) :: S)))) : Goes p e below s n0 kc ks Q (T.setTop (mkF m pc L (.int z :: .int x :: S))) := by
  obtain ⟨⟨hx, rfl, rfl, hown, hnm, rfl, hlk, hZ, hn0⟩, locs, X, rfl, N⟩ := P
  subst hp
  exact k.via fun t q => XS.iadd X.here hx rfl hd rfl q
theorem isub (P : Pos Z y bytes maxL ret n0 p l e R s m args below meth c T h cells slots) {x z : Int32} (hd : decode bytes pc = .ok (.isub, 1)) (hp : pc + 1 = pc') (k : Goes p e below s n0 kc ks Q (T.setTop (mkF m pc' L (.int (x - z) :: S)))) : Goes p e below s n0 kc ks Q (T.setTop (mkF m pc L (.int z :: .int x :: S))) := by
  obtain ⟨⟨hx, rfl, rfl, hown, hnm, rfl, hlk, hZ, hn0⟩, locs, X, rfl, N⟩ := P
  subst hp
  exact k.via fun t q => XS.isub X.here hx rfl hd rfl q
theorem imul (P : Pos Z y bytes maxL ret n0 p l e R s m args below meth c T h cells slots) {x z : Int32} (hd : decode bytes pc = .ok (.imul, 1)) (hp : pc + 1 = pc') (k : Goes p e below s n0 kc ks Q (T.setTop (mkF m pc' L (.int (x * z) :: S)))) : Goes p e below s n0 kc ks Q (T.setTop (mkF m pc L (.int z :: .int x :: S))) := by
  obtain ⟨⟨hx, rfl, rfl, hown, hnm, rfl, hlk, hZ, hn0⟩, locs, X, rfl, N⟩ := P
  subst hp
  exact k.via fun t q => XS.imul X.here hx rfl hd rfl q
theorem iand (P : Pos Z y bytes maxL ret n0 p l e R s m args below meth c T h cells slots) {x z : Int32} (hd : decode bytes pc = .ok (.iand, 1)) (hp : pc + 1 = pc') (k : Goes p e below s n0 kc ks Q (T.setTop (mkF m pc' L (.int (x &&& z) :: S)))) : Goes p e below s n0 kc ks Q (T.setTop (mkF m pc L (.int z :: .int x :: S))) := by
  obtain ⟨⟨hx, rfl, rfl, hown, hnm, rfl, hlk, hZ, hn0⟩, locs, X, rfl, N⟩ := P
  subst hp
  exact k.via fun t q => XS.iand X.here hx rfl hd rfl q
theorem ior (P : Pos Z y bytes maxL ret n0 p l e R s m args below meth c T h cells slots) {x z : Int32} (hd : decode bytes pc = .ok (.ior, 1)) (hp : pc + 1 = pc') (k : Goes p e below s n0 kc ks Q (T.setTop (mkF m pc' L (.int (x ||| z) :: S)))) : Goes p e below s n0 kc ks Q (T.setTop (mkF m pc L (.int z :: .int x :: S))) := by
  obtain ⟨⟨hx, rfl, rfl, hown, hnm, rfl, hlk, hZ, hn0⟩, locs, X, rfl, N⟩ := P
  subst hp
  exact k.via fun t q => XS.ior X.here hx rfl hd rfl q
theorem ixor (P : Pos Z y bytes maxL ret n0 p l e R s m args below meth c T h cells slots) {x z : Int32} (hd : decode bytes pc = .ok (.ixor, 1)) (hp : pc + 1 = pc') (k : Goes p e below s n0 kc ks Q (T.setTop (mkF m pc' L (.int (x ^^^ z) :: S)))) : Goes p e below s n0 kc ks Q (T.setTop (mkF m pc L (.int z :: .int x :: S))) := by
  obtain ⟨⟨hx, rfl, rfl, hown, hnm, rfl, hlk, hZ, hn0⟩, locs, X, rfl, N⟩ := P
  subst hp
  exact k.via fun t q => XS.ixor X.here hx rfl hd rfl q
theorem ishl (P : Pos Z y bytes maxL ret n0 p l e R s m args below meth c T h cells slots) {x z : Int32} (hd : decode bytes pc = .ok (.ishl, 1)) (hp : pc + 1 = pc') (k : Goes p e below s n0 kc ks Q (T.setTop (mkF m pc' L (.int (x <<< (z &&& 31)) :: S)))) : Goes p e below s n0 kc ks Q (T.setTop (mkF m pc L (.int z :: .int x :: S))) := by
  obtain ⟨⟨hx, rfl, rfl, hown, hnm, rfl, hlk, hZ, hn0⟩, locs, X, rfl, N⟩ := P
  subst hp
  exact k.via fun t q => XS.ishl X.here hx rfl hd rfl q
theorem ishr (P : Pos Z y bytes maxL ret n0 p l e R s m args below meth c T h cells slots) {x z : Int32} (hd : decode bytes pc = .ok (.ishr, 1)) (hp : pc + 1 = pc') (k : Goes p e below s n0 kc ks Q (T.setTop (mkF m pc' L (.int (x >>> (z &&& 31)) :: S)))) : Goes p e below s n0 kc ks Q (T.setTop (mkF m pc L (.int z :: .int x :: S))) := by
  obtain ⟨⟨hx, rfl, rfl, hown, hnm, rfl, hlk, hZ, hn0⟩, locs, X, rfl, N⟩ := P
  subst hp
  exact k.via fun t q => XS.ishr X.here hx rfl hd rfl q
theorem iushr (P : Pos Z y bytes maxL ret n0 p l e R s m args below meth c T h cells slots) {x z : Int32} (hd : decode bytes pc = .ok (.iushr, 1)) (hp : pc + 1 = pc') (k : Goes p e below s n0 kc ks Q (T.setTop (mkF m pc' L (.int ((x.toUInt32 >>> (z &&& 31).toUInt32).toInt32) :: S)))) : Goes p e below s n0 kc ks Q (T.setTop (mkF m pc L (.int z :: .int x :: S))) := by
  obtain ⟨⟨hx, rfl, rfl, hown, hnm, rfl, hlk, hZ, hn0⟩, locs, X, rfl, N⟩ := P
  subst hp
  exact k.via fun t q => XS.iushr X.here hx rfl hd rfl q
theorem ladd (P : Pos Z y bytes maxL ret n0 p l e R s m args below meth c T h cells slots) {x z : Int64} (hd : decode bytes pc = .ok (.ladd, 1)) (hp : pc + 1 = pc') (k : Goes p e below s n0 kc ks Q (T.setTop (mkF m pc' L (.long (x + z) :: S)))) : Goes p e below s n0 kc ks Q (T.setTop (mkF m pc L (.long z :: .long x :: S))) := by
  obtain ⟨⟨hx, rfl, rfl, hown, hnm, rfl, hlk, hZ, hn0⟩, locs, X, rfl, N⟩ := P
  subst hp
  exact k.via fun t q => XS.ladd X.here hx rfl hd rfl q
theorem lsub (P : Pos Z y bytes maxL ret n0 p l e R s m args below meth c T h cells slots) {x z : Int64} (hd : decode bytes pc = .ok (.lsub, 1)) (hp : pc + 1 = pc') (k : Goes p e below s n0 kc ks Q (T.setTop (mkF m pc' L (.long (x - z) :: S)))) : Goes p e below s n0 kc ks Q (T.setTop (mkF m pc L (.long z :: .long x :: S))) := by
  obtain ⟨⟨hx, rfl, rfl, hown, hnm, rfl, hlk, hZ, hn0⟩, locs, X, rfl, N⟩ := P
  subst hp
  exact k.via fun t q => XS.lsub X.here hx rfl hd rfl q
theorem lmul (P : Pos Z y bytes maxL ret n0 p l e R s m args below meth c T h cells slots) {x z : Int64} (hd : decode bytes pc = .ok (.lmul, 1)) (hp : pc + 1 = pc') (k : Goes p e below s n0 kc ks Q (T.setTop (mkF m pc' L (.long (x * z) :: S)))) : Goes p e below s n0 kc ks Q (T.setTop (mkF m pc L (.long z :: .long x :: S))) := by
  obtain ⟨⟨hx, rfl, rfl, hown, hnm, rfl, hlk, hZ, hn0⟩, locs, X, rfl, N⟩ := P
  subst hp
  exact k.via fun t q => XS.lmul X.here hx rfl hd rfl q
theorem land (P : Pos Z y bytes maxL ret n0 p l e R s m args below meth c T h cells slots) {x z : Int64} (hd : decode bytes pc = .ok (.land, 1)) (hp : pc + 1 = pc') (k : Goes p e below s n0 kc ks Q (T.setTop (mkF m pc' L (.long (x &&& z) :: S)))) : Goes p e below s n0 kc ks Q (T.setTop (mkF m pc L (.long z :: .long x :: S))) := by
  obtain ⟨⟨hx, rfl, rfl, hown, hnm, rfl, hlk, hZ, hn0⟩, locs, X, rfl, N⟩ := P
  subst hp
  exact k.via fun t q => XS.land X.here hx rfl hd rfl q
theorem lor (P : Pos Z y bytes maxL ret n0 p l e R s m args below meth c T h cells slots) {x z : Int64} (hd : decode bytes pc = .ok (.lor, 1)) (hp : pc + 1 = pc') (k : Goes p e below s n0 kc ks Q (T.setTop (mkF m pc' L (.long (x ||| z) :: S)))) : Goes p e below s n0 kc ks Q (T.setTop (mkF m pc L (.long z :: .long x :: S))) := by
  obtain ⟨⟨hx, rfl, rfl, hown, hnm, rfl, hlk, hZ, hn0⟩, locs, X, rfl, N⟩ := P
  subst hp
  exact k.via fun t q => XS.lor X.here hx rfl hd rfl q
theorem lxor (P : Pos Z y bytes maxL ret n0 p l e R s m args below meth c T h cells slots) {x z : Int64} (hd : decode bytes pc = .ok (.lxor, 1)) (hp : pc + 1 = pc') (k : Goes p e below s n0 kc ks Q (T.setTop (mkF m pc' L (.long (x ^^^ z) :: S)))) : Goes p e below s n0 kc ks Q (T.setTop (mkF m pc L (.long z :: .long x :: S))) := by
  obtain ⟨⟨hx, rfl, rfl, hown, hnm, rfl, hlk, hZ, hn0⟩, locs, X, rfl, N⟩ := P
  subst hp
  exact k.via fun t q => XS.lxor X.here hx rfl hd rfl q
theorem lshl (P : Pos Z y bytes maxL ret n0 p l e R s m args below meth c T h cells slots) {x : Int64} {z : Int32} (hd : decode bytes pc = .ok (.lshl, 1)) (hp : pc + 1 = pc') (k : Goes p e below s n0 kc ks Q (T.setTop (mkF m pc' L (.long (x <<< (z &&& 0x3f).toInt64) :: S)))) : Goes p e below s n0 kc ks Q (T.setTop (mkF m pc L (.int z :: .long x :: S))) := by
  obtain ⟨⟨hx, rfl, rfl, hown, hnm, rfl, hlk, hZ, hn0⟩, locs, X, rfl, N⟩ := P
  subst hp
  exact k.via fun t q => XS.lshl X.here hx rfl hd rfl q
theorem lshr (P : Pos Z y bytes maxL ret n0 p l e R s m args below meth c T h cells slots) {x : Int64} {z : Int32} (hd : decode bytes pc = .ok (.lshr, 1)) (hp : pc + 1 = pc') (k : Goes p e below s n0 kc ks Q (T.setTop (mkF m pc' L (.long (x >>> (z &&& 0x3f).toInt64) :: S)))) : Goes p e below s n0 kc ks Q (T.setTop (mkF m pc L (.int z :: .long x :: S))) := by
  obtain ⟨⟨hx, rfl, rfl, hown, hnm, rfl, hlk, hZ, hn0⟩, locs, X, rfl, N⟩ := P
  subst hp
  exact k.via fun t q => XS.lshr X.here hx rfl hd rfl q
theorem lushr (P : Pos Z y bytes maxL ret n0 p l e R s m args below meth c T h cells slots) {x : Int64} {z : Int32} (hd : decode bytes pc = .ok (.lushr, 1)) (hp : pc + 1 = pc') (k : Goes p e below s n0 kc ks Q (T.setTop (mkF m pc' L (.long ((x.toUInt64 >>> (z &&& 0x3f).toInt64.toUInt64).toInt64) :: S)))) : Goes p e below s n0 kc ks Q (T.setTop (mkF m pc L (.int z :: .long x :: S))) := by
  obtain ⟨⟨hx, rfl, rfl, hown, hnm, rfl, hlk, hZ, hn0⟩, locs, X, rfl, N⟩ := P
  subst hp
  exact k.via fun t q => XS.lushr X.here hx rfl hd rfl q
theorem idiv (P : Pos Z y bytes maxL ret n0 p l e R s m args below meth c T h cells slots) {x z : Int32} (hd : decode bytes pc = .ok (.idiv, 1)) (hz : z ≠ 0) (hp : pc + 1 = pc') (k : Goes p e below s n0 kc ks Q (T.setTop (mkF m pc' L (.int (x / z) :: S)))) : Goes p e below s n0 kc ks Q (T.setTop (mkF m pc L (.int z :: .int x :: S))) := by
  obtain ⟨⟨hx, rfl, rfl, hown, hnm, rfl, hlk, hZ, hn0⟩, locs, X, rfl, N⟩ := P
  subst hp
  exact k.via fun t q => XS.idiv X.here hx rfl hd rfl hz q
theorem irem (P : Pos Z y bytes maxL ret n0 p l e R s m args below meth c T h cells slots) {x z : Int32} (hd : decode bytes pc = .ok (.irem, 1)) (hz : z ≠ 0) (hp : pc + 1 = pc') (k : Goes p e below s n0 kc ks Q (T.setTop (mkF m pc' L (.int (x % z) :: S)))) : Goes p e below s n0 kc ks Q (T.setTop (mkF m pc L (.int z :: .int x :: S))) := by
  obtain ⟨⟨hx, rfl, rfl, hown, hnm, rfl, hlk, hZ, hn0⟩, locs, X, rfl, N⟩ := P
  subst hp
  exact k.via fun t q => iremM X hx rfl hd rfl hz q
theorem ldiv (P : Pos Z y bytes maxL ret n0 p l e R s m args below meth c T h cells slots) {x z : Int64} (hd : decode bytes pc = .ok (.ldiv, 1)) (hz : z ≠ 0) (hp : pc + 1 = pc') (k : Goes p e below s n0 kc ks Q (T.setTop (mkF m pc' L (.long (x / z) :: S)))) : Goes p e below s n0 kc ks Q (T.setTop (mkF m pc L (.long z :: .long x :: S))) := by
  obtain ⟨⟨hx, rfl, rfl, hown, hnm, rfl, hlk, hZ, hn0⟩, locs, X, rfl, N⟩ := P
  subst hp
  exact k.via fun t q => XS.ldiv X.here hx rfl hd rfl hz q
theorem lrem (P : Pos Z y bytes maxL ret n0 p l e R s m args below meth c T h cells slots) {x z : Int64} (hd : decode bytes pc = .ok (.lrem, 1)) (hz : z ≠ 0) (hp : pc + 1 = pc') (k : Goes p e below s n0 kc ks Q (T.setTop (mkF m pc' L (.long (x % z) :: S)))) : Goes p e below s n0 kc ks Q (T.setTop (mkF m pc L (.long z :: .long x :: S))) := by
  obtain ⟨⟨hx, rfl, rfl, hown, hnm, rfl, hlk, hZ, hn0⟩, locs, X, rfl, N⟩ := P
  subst hp
  exact k.via fun t q => XS.lrem X.here hx rfl hd rfl hz (by rw [lrem_mod]; exact q)
theorem ineg (P : Pos Z y bytes maxL ret n0 p l e R s m args below meth c T h cells slots) {x : Int32} (hd : decode bytes pc = .ok (.ineg, 1)) (hp : pc + 1 = pc') (k : Goes p e below s n0 kc ks Q (T.setTop (mkF m pc' L (.int (-x) :: S)))) : Goes p e below s n0 kc ks Q (T.setTop (mkF m pc L (.int x :: S))) := by
  obtain ⟨⟨hx, rfl, rfl, hown, hnm, rfl, hlk, hZ, hn0⟩, locs, X, rfl, N⟩ := P
  subst hp
  exact k.via fun t q => XS.ineg X.here hx rfl hd rfl q
theorem lneg (P : Pos Z y bytes maxL ret n0 p l e R s m args below meth c T h cells slots) {x : Int64} (hd : decode bytes pc = .ok (.lneg, 1)) (hp : pc + 1 = pc') (k : Goes p e below s n0 kc ks Q (T.setTop (mkF m pc' L (.long (-x) :: S)))) : Goes p e below s n0 kc ks Q (T.setTop (mkF m pc L (.long x :: S))) := by
  obtain ⟨⟨hx, rfl, rfl, hown, hnm, rfl, hlk, hZ, hn0⟩, locs, X, rfl, N⟩ := P
  subst hp
  exact k.via fun t q => XS.lneg X.here hx rfl hd rfl q
theorem i2l (P : Pos Z y bytes maxL ret n0 p l e R s m args below meth c T h cells slots) {x : Int32} (hd : decode bytes pc = .ok (.i2l, 1)) (hp : pc + 1 = pc') (k : Goes p e below s n0 kc ks Q (T.setTop (mkF m pc' L (.long (x.toInt64) :: S)))) : Goes p e below s n0 kc ks Q (T.setTop (mkF m pc L (.int x :: S))) := by
  obtain ⟨⟨hx, rfl, rfl, hown, hnm, rfl, hlk, hZ, hn0⟩, locs, X, rfl, N⟩ := P
  subst hp
  exact k.via fun t q => XS.i2l X.here hx rfl hd rfl q
theorem l2i (P : Pos Z y bytes maxL ret n0 p l e R s m args below meth c T h cells slots) {x : Int64} (hd : decode bytes pc = .ok (.l2i, 1)) (hp : pc + 1 = pc') (k : Goes p e below s n0 kc ks Q (T.setTop (mkF m pc' L (.int (x.toInt32) :: S)))) : Goes p e below s n0 kc ks Q (T.setTop (mkF m pc L (.long x :: S))) := by
  obtain ⟨⟨hx, rfl, rfl, hown, hnm, rfl, hlk, hZ, hn0⟩, locs, X, rfl, N⟩ := P
  subst hp
  exact k.via fun t q => XS.l2i X.here hx rfl hd rfl q
theorem i2b (P : Pos Z y bytes maxL ret n0 p l e R s m args below meth c T h cells slots) {x : Int32} (hd : decode bytes pc = .ok (.i2b, 1)) (hp : pc + 1 = pc') (k : Goes p e below s n0 kc ks Q (T.setTop (mkF m pc' L (.int (x.toInt8.toInt32) :: S)))) : Goes p e below s n0 kc ks Q (T.setTop (mkF m pc L (.int x :: S))) := by
  obtain ⟨⟨hx, rfl, rfl, hown, hnm, rfl, hlk, hZ, hn0⟩, locs, X, rfl, N⟩ := P
  subst hp
  exact k.via fun t q => XS.i2b X.here hx rfl hd rfl q
theorem i2s (P : Pos Z y bytes maxL ret n0 p l e R s m args below meth c T h cells slots) {x : Int32} (hd : decode bytes pc = .ok (.i2s, 1)) (hp : pc + 1 = pc') (k : Goes p e below s n0 kc ks Q (T.setTop (mkF m pc' L (.int (x.toInt16.toInt32) :: S)))) : Goes p e below s n0 kc ks Q (T.setTop (mkF m pc L (.int x :: S))) := by
  obtain ⟨⟨hx, rfl, rfl, hown, hnm, rfl, hlk, hZ, hn0⟩, locs, X, rfl, N⟩ := P
  subst hp
  exact k.via fun t q => XS.i2s X.here hx rfl hd rfl q
theorem i2c (P : Pos Z y bytes maxL ret n0 p l e R s m args below meth c T h cells slots) {x : Int32} (hd : decode bytes pc = .ok (.i2c, 1)) (hp : pc + 1 = pc') (k : Goes p e below s n0 kc ks Q (T.setTop (mkF m pc' L (.int (x.toUInt32.toUInt16.toUInt32.toInt32) :: S)))) : Goes p e below s n0 kc ks Q (T.setTop (mkF m pc L (.int x :: S))) := by
  obtain ⟨⟨hx, rfl, rfl, hown, hnm, rfl, hlk, hZ, hn0⟩, locs, X, rfl, N⟩ := P
  subst hp
  exact k.via fun t q => XS.i2c X.here hx rfl hd rfl q
theorem lcmp (P : Pos Z y bytes maxL ret n0 p l e R s m args below meth c T h cells slots) {x z : Int64} (hd : decode bytes pc = .ok (.lcmp, 1)) (hp : pc + 1 = pc') (k : Goes p e below s n0 kc ks Q (T.setTop (mkF m pc' L (.int (lcmpW x z) :: S)))) : Goes p e below s n0 kc ks Q (T.setTop (mkF m pc L (.long z :: .long x :: S))) := by
  obtain ⟨⟨hx, rfl, rfl, hown, hnm, rfl, hlk, hZ, hn0⟩, locs, X, rfl, N⟩ := P
  subst hp
  exact k.via fun t q => XS.lcmp X.here hx rfl hd rfl q
theorem iinc (P : Pos Z y bytes maxL ret n0 p l e R s m args below meth c T h cells slots) {k : Nat} {i : Int} {x v' : Int32} (hd : decode bytes pc = .ok (.iinc k i, 3)) (hl : L[k]? = some (.val (.int x))) (hv : x + Int32.ofInt i = v') (hl' : storeLocals L k (.int v') = some L') (hp : pc + 3 = pc') (k : Goes p e below s n0 kc ks Q (T.setTop (mkF m pc' L' S))) : Goes p e below s n0 kc ks Q (T.setTop (mkF m pc L S)) := by
  obtain ⟨⟨hx, rfl, rfl, hown, hnm, rfl, hlk, hZ, hn0⟩, locs, X, rfl, N⟩ := P
  subst hp hv
  exact k.via fun t q => XS.iinc X.here hx rfl hd hl hl' q
theorem dup (P : Pos Z y bytes maxL ret n0 p l e R s m args below meth c T h cells slots) {v : Value} (hd : decode bytes pc = .ok (.dup, 1)) (hc : v.category = 1) (hp : pc + 1 = pc') (k : Goes p e below s n0 kc ks Q (T.setTop (mkF m pc' L (v :: v :: S)))) : Goes p e below s n0 kc ks Q (T.setTop (mkF m pc L (v :: S))) := by
  obtain ⟨⟨hx, rfl, rfl, hown, hnm, rfl, hlk, hZ, hn0⟩, locs, X, rfl, N⟩ := P
  subst hp
  exact k.via fun t q => XS.dup X.here hx rfl hd rfl hc q
theorem pop (P : Pos Z y bytes maxL ret n0 p l e R s m args below meth c T h cells slots) {v : Value} (hd : decode bytes pc = .ok (.pop, 1)) (hc : v.category = 1) (hp : pc + 1 = pc') (k : Goes p e below s n0 kc ks Q (T.setTop (mkF m pc' L S))) : Goes p e below s n0 kc ks Q (T.setTop (mkF m pc L (v :: S))) := by
  obtain ⟨⟨hx, rfl, rfl, hown, hnm, rfl, hlk, hZ, hn0⟩, locs, X, rfl, N⟩ := P
  subst hp
  exact k.via fun t q => XS.pop X.here hx rfl hd rfl hc q
theorem dupX1 (P : Pos Z y bytes maxL ret n0 p l e R s m args below meth c T h cells slots) {v u : Value} (hd : decode bytes pc = .ok (.dup_x1, 1)) (hc : v.category = 1) (hc' : u.category = 1) (hp : pc + 1 = pc') (k : Goes p e below s n0 kc ks Q (T.setTop (mkF m pc' L (v :: u :: v :: S)))) : Goes p e below s n0 kc ks Q (T.setTop (mkF m pc L (v :: u :: S))) := by
  obtain ⟨⟨hx, rfl, rfl, hown, hnm, rfl, hlk, hZ, hn0⟩, locs, X, rfl, N⟩ := P
  subst hp
  exact k.via fun t q => XS.dupX1 X.here hx rfl hd rfl hc hc' q
theorem dup2 (P : Pos Z y bytes maxL ret n0 p l e R s m args below meth c T h cells slots) {v u : Value} (hd : decode bytes pc = .ok (.dup2, 1)) (hc : v.category = 1) (hc' : u.category = 1) (hp : pc + 1 = pc') (k : Goes p e below s n0 kc ks Q (T.setTop (mkF m pc' L (v :: u :: v :: u :: S)))) : Goes p e below s n0 kc ks Q (T.setTop (mkF m pc L (v :: u :: S))) := by
  obtain ⟨⟨hx, rfl, rfl, hown, hnm, rfl, hlk, hZ, hn0⟩, locs, X, rfl, N⟩ := P
  subst hp
  exact k.via fun t q => XT.dup2 X.here hx rfl hd rfl hc hc' q
theorem pop2L (P : Pos Z y bytes maxL ret n0 p l e R s m args below meth c T h cells slots) {v : Int64} (hd : decode bytes pc = .ok (.pop2, 1)) (hp : pc + 1 = pc') (k : Goes p e below s n0 kc ks Q (T.setTop (mkF m pc' L S))) : Goes p e below s n0 kc ks Q (T.setTop (mkF m pc L (.long v :: S))) := by
  obtain ⟨⟨hx, rfl, rfl, hown, hnm, rfl, hlk, hZ, hn0⟩, locs, X, rfl, N⟩ := P
  subst hp
  refine k.via fun t q => ?_
  jvm_step X.here [X.here.top, hx, hd, Value.category]
  exact q
theorem goto (P : Pos Z y bytes maxL ret n0 p l e R s m args below meth c T h cells slots) {o : Int} (hd : decode bytes pc = .ok (.goto o, 3)) (ho : 0 ≤ (pc : Int) + o) (hp : ((pc : Int) + o).toNat = pc') (k : Goes p e below s n0 kc ks Q (T.setTop (mkF m pc' L S))) : Goes p e below s n0 kc ks Q (T.setTop (mkF m pc L S)) := by
  obtain ⟨⟨hx, rfl, rfl, hown, hnm, rfl, hlk, hZ, hn0⟩, locs, X, rfl, N⟩ := P
  exact k.via fun t q => XS.goto X.here hx rfl (pc0 := pc) (pc' := pc') rfl hd ho hp q
theorem icmp_lt (P : Pos Z y bytes maxL ret n0 p l e R s m args below meth c T h cells slots) {x z : Int32} {o : Int} (hd : decode bytes pc = .ok (.if_icmp .lt o, 3)) (ho : 0 ≤ (pc : Int) + o) (hY : ((pc : Int) + o).toNat = pcY) (hN : pc + 3 = pcN) (kY : x < z → Goes p e below s n0 kc ks Q (T.setTop (mkF m pcY L S))) (kN : ¬ x < z → Goes p e below s n0 kc ks Q (T.setTop (mkF m pcN L S))) : Goes p e below s n0 kc ks Q (T.setTop (mkF m pc L (.int z :: .int x :: S))) := by
  obtain ⟨⟨hx, rfl, rfl, hown, hnm, rfl, hlk, hZ, hn0⟩, locs, X, rfl, N⟩ := P
  by_cases q : x < z
  · exact (kY q).via fun t r => XS.icmpYes X.here hx rfl (pc0 := pc) (pc' := pcY) rfl hd rfl (tlt q).1 ho hY r
  · subst hN
    exact (kN q).via fun t r => XS.icmpNo X.here hx rfl hd rfl (flt q).1 r
theorem if_lt (P : Pos Z y bytes maxL ret n0 p l e R s m args below meth c T h cells slots) {x : Int32} {o : Int} (hd : decode bytes pc = .ok (.ifCond .lt o, 3)) (ho : 0 ≤ (pc : Int) + o) (hY : ((pc : Int) + o).toNat = pcY) (hN : pc + 3 = pcN) (kY : x < 0 → Goes p e below s n0 kc ks Q (T.setTop (mkF m pcY L S))) (kN : ¬ x < 0 → Goes p e below s n0 kc ks Q (T.setTop (mkF m pcN L S))) : Goes p e below s n0 kc ks Q (T.setTop (mkF m pc L (.int x :: S))) := by
  obtain ⟨⟨hx, rfl, rfl, hown, hnm, rfl, hlk, hZ, hn0⟩, locs, X, rfl, N⟩ := P
  by_cases q : x < 0
  · exact (kY q).via fun t r => XS.ifYes X.here hx rfl (pc0 := pc) (pc' := pcY) rfl hd rfl ((if0 _ _).trans (tlt q).1) ho hY r
  · subst hN
    exact (kN q).via fun t r => XS.ifNo X.here hx rfl hd rfl ((if0 _ _).trans (flt q).1) r
theorem icmp_ge (P : Pos Z y bytes maxL ret n0 p l e R s m args below meth c T h cells slots) {x z : Int32} {o : Int} (hd : decode bytes pc = .ok (.if_icmp .ge o, 3)) (ho : 0 ≤ (pc : Int) + o) (hY : ((pc : Int) + o).toNat = pcY) (hN : pc + 3 = pcN) (kY : ¬ x < z → Goes p e below s n0 kc ks Q (T.setTop (mkF m pcY L S))) (kN : x < z → Goes p e below s n0 kc ks Q (T.setTop (mkF m pcN L S))) : Goes p e below s n0 kc ks Q (T.setTop (mkF m pc L (.int z :: .int x :: S))) := by
  obtain ⟨⟨hx, rfl, rfl, hown, hnm, rfl, hlk, hZ, hn0⟩, locs, X, rfl, N⟩ := P
  by_cases q : x < z
  · subst hN
    exact (kN q).via fun t r => XS.icmpNo X.here hx rfl hd rfl (tlt q).2.1 r
  · exact (kY q).via fun t r => XS.icmpYes X.here hx rfl (pc0 := pc) (pc' := pcY) rfl hd rfl (flt q).2.1 ho hY r
theorem if_ge (P : Pos Z y bytes maxL ret n0 p l e R s m args below meth c T h cells slots) {x : Int32} {o : Int} (hd : decode bytes pc = .ok (.ifCond .ge o, 3)) (ho : 0 ≤ (pc : Int) + o) (hY : ((pc : Int) + o).toNat = pcY) (hN : pc + 3 = pcN) (kY : ¬ x < 0 → Goes p e below s n0 kc ks Q (T.setTop (mkF m pcY L S))) (kN : x < 0 → Goes p e below s n0 kc ks Q (T.setTop (mkF m pcN L S))) : Goes p e below s n0 kc ks Q (T.setTop (mkF m pc L (.int x :: S))) := by
  obtain ⟨⟨hx, rfl, rfl, hown, hnm, rfl, hlk, hZ, hn0⟩, locs, X, rfl, N⟩ := P
  by_cases q : x < 0
  · subst hN
    exact (kN q).via fun t r => XS.ifNo X.here hx rfl hd rfl ((if0 _ _).trans (tlt q).2.1) r
  · exact (kY q).via fun t r => XS.ifYes X.here hx rfl (pc0 := pc) (pc' := pcY) rfl hd rfl ((if0 _ _).trans (flt q).2.1) ho hY r
theorem icmp_gt (P : Pos Z y bytes maxL ret n0 p l e R s m args below meth c T h cells slots) {x z : Int32} {o : Int} (hd : decode bytes pc = .ok (.if_icmp .gt o, 3)) (ho : 0 ≤ (pc : Int) + o) (hY : ((pc : Int) + o).toNat = pcY) (hN : pc + 3 = pcN) (kY : z < x → Goes p e below s n0 kc ks Q (T.setTop (mkF m pcY L S))) (kN : ¬ z < x → Goes p e below s n0 kc ks Q (T.setTop (mkF m pcN L S))) : Goes p e below s n0 kc ks Q (T.setTop (mkF m pc L (.int z :: .int x :: S))) := by
  obtain ⟨⟨hx, rfl, rfl, hown, hnm, rfl, hlk, hZ, hn0⟩, locs, X, rfl, N⟩ := P
  by_cases q : z < x
  · exact (kY q).via fun t r => XS.icmpYes X.here hx rfl (pc0 := pc) (pc' := pcY) rfl hd rfl (tlt q).2.2.1 ho hY r
  · subst hN
    exact (kN q).via fun t r => XS.icmpNo X.here hx rfl hd rfl (flt q).2.2.1 r
theorem if_gt (P : Pos Z y bytes maxL ret n0 p l e R s m args below meth c T h cells slots) {x : Int32} {o : Int} (hd : decode bytes pc = .ok (.ifCond .gt o, 3)) (ho : 0 ≤ (pc : Int) + o) (hY : ((pc : Int) + o).toNat = pcY) (hN : pc + 3 = pcN) (kY : 0 < x → Goes p e below s n0 kc ks Q (T.setTop (mkF m pcY L S))) (kN : ¬ 0 < x → Goes p e below s n0 kc ks Q (T.setTop (mkF m pcN L S))) : Goes p e below s n0 kc ks Q (T.setTop (mkF m pc L (.int x :: S))) := by
  obtain ⟨⟨hx, rfl, rfl, hown, hnm, rfl, hlk, hZ, hn0⟩, locs, X, rfl, N⟩ := P
  by_cases q : 0 < x
  · exact (kY q).via fun t r => XS.ifYes X.here hx rfl (pc0 := pc) (pc' := pcY) rfl hd rfl ((if0 _ _).trans (tlt q).2.2.1) ho hY r
  · subst hN
    exact (kN q).via fun t r => XS.ifNo X.here hx rfl hd rfl ((if0 _ _).trans (flt q).2.2.1) r
theorem icmp_le (P : Pos Z y bytes maxL ret n0 p l e R s m args below meth c T h cells slots) {x z : Int32} {o : Int} (hd : decode bytes pc = .ok (.if_icmp .le o, 3)) (ho : 0 ≤ (pc : Int) + o) (hY : ((pc : Int) + o).toNat = pcY) (hN : pc + 3 = pcN) (kY : ¬ z < x → Goes p e below s n0 kc ks Q (T.setTop (mkF m pcY L S))) (kN : z < x → Goes p e below s n0 kc ks Q (T.setTop (mkF m pcN L S))) : Goes p e below s n0 kc ks Q (T.setTop (mkF m pc L (.int z :: .int x :: S))) := by
  obtain ⟨⟨hx, rfl, rfl, hown, hnm, rfl, hlk, hZ, hn0⟩, locs, X, rfl, N⟩ := P
  by_cases q : z < x
  · subst hN
    exact (kN q).via fun t r => XS.icmpNo X.here hx rfl hd rfl (tlt q).2.2.2 r
  · exact (kY q).via fun t r => XS.icmpYes X.here hx rfl (pc0 := pc) (pc' := pcY) rfl hd rfl (flt q).2.2.2 ho hY r
theorem if_le (P : Pos Z y bytes maxL ret n0 p l e R s m args below meth c T h cells slots) {x : Int32} {o : Int} (hd : decode bytes pc = .ok (.ifCond .le o, 3)) (ho : 0 ≤ (pc : Int) + o) (hY : ((pc : Int) + o).toNat = pcY) (hN : pc + 3 = pcN) (kY : ¬ 0 < x → Goes p e below s n0 kc ks Q (T.setTop (mkF m pcY L S))) (kN : 0 < x → Goes p e below s n0 kc ks Q (T.setTop (mkF m pcN L S))) : Goes p e below s n0 kc ks Q (T.setTop (mkF m pc L (.int x :: S))) := by
  obtain ⟨⟨hx, rfl, rfl, hown, hnm, rfl, hlk, hZ, hn0⟩, locs, X, rfl, N⟩ := P
  by_cases q : 0 < x
  · subst hN
    exact (kN q).via fun t r => XS.ifNo X.here hx rfl hd rfl ((if0 _ _).trans (tlt q).2.2.2) r
  · exact (kY q).via fun t r => XS.ifYes X.here hx rfl (pc0 := pc) (pc' := pcY) rfl hd rfl ((if0 _ _).trans (flt q).2.2.2) ho hY r
theorem icmp_eq (P : Pos Z y bytes maxL ret n0 p l e R s m args below meth c T h cells slots) {x z : Int32} {o : Int} (hd : decode bytes pc = .ok (.if_icmp .eq o, 3)) (ho : 0 ≤ (pc : Int) + o) (hY : ((pc : Int) + o).toNat = pcY) (hN : pc + 3 = pcN) (kY : x = z → Goes p e below s n0 kc ks Q (T.setTop (mkF m pcY L S))) (kN : ¬ x = z → Goes p e below s n0 kc ks Q (T.setTop (mkF m pcN L S))) : Goes p e below s n0 kc ks Q (T.setTop (mkF m pc L (.int z :: .int x :: S))) := by
  obtain ⟨⟨hx, rfl, rfl, hown, hnm, rfl, hlk, hZ, hn0⟩, locs, X, rfl, N⟩ := P
  by_cases q : x = z
  · exact (kY q).via fun t r => XS.icmpYes X.here hx rfl (pc0 := pc) (pc' := pcY) rfl hd rfl (teq q).1 ho hY r
  · subst hN
    exact (kN q).via fun t r => XS.icmpNo X.here hx rfl hd rfl (feq q).1 r
theorem if_eq (P : Pos Z y bytes maxL ret n0 p l e R s m args below meth c T h cells slots) {x : Int32} {o : Int} (hd : decode bytes pc = .ok (.ifCond .eq o, 3)) (ho : 0 ≤ (pc : Int) + o) (hY : ((pc : Int) + o).toNat = pcY) (hN : pc + 3 = pcN) (kY : x = 0 → Goes p e below s n0 kc ks Q (T.setTop (mkF m pcY L S))) (kN : ¬ x = 0 → Goes p e below s n0 kc ks Q (T.setTop (mkF m pcN L S))) : Goes p e below s n0 kc ks Q (T.setTop (mkF m pc L (.int x :: S))) := by
  obtain ⟨⟨hx, rfl, rfl, hown, hnm, rfl, hlk, hZ, hn0⟩, locs, X, rfl, N⟩ := P
  by_cases q : x = 0
  · exact (kY q).via fun t r => XS.ifYes X.here hx rfl (pc0 := pc) (pc' := pcY) rfl hd rfl ((if0 _ _).trans (teq q).1) ho hY r
  · subst hN
    exact (kN q).via fun t r => XS.ifNo X.here hx rfl hd rfl ((if0 _ _).trans (feq q).1) r
theorem icmp_ne (P : Pos Z y bytes maxL ret n0 p l e R s m args below meth c T h cells slots) {x z : Int32} {o : Int} (hd : decode bytes pc = .ok (.if_icmp .ne o, 3)) (ho : 0 ≤ (pc : Int) + o) (hY : ((pc : Int) + o).toNat = pcY) (hN : pc + 3 = pcN) (kY : ¬ x = z → Goes p e below s n0 kc ks Q (T.setTop (mkF m pcY L S))) (kN : x = z → Goes p e below s n0 kc ks Q (T.setTop (mkF m pcN L S))) : Goes p e below s n0 kc ks Q (T.setTop (mkF m pc L (.int z :: .int x :: S))) := by
  obtain ⟨⟨hx, rfl, rfl, hown, hnm, rfl, hlk, hZ, hn0⟩, locs, X, rfl, N⟩ := P
  by_cases q : x = z
  · subst hN
    exact (kN q).via fun t r => XS.icmpNo X.here hx rfl hd rfl (teq q).2 r
  · exact (kY q).via fun t r => XS.icmpYes X.here hx rfl (pc0 := pc) (pc' := pcY) rfl hd rfl (feq q).2 ho hY r
theorem if_ne (P : Pos Z y bytes maxL ret n0 p l e R s m args below meth c T h cells slots) {x : Int32} {o : Int} (hd : decode bytes pc = .ok (.ifCond .ne o, 3)) (ho : 0 ≤ (pc : Int) + o) (hY : ((pc : Int) + o).toNat = pcY) (hN : pc + 3 = pcN) (kY : ¬ x = 0 → Goes p e below s n0 kc ks Q (T.setTop (mkF m pcY L S))) (kN : x = 0 → Goes p e below s n0 kc ks Q (T.setTop (mkF m pcN L S))) : Goes p e below s n0 kc ks Q (T.setTop (mkF m pc L (.int x :: S))) := by
  obtain ⟨⟨hx, rfl, rfl, hown, hnm, rfl, hlk, hZ, hn0⟩, locs, X, rfl, N⟩ := P
  by_cases q : x = 0
  · subst hN
    exact (kN q).via fun t r => XS.ifNo X.here hx rfl hd rfl ((if0 _ _).trans (teq q).2) r
  · exact (kY q).via fun t r => XS.ifYes X.here hx rfl (pc0 := pc) (pc' := pcY) rfl hd rfl ((if0 _ _).trans (feq q).2) ho hY r
theorem lif_lt (P : Pos Z y bytes maxL ret n0 p l e R s m args below meth c T h cells slots) {x z : Int64} {o : Int} (hd : decode bytes pc = .ok (.ifCond .lt o, 3)) (ho : 0 ≤ (pc : Int) + o) (hY : ((pc : Int) + o).toNat = pcY) (hN : pc + 3 = pcN) (kY : x < z → Goes p e below s n0 kc ks Q (T.setTop (mkF m pcY L S))) (kN : ¬ x < z → Goes p e below s n0 kc ks Q (T.setTop (mkF m pcN L S))) : Goes p e below s n0 kc ks Q (T.setTop (mkF m pc L (.int (lcmpW x z) :: S))) :=
  if_lt P hd ho hY hN (fun q => kY ((lw_lt x z).mp q)) (fun q => kN (mt (lw_lt x z).mpr q))
theorem lif_ge (P : Pos Z y bytes maxL ret n0 p l e R s m args below meth c T h cells slots) {x z : Int64} {o : Int} (hd : decode bytes pc = .ok (.ifCond .ge o, 3)) (ho : 0 ≤ (pc : Int) + o) (hY : ((pc : Int) + o).toNat = pcY) (hN : pc + 3 = pcN) (kY : ¬ x < z → Goes p e below s n0 kc ks Q (T.setTop (mkF m pcY L S))) (kN : x < z → Goes p e below s n0 kc ks Q (T.setTop (mkF m pcN L S))) : Goes p e below s n0 kc ks Q (T.setTop (mkF m pc L (.int (lcmpW x z) :: S))) :=
  if_ge P hd ho hY hN (fun q => kY (mt (lw_lt x z).mpr q)) (fun q => kN ((lw_lt x z).mp q))
theorem lif_gt (P : Pos Z y bytes maxL ret n0 p l e R s m args below meth c T h cells slots) {x z : Int64} {o : Int} (hd : decode bytes pc = .ok (.ifCond .gt o, 3)) (ho : 0 ≤ (pc : Int) + o) (hY : ((pc : Int) + o).toNat = pcY) (hN : pc + 3 = pcN) (kY : z < x → Goes p e below s n0 kc ks Q (T.setTop (mkF m pcY L S))) (kN : ¬ z < x → Goes p e below s n0 kc ks Q (T.setTop (mkF m pcN L S))) : Goes p e below s n0 kc ks Q (T.setTop (mkF m pc L (.int (lcmpW x z) :: S))) :=
  if_gt P hd ho hY hN (fun q => kY ((lw_gt x z).mp q)) (fun q => kN (mt (lw_gt x z).mpr q))
theorem lif_le (P : Pos Z y bytes maxL ret n0 p l e R s m args below meth c T h cells slots) {x z : Int64} {o : Int} (hd : decode bytes pc = .ok (.ifCond .le o, 3)) (ho : 0 ≤ (pc : Int) + o) (hY : ((pc : Int) + o).toNat = pcY) (hN : pc + 3 = pcN) (kY : ¬ z < x → Goes p e below s n0 kc ks Q (T.setTop (mkF m pcY L S))) (kN : z < x → Goes p e below s n0 kc ks Q (T.setTop (mkF m pcN L S))) : Goes p e below s n0 kc ks Q (T.setTop (mkF m pc L (.int (lcmpW x z) :: S))) :=
  if_le P hd ho hY hN (fun q => kY (mt (lw_gt x z).mpr q)) (fun q => kN ((lw_gt x z).mp q))
theorem lif_eq (P : Pos Z y bytes maxL ret n0 p l e R s m args below meth c T h cells slots) {x z : Int64} {o : Int} (hd : decode bytes pc = .ok (.ifCond .eq o, 3)) (ho : 0 ≤ (pc : Int) + o) (hY : ((pc : Int) + o).toNat = pcY) (hN : pc + 3 = pcN) (kY : x = z → Goes p e below s n0 kc ks Q (T.setTop (mkF m pcY L S))) (kN : ¬ x = z → Goes p e below s n0 kc ks Q (T.setTop (mkF m pcN L S))) : Goes p e below s n0 kc ks Q (T.setTop (mkF m pc L (.int (lcmpW x z) :: S))) :=
  if_eq P hd ho hY hN (fun q => kY ((lw_eq x z).mp q)) (fun q => kN (mt (lw_eq x z).mpr q))
theorem lif_ne (P : Pos Z y bytes maxL ret n0 p l e R s m args below meth c T h cells slots) {x z : Int64} {o : Int} (hd : decode bytes pc = .ok (.ifCond .ne o, 3)) (ho : 0 ≤ (pc : Int) + o) (hY : ((pc : Int) + o).toNat = pcY) (hN : pc + 3 = pcN) (kY : ¬ x = z → Goes p e below s n0 kc ks Q (T.setTop (mkF m pcY L S))) (kN : x = z → Goes p e below s n0 kc ks Q (T.setTop (mkF m pcN L S))) : Goes p e below s n0 kc ks Q (T.setTop (mkF m pc L (.int (lcmpW x z) :: S))) :=
  if_ne P hd ho hY hN (fun q => kY (mt (lw_eq x z).mpr q)) (fun q => kN ((lw_eq x z).mp q))
theorem ldcI (P : Pos Z y bytes maxL ret n0 p l e R s m args below meth c T h cells slots) {i : Nat} {v : Int32} (w : (Jvm.Cond.constant y.cls i v).before a0 Z = true) (hd : decode bytes pc = .ok (.ldc i, 2)) (hp : pc + 2 = pc') (k : Goes p e below s n0 kc ks Q (T.setTop (mkF m pc' L (.int v :: S)))) : Goes p e below s n0 kc ks Q (T.setTop (mkF m pc L S)) := by
  obtain ⟨⟨hx, rfl, rfl, hown, hnm, rfl, hlk, hZ, hn0⟩, locs, X, rfl, N⟩ := P
  subst hp
  exact k.via fun t q => X.ldcInt hx hown (mvT hZ w) (g := mkF m pc L S) rfl hd _ q
theorem ldc2 (P : Pos Z y bytes maxL ret n0 p l e R s m args below meth c T h cells slots) {i : Nat} {v : Int64} (w : (Jvm.Cond.constantLong y.cls i v).before a0 Z = true) (hd : decode bytes pc = .ok (.ldc2_w i, 3)) (hp : pc + 3 = pc') (k : Goes p e below s n0 kc ks Q (T.setTop (mkF m pc' L (.long v :: S)))) : Goes p e below s n0 kc ks Q (T.setTop (mkF m pc L S)) := by
  obtain ⟨⟨hx, rfl, rfl, hown, hnm, rfl, hlk, hZ, hn0⟩, locs, X, rfl, N⟩ := P
  subst hp
  exact k.via fun t q => X.ldc2Long hx hown (mvT hZ w) (g := mkF m pc L S) rfl hd _ q
theorem ireturn (P : Pos Z y bytes maxL ret n0 p l e R s m args below meth c T h cells slots) {z : Int32} (hr' : ret = some .int) (hd : decode bytes pc = .ok (.ireturn, 1)) (hk1 : cells ≤ kc) (hk2 : slots ≤ ks) (hQ : Q (some (.int z)) h) : Goes p e below s n0 kc ks Q (T.setTop (mkF m pc L (.int z :: S))) := by
  obtain ⟨⟨hx, rfl, rfl, hown, hnm, rfl, hlk, hZ, hn0⟩, locs, X, rfl, N⟩ := P
  obtain ⟨fs, hr, hrun, hended, hW, hsame⟩ := X.leave (v := some (.int z)) (fun h => by rw [hr'] at h; cases h) (hlocks := hlk)
  exact ⟨_, _, retOut X hx hr' rfl (Or.inl ⟨rfl, Or.inl rfl, _, rfl⟩) hd hr, hrun, hended, _, _, rfl, ⟨hQ, N⟩, ⟨_, rfl⟩, hW, hsame.mono hk1 hk2⟩
theorem ireturnN (P : Pos Z y bytes maxL ret n0 p l e R s m args below meth c T h cells slots) {z z' : Int32} {t : FieldType} (hr' : ret = some t) (ht : t = .boolean ∨ t = .byte ∨ t = .char ∨ t = .short) (hz : nar t z = z') (hd : decode bytes pc = .ok (.ireturn, 1)) (hk1 : cells ≤ kc) (hk2 : slots ≤ ks) (hQ : Q (some (.int z')) h) : Goes p e below s n0 kc ks Q (T.setTop (mkF m pc L (.int z :: S))) := by
  obtain ⟨⟨hx, rfl, rfl, hown, hnm, rfl, hlk, hZ, hn0⟩, locs, X, rfl, N⟩ := P
  subst hz
  obtain ⟨fs, hr, hrun, hended, hW, hsame⟩ := X.leave (v := some (.int (nar t z))) (fun h => by rw [hr'] at h; cases h) (hlocks := hlk)
  exact ⟨_, _, retN X hx hr' ht hd hr, hrun, hended, _, _, rfl, ⟨hQ, N⟩, ⟨_, rfl⟩, hW, hsame.mono hk1 hk2⟩
theorem lreturn (P : Pos Z y bytes maxL ret n0 p l e R s m args below meth c T h cells slots) {z : Int64} (hr' : ret = some .long) (hd : decode bytes pc = .ok (.lreturn, 1)) (hk1 : cells ≤ kc) (hk2 : slots ≤ ks) (hQ : Q (some (.long z)) h) : Goes p e below s n0 kc ks Q (T.setTop (mkF m pc L (.long z :: S))) := by
  obtain ⟨⟨hx, rfl, rfl, hown, hnm, rfl, hlk, hZ, hn0⟩, locs, X, rfl, N⟩ := P
  obtain ⟨fs, hr, hrun, hended, hW, hsame⟩ := X.leave (v := some (.long z)) (fun h => by rw [hr'] at h; cases h) (hlocks := hlk)
  exact ⟨_, _, retOut X hx hr' rfl (Or.inr (Or.inl ⟨rfl, rfl, _, rfl⟩)) hd hr, hrun, hended, _, _, rfl, ⟨hQ, N⟩, ⟨_, rfl⟩, hW, hsame.mono hk1 hk2⟩
theorem areturn (P : Pos Z y bytes maxL ret n0 p l e R s m args below meth c T h cells slots) {v : Value} {t : FieldType} (hr' : ret = some t) (ht : t.isReference = true) (hv : v.isRef = true) (hn : narrow t v = v) (hd : decode bytes pc = .ok (.areturn, 1)) (hk1 : cells ≤ kc) (hk2 : slots ≤ ks) (hQ : Q (some v) h) : Goes p e below s n0 kc ks Q (T.setTop (mkF m pc L (v :: S))) := by
  obtain ⟨⟨hx, rfl, rfl, hown, hnm, rfl, hlk, hZ, hn0⟩, locs, X, rfl, N⟩ := P
  obtain ⟨fs, hr, hrun, hended, hW, hsame⟩ := X.leave (v := some v) (fun h => by rw [hr'] at h; cases h) (hlocks := hlk)
  exact ⟨_, _, retOut X hx hr' hn (Or.inr (Or.inr (Or.inr (Or.inr ⟨rfl, ht, hv⟩)))) hd hr, hrun, hended, _, _, rfl, ⟨hQ, N⟩, ⟨_, rfl⟩, hW, hsame.mono hk1 hk2⟩
theorem return_ (P : Pos Z y bytes maxL ret n0 p l e R s m args below meth c T h cells slots) (hr' : ret = none) (hd : decode bytes pc = .ok (.return_, 1)) (hk1 : cells ≤ kc) (hk2 : slots ≤ ks) (hQ : Q none h) : Goes p e below s n0 kc ks Q (T.setTop (mkF m pc L [])) := by
  obtain ⟨⟨hx, rfl, rfl, hown, hnm, rfl, hlk, hZ, hn0⟩, locs, X, rfl, N⟩ := P
  obtain ⟨fs, hr, hrun, hended, hW, hsame⟩ := X.leave (v := none) (fun _ => rfl) (hlocks := hlk)
  exact ⟨_, _, X.returnOut hx hr' hd hr, hrun, hended, _, _, rfl, ⟨hQ, N⟩, ⟨_, rfl⟩, hW, hsame.mono hk1 hk2⟩
theorem getF (P : Pos Z y bytes maxL ret n0 p l e R s m args below meth c T h cells slots) {R0 O n d host : String} {i : Nat} {a : Addr} {v : Value} (w : (Jvm.Cond.fieldLink y.cls i R0 n d).before a0 Z = true ∨ (Jvm.Cond.fieldLinkNest y.cls i R0 n d host).before a0 Z = true) (via : Via Z R0 O n d) (F : Fld Z h a O n d v) (hd : decode bytes pc = .ok (.getfield i, 3)) (hp : pc + 3 = pc') (k : ∀ T', Pos Z y bytes maxL ret n0 p l e R s m args below meth c T' h cells slots → Goes p e below s n0 kc ks Q (T'.setTop (mkF m pc' L (v :: S)))) : Goes p e below s n0 kc ks Q (T.setTop (mkF m pc L (.ref a :: S))) := by
  obtain ⟨⟨hx, rfl, rfl, hown, hnm, rfl, hlk, hZ, hn0⟩, locs, X, rfl, N⟩ := P
  subst hp
  obtain ⟨T', X', e', st⟩ := Jvm.RoadKit.getF X hx hZ hown w via rfl F (g := mkF m pc L (.ref a :: S)) rfl rfl hd
  exact (k T' ⟨⟨hx, rfl, rfl, hown, hnm, rfl, hlk, hZ, hn0⟩, locs, X', e', N⟩).via st
theorem putF (P : Pos Z y bytes maxL ret n0 p l e R s m args below meth c T h cells slots) {R0 O n d host C : String} {i kk : Nat} {ty : FieldType} {a : Addr} {v old : Value} (w : (Jvm.Cond.fieldLink y.cls i R0 n d).before a0 Z = true ∨ (Jvm.Cond.fieldLinkNest y.cls i R0 n d host).before a0 Z = true) (via : Via Z R0 O n d) (F : Fld Z h a O n d old) (E : Exa Z h a C) (W : (Jvm.Cond.lays C O n d).before a0 Z = true ∨ ((Jvm.Cond.laysFinal C O n d).before a0 Z = true ∧ y.cls = O ∧ y.name = "<init>")) (wi : (Jvm.Cond.instantiable C kk).before a0 Z = true) (hty : parseFieldDescriptor d = some ty) (hn : narrow ty v = v) (hf : fits ty v = true) (hg : n0 ≤ a) (hd : decode bytes pc = .ok (.putfield i, 3)) (hp : pc + 3 = pc') (k : ∀ T' h', Pos Z y bytes maxL ret n0 p l e R s m args below meth c T' h' cells slots → Wr h h' a (RoadKit.slotOf Z O n d) v → Goes p e below s n0 kc ks Q (T'.setTop (mkF m pc' L S))) : Goes p e below s n0 kc ks Q (T.setTop (mkF m pc L (v :: .ref a :: S))) := by
  obtain ⟨⟨hx, rfl, rfl, hown, hnm, rfl, hlk, hZ, hn0⟩, locs, X, rfl, N⟩ := P
  subst hp
  obtain ⟨T', h', X', e', W', st⟩ := Jvm.RoadKit.putF X hx hZ hown w via rfl F E (W.imp id fun q => ⟨q.1, q.2.1, hnm.trans q.2.2⟩) wi hty hn hf (g := mkF m pc L (v :: .ref a :: S)) rfl rfl hd
  exact (k T' h' ⟨⟨hx, rfl, rfl, hown, hnm, rfl, hlk, hZ, hn0⟩, _, X', e', Fr.snoc X' N hg⟩ W').via st
theorem new (P : Pos Z y bytes maxL ret n0 p l e R s m args below meth c T h cells slots) {C : String} {i n : Nat} {cells' slots' : Nat} (w : (Jvm.Cond.classLink y.cls i C).before a0 Z = true) (wi : (Jvm.Cond.instantiable C n).before a0 Z = true) (wz : (Jvm.Cond.initialized C).before a0 Z = true) (hd : decode bytes pc = .ok (.new i, 3)) (hc : cells + 1 = cells') (hs : slots + n = slots') (hc' : cells' ≤ R.cells) (hs' : slots' ≤ R.slots) (hp : pc + 3 = pc') (k : ∀ T' h' b, b = h.size → n0 ≤ b → Pos Z y bytes maxL ret n0 p l e R s m args below meth c T' h' cells' slots' → Ext h h' → Exa Z h' b C → (∀ {O nm d : String} {ty : FieldType}, Laid Z a0 C O nm d → parseFieldDescriptor d = some ty → Fld Z h' b O nm d (defaultValue ty)) → Goes p e below s n0 kc ks Q (T'.setTop (mkF m pc' L (.ref b :: S)))) : Goes p e below s n0 kc ks Q (T.setTop (mkF m pc L S)) := by
  obtain ⟨⟨hx, rfl, rfl, hown, hnm, rfl, hlk, hZ, hn0⟩, locs, X, rfl, N⟩ := P
  subst hp hc hs
  obtain ⟨T', h', X', e', E', A', D', -, st⟩ := newO X hx hZ hown w wi wz rfl (g := mkF m pc L S) rfl hd hc' hs'
  exact (k T' h' _ rfl (Nat.le_trans hn0 X.same.2.1) ⟨⟨hx, rfl, rfl, hown, hnm, rfl, hlk, hZ, hn0⟩, _, X', e', N⟩ E' A' D').via st
theorem initO (P : Pos Z y bytes maxL ret n0 p l e R s m args below meth c T h cells slots) {i W : Nat} {a : Addr} (w1 : (Jvm.Cond.methodLink y.cls i Lib.objectInit).before a0 Z = true) (w2 : (Jvm.Cond.instanceMethod Lib.objectInit).before a0 Z = true) (w3 : (Jvm.Cond.code Lib.objectInit ⟨#[0xb1]⟩ 1 none).before a0 Z = true) (hsz : L.size = maxL) (hd : decode bytes pc = .ok (.invokespecial i, 3)) (hf : 1 ≤ R.frames) (hW : (S.map fun v => v.category).sum ≤ W) (hl : W + 12 ≤ R.locals) (hp : pc + 3 = pc') (k : ∀ T', Pos Z y bytes maxL ret n0 p l e R s m args below meth c T' h cells slots → Goes p e below s n0 kc ks Q (T'.setTop (mkF m pc' L S))) : Goes p e below s n0 kc ks Q (T.setTop (mkF m pc L (.ref a :: S))) := by
  obtain ⟨⟨hx, rfl, rfl, hown, hnm, rfl, hlk, hZ, hn0⟩, locs, X, rfl, N⟩ := P
  subst hp
  obtain ⟨T', X', e', st⟩ := Jvm.RoadKit.initO X hx hZ hown w1 w2 w3 rfl (g := mkF m pc L (.ref a :: S)) rfl hsz rfl hd hf (W := W) (by have q0 := hW; show 2 * 0 + _ ≤ _; omega) hl
  exact (k T' ⟨⟨hx, rfl, rfl, hown, hnm, rfl, hlk, hZ, hn0⟩, locs, X', e', N⟩).via st
theorem callS (P : Pos Z y bytes maxL ret n0 p l e R s m args below meth c T h cells slots) {y' : MethodName} {bytes' : ByteArray} {maxL' : Nat} {ret' : Option FieldType} {rm : Room} {i W cells' slots' : Nat} {argsL rest : List Value} {Q' : Option Value → Heap → Prop} (w1 : (Jvm.Cond.methodLink y.cls i y').before a0 Z = true) (w2 : (Jvm.Cond.static y').before a0 Z = true) (w3 : (Jvm.Cond.initialized y'.cls).before a0 Z = true) (w4 : (Jvm.Cond.code y' bytes' maxL' ret').before a0 Z = true) (hy : y'.cls ≠ "java/lang/invoke/MethodHandle" ∧ y'.cls ≠ "java/lang/invoke/VarHandle") (K : Con l Z y' bytes' maxL' ret' rm n0 argsL.toArray h Q') (hf : rm.frames + 1 ≤ R.frames) (hl : W + (maxL' + 11) + rm.locals ≤ R.locals) (hc : cells + rm.cells = cells') (hs : slots + rm.slots = slots') (hc' : cells' ≤ R.cells) (hs' : slots' ≤ R.slots) (hlen : ∀ sig, parseMethodDescriptor y'.desc = some sig → argsL.length = sig.parameters.length) (hsz : L.size = maxL) (hst : S = argsL.reverse ++ rest) (hW : (rest.map fun v => v.category).sum ≤ W) (hd : decode bytes pc = .ok (.invokestatic i, 3)) (hp : pc + 3 = pc') (k : ∀ T' h' v, Pos Z y bytes maxL ret n0 p l e R s m args below meth c T' h' cells' slots' → Q' v h' → Goes p e below s n0 kc ks Q (T'.setTop (mkF m pc' L (v.toList ++ rest)))) : Goes p e below s n0 kc ks Q (T.setTop (mkF m pc L S)) := by
  obtain ⟨⟨hx, rfl, rfl, hown, hnm, rfl, hlk, hZ, hn0⟩, locs, X, rfl, N⟩ := P
  subst hp hc hs hst
  obtain ⟨v, _, ⟨T', L1, k1, n1⟩, -, X', ⟨Lc, ⟨hQ, hN⟩, l1, y1, z1⟩, st⟩ := Jvm.LawKit.callS X hx hown (mvT hZ w1) (mvT hZ w2) (mvT hZ w3) (mvT hZ w4) hy (backOf (W := W) (Q := fun v h L => Q' v h ∧ Fr n0 L) (K []) hZ w4 w3 hf hl) (g := mkF m pc L (argsL.reverse ++ rest)) rfl hsz (argsL := argsL) (rest := rest) hlen rfl (by have q0 := hW; show 2 * 0 + _ ≤ _; omega) hd (fun _ _ => ⟨rfl, rfl, hc', hs'⟩)
  dsimp only [Pt.U, Pt.locs, Pt.cells, Pt.slots] at X' l1 y1 z1 st hQ
  subst l1 y1 z1
  exact (k T' _ v ⟨⟨hx, rfl, rfl, hown, hnm, rfl, hlk, hZ, hn0⟩, _, X', rfl, Fr.app N hN⟩ hQ).via st
theorem callI (P : Pos Z y bytes maxL ret n0 p l e R s m args below meth c T h cells slots) {y' : MethodName} {bytes' : ByteArray} {maxL' : Nat} {rm : Room} {i W cells' slots' : Nat} {argsL rest : List Value} {Q' : Option Value → Heap → Prop} {a : Addr} (hy1 : y'.name = "<init>") (w1 : (Jvm.Cond.methodLink y.cls i y').before a0 Z = true) (w2 : (Jvm.Cond.instanceMethod y').before a0 Z = true) (w3 : (Jvm.Cond.initialized y'.cls).before a0 Z = true) (w4 : (Jvm.Cond.code y' bytes' maxL' none).before a0 Z = true) (hy : y'.cls ≠ "java/lang/invoke/MethodHandle" ∧ y'.cls ≠ "java/lang/invoke/VarHandle") (K : Con l Z y' bytes' maxL' none rm n0 (.ref a :: argsL).toArray h Q') (hf : rm.frames + 1 ≤ R.frames) (hl : W + (maxL' + 11) + rm.locals ≤ R.locals) (hc : cells + rm.cells = cells') (hs : slots + rm.slots = slots') (hc' : cells' ≤ R.cells) (hs' : slots' ≤ R.slots) (hlen : ∀ sig, parseMethodDescriptor y'.desc = some sig → argsL.length = sig.parameters.length) (hsz : L.size = maxL) (hst : S = argsL.reverse ++ .ref a :: rest) (hW : (rest.map fun v => v.category).sum ≤ W) (hd : decode bytes pc = .ok (.invokespecial i, 3)) (hp : pc + 3 = pc') (k : ∀ T' h' v, Pos Z y bytes maxL ret n0 p l e R s m args below meth c T' h' cells' slots' → Q' v h' → Goes p e below s n0 kc ks Q (T'.setTop (mkF m pc' L (v.toList ++ rest)))) : Goes p e below s n0 kc ks Q (T.setTop (mkF m pc L S)) := by
  obtain ⟨⟨hx, rfl, rfl, hown, hnm, rfl, hlk, hZ, hn0⟩, locs, X, rfl, N⟩ := P
  subst hp hc hs hst
  obtain ⟨v, _, ⟨T', L1, k1, n1⟩, -, X', ⟨Lc, ⟨hQ, hN⟩, l1, y1, z1⟩, st⟩ := X.specialBack hx hy1 hown (mvT hZ w1) (mvT hZ w2) (mvT hZ w4) hy (backOf (W := W) (Q := fun v h L => Q' v h ∧ Fr n0 L) (K []) hZ w4 w3 hf hl) (g := mkF m pc L (argsL.reverse ++ .ref a :: rest)) rfl hsz (Steps.refl _) (a := a) (argsL := argsL) (rest := rest) hlen rfl (by have q0 := hW; show 2 * 0 + _ ≤ _; omega) hd (fun _ _ => ⟨rfl, rfl, hc', hs'⟩)
  dsimp only [Pt.U, Pt.locs, Pt.cells, Pt.slots] at X' l1 y1 z1 st hQ
  subst l1 y1 z1
  exact (k T' _ v ⟨⟨hx, rfl, rfl, hown, hnm, rfl, hlk, hZ, hn0⟩, _, X', rfl, Fr.app N hN⟩ hQ).via fun _ q => st.trans q
theorem callV (P : Pos Z y bytes maxL ret n0 p l e R s m args below meth c T h cells slots) {y' : MethodName} {bytes' : ByteArray} {maxL' : Nat} {ret' : Option FieldType} {rm : Room} {i W cells' slots' : Nat} {argsL rest : List Value} {Q' : Option Value → Heap → Prop} {a : Addr} {C : String} (w1 : (Jvm.Cond.methodLink y.cls i y').before a0 Z = true) (w2 : (Jvm.Cond.declares y').before a0 Z = true) (w5 : (Jvm.Cond.selects C y' y').before a0 Z = true) (w6 : (Jvm.Cond.instanceMethod y').before a0 Z = true) (w3 : (Jvm.Cond.initialized y'.cls).before a0 Z = true) (w4 : (Jvm.Cond.code y' bytes' maxL' ret').before a0 Z = true) (hy : y'.cls ≠ "java/lang/invoke/MethodHandle" ∧ y'.cls ≠ "java/lang/invoke/VarHandle") (E : Exa Z h a C) (K : Con l Z y' bytes' maxL' ret' rm n0 (.ref a :: argsL).toArray h Q') (hf : rm.frames + 1 ≤ R.frames) (hl : W + (maxL' + 11) + rm.locals ≤ R.locals) (hc : cells + rm.cells = cells') (hs : slots + rm.slots = slots') (hc' : cells' ≤ R.cells) (hs' : slots' ≤ R.slots) (hlen : ∀ sig, parseMethodDescriptor y'.desc = some sig → argsL.length = sig.parameters.length) (hsz : L.size = maxL) (hst : S = argsL.reverse ++ .ref a :: rest) (hW : (rest.map fun v => v.category).sum ≤ W) (hd : decode bytes pc = .ok (.invokevirtual i, 3)) (hp : pc + 3 = pc') (k : ∀ T' h' v, Pos Z y bytes maxL ret n0 p l e R s m args below meth c T' h' cells' slots' → Q' v h' → Goes p e below s n0 kc ks Q (T'.setTop (mkF m pc' L (v.toList ++ rest)))) : Goes p e below s n0 kc ks Q (T.setTop (mkF m pc L S)) := by
  obtain ⟨⟨hx, rfl, rfl, hown, hnm, rfl, hlk, hZ, hn0⟩, locs, X, rfl, N⟩ := P
  obtain ⟨cq, kq, qa, qb, qc⟩ := isOf (T := T) hZ rfl E
  subst hp hc hs hst
  obtain ⟨v, _, ⟨T', L1, k1, n1⟩, -, X', ⟨Lc, ⟨hQ, hN⟩, l1, y1, z1⟩, st⟩ := X.virtualBack hx (y := y') (z := y') hown (mvT hZ w1) (mvT hZ w2) (notFace_of_selects (args := #[]) (mvT hZ w5)) (mvT hZ w5) (mvT hZ w6) hy (backOf (W := W) (Q := fun v h L => Q' v h ∧ Fr n0 L) (K []) hZ w4 w3 hf hl) qa qc (g := mkF m pc L (argsL.reverse ++ .ref a :: rest)) rfl hsz (Steps.refl _) (argsL := argsL) (rest := rest) hlen rfl (by have q0 := hW; show 2 * 0 + _ ≤ _; omega) hd (fun _ _ => ⟨rfl, rfl, hc', hs'⟩)
  dsimp only [Pt.U, Pt.locs, Pt.cells, Pt.slots] at X' l1 y1 z1 st hQ
  subst l1 y1 z1
  exact (k T' _ v ⟨⟨hx, rfl, rfl, hown, hnm, rfl, hlk, hZ, hn0⟩, _, X', rfl, Fr.app N hN⟩ hQ).via fun _ q => st.trans q
theorem callP (P : Pos Z y bytes maxL ret n0 p l e R s m args below meth c T h cells slots) {y' : MethodName} {bytes' : ByteArray} {maxL' : Nat} {ret' : Option FieldType} {rm : Room} {i W cells' slots' : Nat} {argsL rest : List Value} {Q' : Option Value → Heap → Prop} {a : Addr} {C : String} (w1 : (Jvm.Cond.methodLink y.cls i y').before a0 Z = true) {kk : Nat} (wi : (Jvm.Cond.instantiable y'.cls kk).before a0 Z = true) (w6 : (Jvm.Cond.instanceMethod y').before a0 Z = true) (w7 : (Jvm.Cond.privateMethod y').before a0 Z = true) (w3 : (Jvm.Cond.initialized y'.cls).before a0 Z = true) (w4 : (Jvm.Cond.code y' bytes' maxL' ret').before a0 Z = true) (hy : y'.cls ≠ "java/lang/invoke/MethodHandle" ∧ y'.cls ≠ "java/lang/invoke/VarHandle") (E : Exa Z h a C) (K : Con l Z y' bytes' maxL' ret' rm n0 (.ref a :: argsL).toArray h Q') (hf : rm.frames + 1 ≤ R.frames) (hl : W + (maxL' + 11) + rm.locals ≤ R.locals) (hc : cells + rm.cells = cells') (hs : slots + rm.slots = slots') (hc' : cells' ≤ R.cells) (hs' : slots' ≤ R.slots) (hlen : ∀ sig, parseMethodDescriptor y'.desc = some sig → argsL.length = sig.parameters.length) (hsz : L.size = maxL) (hst : S = argsL.reverse ++ .ref a :: rest) (hW : (rest.map fun v => v.category).sum ≤ W) (hd : decode bytes pc = .ok (.invokevirtual i, 3)) (hp : pc + 3 = pc') (k : ∀ T' h' v, Pos Z y bytes maxL ret n0 p l e R s m args below meth c T' h' cells' slots' → Q' v h' → Goes p e below s n0 kc ks Q (T'.setTop (mkF m pc' L (v.toList ++ rest)))) : Goes p e below s n0 kc ks Q (T.setTop (mkF m pc L S)) := by
  obtain ⟨⟨hx, rfl, rfl, hown, hnm, rfl, hlk, hZ, hn0⟩, locs, X, rfl, N⟩ := P
  obtain ⟨cq, q1, q2⟩ := E.cell
  obtain ⟨ci, ki, j1, j2, -, j3, -⟩ := Cond.instantiable_spec wi
  have w5 : (Jvm.Cond.selects y'.cls y' y').before a0 Z = true := selects_self_of_private j1 j2 (by simp only [Bool.or_eq_false_iff] at j3; exact j3.1) (Cond.privateMethod_at w7) w6 hy
  subst hp hc hs hst
  obtain ⟨v, _, ⟨T', L1, k1, n1⟩, -, X', ⟨Lc, ⟨hQ, hN⟩, l1, y1, z1⟩, st⟩ := X.privateBack hx (y := y') hown (mvT hZ w1) (mvT hZ w6) (mvT hZ w5) (Cond.privateMethod_at (mvP hZ w7 (args := #[]))) (mvT hZ w4) hy (backOf (W := W) (Q := fun v h L => Q' v h ∧ Fr n0 L) (K []) hZ w4 w3 hf hl) (g := mkF m pc L (argsL.reverse ++ .ref a :: rest)) rfl hsz (Steps.refl _) (a := a) q1 q2 (argsL := argsL) (rest := rest) hlen rfl (by have q0 := hW; show 2 * 0 + _ ≤ _; omega) hd (fun _ _ => ⟨rfl, rfl, hc', hs'⟩)
  dsimp only [Pt.U, Pt.locs, Pt.cells, Pt.slots] at X' l1 y1 z1 st hQ
  subst l1 y1 z1
  exact (k T' _ v ⟨⟨hx, rfl, rfl, hown, hnm, rfl, hlk, hZ, hn0⟩, _, X', rfl, Fr.app N hN⟩ hQ).via fun _ q => st.trans q
end Plain
end G
/-- an array at a: n places, the i-th holds the int f i -/
def Ints (Z : State) (h : Heap) (a : Addr) (ty : FieldType) (n : Nat) (f : Nat → Int32) : Prop := n < 2 ^ 31 ∧ ∃ c : Cell, Arr Z h a c ty ∧ c.slots.size = n ∧ ∀ i, i < n → c.slots[i]? = some (.int (f i))
def upd (f : Nat → Int32) (i : Nat) (x : Int32) : Nat → Int32 := fun k => if k = i then x else f k
def lst (l : List Int32) : Nat → Int32 := fun i => l.getD i 0
section Arrays
variable {Z : State} {h h' : Heap} {a b : Addr} {ty : FieldType} {n : Nat} {f : Nat → Int32} {sl : Nat} {v : Value} {ws : List Addr}
theorem Ints.lt (A : Ints Z h a ty n f) : a < h.size := by obtain ⟨_, c, A, -⟩ := A; exact A.lt
theorem Ints.ext (A : Ints Z h a ty n f) (E : Ext h h') : Ints Z h' a ty n f := by obtain ⟨q, c, A, r⟩ := A; exact ⟨q, c, A.ext E, r⟩
theorem Ints.other (A : Ints Z h b ty n f) (W : Wr h h' a sl v) (q : b ≠ a) : Ints Z h' b ty n f := by obtain ⟨r, c, A, r'⟩ := A; exact ⟨r, c, A.other W q, r'⟩
theorem Ints.keep (A : Ints Z h a ty n f) (K : Keep h h' ws) (q : a ∉ ws) : Ints Z h' a ty n f := by obtain ⟨r, c, A, r'⟩ := A; exact ⟨r, c, ⟨K.2.1 a c A.1 q, A.2⟩, r'⟩
theorem Ints.congr {g : Nat → Int32} (A : Ints Z h a ty n f) (q : ∀ i, i < n → f i = g i) : Ints Z h a ty n g := by obtain ⟨r, c, A, s, r'⟩ := A; exact ⟨r, c, A, s, fun i hi => by rw [r' i hi, q i hi]⟩
theorem Ints.same {i : Nat} {x : Int32} (A : Ints Z h a ty n f) (W : Wr h h' a i (.int x)) : Ints Z h' a ty n (upd f i x) := by
  obtain ⟨q, c, A, s, r⟩ := A
  refine ⟨q, _, A.same W, (sz_set _ _ _).trans s, fun j hj => ?_⟩
  show (c.slots.setIfInBounds i (.int x))[j]? = _
  by_cases e : j = i
  · subst e
    rw [Array.getElem?_setIfInBounds_self_of_lt (by omega)]
    simp [upd]
  · rw [Array.getElem?_setIfInBounds_ne (Ne.symm e), r j hj]
    simp [upd, e]
theorem idx {j : Int32} {i : Nat} (hj : j.toInt = (i : Int)) : ¬ j < 0 ∧ j.toNatClampNeg = i := by
  have q : ¬ j < 0 := by rw [Int32.lt_iff_toInt_lt, hj]; show ¬ ((i : Int) < 0); omega
  have r := nat_of q
  exact ⟨q, by omega⟩
theorem idx_in' {j : Int32} {i : Nat} {c : Cell} (hj : j.toInt = (i : Int)) (hi : i < c.slots.size) : ¬ (j < 0 ∨ c.slots.size ≤ j.toNatClampNeg) := by
  obtain ⟨q, r⟩ := idx hj
  rw [r]
  rintro (s | s)
  · exact q s
  · omega
end Arrays
namespace G
section Plain
variable {Z : State} {y : MethodName} {bytes : ByteArray} {maxL : Nat} {ret : Option FieldType} {n0 : Nat} {p : Program} {l : Launch} {e : Env} {R : Room} {s : State} {m : MethodId} {args : Array Value} {below : List Frame} {meth : Method} {c : Code} {T : State} {h : Heap} {cells slots kc ks : Nat} {Q : Option Value → Heap → Prop} {pc pc' pcY pcN : Nat} {L L' : Array Slot} {S : List Value} {a0 : Array Value}
theorem iaload (P : Pos Z y bytes maxL ret n0 p l e R s m args below meth c T h cells slots) {a : Addr} {n i : Nat} {f : Nat → Int32} {j : Int32} (A : Ints Z h a .int n f) (hj : j.toInt = (i : Int)) (hi : i < n) (hd : decode bytes pc = .ok (.iaload, 1)) (hp : pc + 1 = pc') (k : Goes p e below s n0 kc ks Q (T.setTop (mkF m pc' L (.int (f i) :: S)))) : Goes p e below s n0 kc ks Q (T.setTop (mkF m pc L (.int j :: .ref a :: S))) := by
  obtain ⟨⟨hx, rfl, rfl, hown, hnm, rfl, hlk, hZ, hn0⟩, locs, X, rfl, N⟩ := P
  subst hp
  obtain ⟨-, cl, Ar, sz, r⟩ := A
  exact k.via fun t q => X.iaload hx (j := j) (v := .int (f i)) Ar.1 (State.isArrayOf_alike hZ.alike Ar.2.1) Ar.2.2 (idx_in' hj (by omega)) (by rw [(idx hj).2]; exact r i hi) (g := mkF m pc L (.int j :: .ref a :: S)) rfl rfl hd _ q
theorem baload (P : Pos Z y bytes maxL ret n0 p l e R s m args below meth c T h cells slots) {a : Addr} {n i : Nat} {f : Nat → Int32} {j : Int32} (A : Ints Z h a .byte n f) (hj : j.toInt = (i : Int)) (hi : i < n) (hd : decode bytes pc = .ok (.baload, 1)) (hp : pc + 1 = pc') (k : Goes p e below s n0 kc ks Q (T.setTop (mkF m pc' L (.int (f i) :: S)))) : Goes p e below s n0 kc ks Q (T.setTop (mkF m pc L (.int j :: .ref a :: S))) := by
  obtain ⟨⟨hx, rfl, rfl, hown, hnm, rfl, hlk, hZ, hn0⟩, locs, X, rfl, N⟩ := P
  subst hp
  obtain ⟨-, cl, Ar, sz, r⟩ := A
  exact k.via fun t q => X.baloadBytes hx (j := j) (v := .int (f i)) Ar.1 (State.isArrayOf_alike hZ.alike Ar.2.1) Ar.2.2 (idx_in' hj (by omega)) (by rw [(idx hj).2]; exact r i hi) (g := mkF m pc L (.int j :: .ref a :: S)) rfl rfl hd _ q
theorem zaload (P : Pos Z y bytes maxL ret n0 p l e R s m args below meth c T h cells slots) {a : Addr} {n i : Nat} {f : Nat → Int32} {j : Int32} (A : Ints Z h a .boolean n f) (hj : j.toInt = (i : Int)) (hi : i < n) (hd : decode bytes pc = .ok (.baload, 1)) (hp : pc + 1 = pc') (k : Goes p e below s n0 kc ks Q (T.setTop (mkF m pc' L (.int (f i) :: S)))) : Goes p e below s n0 kc ks Q (T.setTop (mkF m pc L (.int j :: .ref a :: S))) := by
  obtain ⟨⟨hx, rfl, rfl, hown, hnm, rfl, hlk, hZ, hn0⟩, locs, X, rfl, N⟩ := P
  subst hp
  obtain ⟨-, cl, Ar, sz, r⟩ := A
  exact k.via fun t q => X.baloadBooleans hx (j := j) (v := .int (f i)) Ar.1 (State.isArrayOf_alike hZ.alike Ar.2.1) Ar.2.2 (idx_in' hj (by omega)) (by rw [(idx hj).2]; exact r i hi) (g := mkF m pc L (.int j :: .ref a :: S)) rfl rfl hd _ q
theorem iastore (P : Pos Z y bytes maxL ret n0 p l e R s m args below meth c T h cells slots) {a : Addr} {n i : Nat} {f : Nat → Int32} {j x : Int32} (A : Ints Z h a .int n f) (hj : j.toInt = (i : Int)) (hi : i < n) (hg : n0 ≤ a) (hd : decode bytes pc = .ok (.iastore, 1)) (hp : pc + 1 = pc') (k : ∀ T' h', Pos Z y bytes maxL ret n0 p l e R s m args below meth c T' h' cells slots → Wr h h' a i (.int (x)) → Goes p e below s n0 kc ks Q (T'.setTop (mkF m pc' L S))) : Goes p e below s n0 kc ks Q (T.setTop (mkF m pc L (.int x :: .int j :: .ref a :: S))) := by
  obtain ⟨⟨hx, rfl, rfl, hown, hnm, rfl, hlk, hZ, hn0⟩, locs, X, rfl, N⟩ := P
  subst hp
  obtain ⟨-, cl, Ar, sz, r⟩ := A
  obtain ⟨T', h', X', e', W', st⟩ := stI X hx hZ rfl Ar (j := j) (x := x) (idx_in' hj (by omega)) (g := mkF m pc L (.int x :: .int j :: .ref a :: S)) rfl rfl hd
  have hP := Fr.snoc X' N hg
  rw [(idx hj).2] at W'
  exact (k T' h' ⟨⟨hx, rfl, rfl, hown, hnm, rfl, hlk, hZ, hn0⟩, _, X', e', hP⟩ W').via st
theorem bastore (P : Pos Z y bytes maxL ret n0 p l e R s m args below meth c T h cells slots) {a : Addr} {n i : Nat} {f : Nat → Int32} {j x : Int32} (A : Ints Z h a .byte n f) (hj : j.toInt = (i : Int)) (hi : i < n) (hg : n0 ≤ a) (hd : decode bytes pc = .ok (.bastore, 1)) (hp : pc + 1 = pc') (k : ∀ T' h', Pos Z y bytes maxL ret n0 p l e R s m args below meth c T' h' cells slots → Wr h h' a i (.int (nar .byte x)) → Goes p e below s n0 kc ks Q (T'.setTop (mkF m pc' L S))) : Goes p e below s n0 kc ks Q (T.setTop (mkF m pc L (.int x :: .int j :: .ref a :: S))) := by
  obtain ⟨⟨hx, rfl, rfl, hown, hnm, rfl, hlk, hZ, hn0⟩, locs, X, rfl, N⟩ := P
  subst hp
  obtain ⟨-, cl, Ar, sz, r⟩ := A
  obtain ⟨T', h', X', e', W', st⟩ := stB X hx hZ rfl Ar (j := j) (x := x) (idx_in' hj (by omega)) (g := mkF m pc L (.int x :: .int j :: .ref a :: S)) rfl rfl hd
  have hP := Fr.snoc X' N hg
  rw [(idx hj).2] at W'
  exact (k T' h' ⟨⟨hx, rfl, rfl, hown, hnm, rfl, hlk, hZ, hn0⟩, _, X', e', hP⟩ W').via st
theorem zastore (P : Pos Z y bytes maxL ret n0 p l e R s m args below meth c T h cells slots) {a : Addr} {n i : Nat} {f : Nat → Int32} {j x : Int32} (A : Ints Z h a .boolean n f) (hj : j.toInt = (i : Int)) (hi : i < n) (hg : n0 ≤ a) (hd : decode bytes pc = .ok (.bastore, 1)) (hp : pc + 1 = pc') (k : ∀ T' h', Pos Z y bytes maxL ret n0 p l e R s m args below meth c T' h' cells slots → Wr h h' a i (.int (nar .boolean x)) → Goes p e below s n0 kc ks Q (T'.setTop (mkF m pc' L S))) : Goes p e below s n0 kc ks Q (T.setTop (mkF m pc L (.int x :: .int j :: .ref a :: S))) := by
  obtain ⟨⟨hx, rfl, rfl, hown, hnm, rfl, hlk, hZ, hn0⟩, locs, X, rfl, N⟩ := P
  subst hp
  obtain ⟨-, cl, Ar, sz, r⟩ := A
  obtain ⟨T', h', X', e', W', st⟩ := stZ X hx hZ rfl Ar (j := j) (x := x) (idx_in' hj (by omega)) (g := mkF m pc L (.int x :: .int j :: .ref a :: S)) rfl rfl hd
  have hP := Fr.snoc X' N hg
  rw [(idx hj).2] at W'
  exact (k T' h' ⟨⟨hx, rfl, rfl, hown, hnm, rfl, hlk, hZ, hn0⟩, _, X', e', hP⟩ W').via st
theorem arraylength (P : Pos Z y bytes maxL ret n0 p l e R s m args below meth c T h cells slots) {a : Addr} {n : Nat} {f : Nat → Int32} {ty : FieldType} {z : Int32} (A : Ints Z h a ty n f) (hz : z.toInt = (n : Int)) (hd : decode bytes pc = .ok (.arraylength, 1)) (hp : pc + 1 = pc') (k : Goes p e below s n0 kc ks Q (T.setTop (mkF m pc' L (.int z :: S)))) : Goes p e below s n0 kc ks Q (T.setTop (mkF m pc L (.ref a :: S))) := by
  obtain ⟨⟨hx, rfl, rfl, hown, hnm, rfl, hlk, hZ, hn0⟩, locs, X, rfl, N⟩ := P
  subst hp
  obtain ⟨hn, cl, Ar, sz, r⟩ := A
  have e' : cl.slots.size.toInt32 = z := by rw [sz, ← (idx hz).2]; exact (back32 (idx hz).1).1
  exact k.via fun t q => X.arraylength hx Ar.1 (State.isArrayOf_alike hZ.alike Ar.2.1) (g := mkF m pc L (.ref a :: S)) rfl rfl hd _ (by rw [e']; exact q)
theorem newarray (P : Pos Z y bytes maxL ret n0 p l e R s m args below meth c T h cells slots) {aty : ArrayType} {z : Int32} {N cap cells' slots' : Nat} (w : (Jvm.Cond.arrayClass (newarray.typeOf aty)).before a0 Z = true) (hdv : defaultValue (newarray.typeOf aty) = .int 0) (hz : z.toInt = (N : Int)) (hcap : N ≤ cap) (hb : cap * 8 ≤ 536870912) (hd : decode bytes pc = .ok (.newarray aty, 2)) (hc : cells + 1 = cells') (hs : slots + cap = slots') (hc' : cells' ≤ R.cells) (hs' : slots' ≤ R.slots) (hp : pc + 2 = pc') (k : ∀ T' h' b, b = h.size → n0 ≤ b → Pos Z y bytes maxL ret n0 p l e R s m args below meth c T' h' cells' slots' → Ext h h' → Ints Z h' b (newarray.typeOf aty) N (fun _ => 0) → Goes p e below s n0 kc ks Q (T'.setTop (mkF m pc' L (.ref b :: S)))) : Goes p e below s n0 kc ks Q (T.setTop (mkF m pc L (.int z :: S))) := by
  obtain ⟨⟨hx, rfl, rfl, hown, hnm, rfl, hlk, hZ, hn0⟩, locs, X, rfl, NF⟩ := P
  subst hp hc hs
  obtain ⟨q1, q2⟩ := idx hz
  obtain ⟨T', h', cA, X', e', E', A', st⟩ := newP X hx hZ w rfl (g := mkF m pc L (.int z :: S)) rfl hd rfl q1 (cap := cap) (by omega) hb hc' hs'
  have h32 := (back32 q1).2
  refine (k T' h' _ rfl (Nat.le_trans hn0 X.same.2.1) ⟨⟨hx, rfl, rfl, hown, hnm, rfl, hlk, hZ, hn0⟩, _, X', e', NF⟩ E' ⟨by omega, _, A', by rw [sz_new]; exact q2, fun i hi => ?_⟩).via st
  show (Array.replicate z.toNatClampNeg (defaultValue _))[i]? = some (.int 0)
  rw [hdv, Array.getElem?_replicate, if_pos (by omega)]
theorem top {x x' : Int32} (h : x = x') (k : Goes p e below s n0 kc ks Q (T.setTop (mkF m pc L (.int x' :: S)))) : Goes p e below s n0 kc ks Q (T.setTop (mkF m pc L (.int x :: S))) := by subst h; exact k
theorem topL {x x' : Int64} (h : x = x') (k : Goes p e below s n0 kc ks Q (T.setTop (mkF m pc L (.long x' :: S)))) : Goes p e below s n0 kc ks Q (T.setTop (mkF m pc L (.long x :: S))) := by subst h; exact k
theorem top1 {x x' : Int32} {u : Value} (h : x = x') (k : Goes p e below s n0 kc ks Q (T.setTop (mkF m pc L (u :: .int x' :: S)))) : Goes p e below s n0 kc ks Q (T.setTop (mkF m pc L (u :: .int x :: S))) := by subst h; exact k
theorem lswHit (P : Pos Z y bytes maxL ret n0 p l e R s m args below meth c T h cells slots) {x : Int32} {df a off : Int} {pairs : Array (Int × Int)} {len : Nat} (hd : decode bytes pc = .ok (.lookupswitch df pairs, len)) (hs : (pairs.toList.zip (pairs.toList.drop 1)).all (fun (a, next) => a.1 < next.1) = true) (hf : pairs.find? (·.1 == x.toInt) = some (a, off)) (ho : 0 ≤ (pc : Int) + off) (hp : ((pc : Int) + off).toNat = pc') (k : Goes p e below s n0 kc ks Q (T.setTop (mkF m pc' L S))) : Goes p e below s n0 kc ks Q (T.setTop (mkF m pc L (.int x :: S))) := by
  obtain ⟨⟨hx, rfl, rfl, hown, hnm, rfl, hlk, hZ, hn0⟩, locs, X, rfl, N⟩ := P
  subst hp
  exact k.via fun t q => X.lookupswitchHit hx (g := mkF m pc L (.int x :: S)) rfl rfl hd hs hf ho _ q
theorem lswMiss (P : Pos Z y bytes maxL ret n0 p l e R s m args below meth c T h cells slots) {x : Int32} {df : Int} {pairs : Array (Int × Int)} {len : Nat} (hd : decode bytes pc = .ok (.lookupswitch df pairs, len)) (hs : (pairs.toList.zip (pairs.toList.drop 1)).all (fun (a, next) => a.1 < next.1) = true) (hf : ∀ q ∈ pairs.toList, q.1 ≠ x.toInt) (ho : 0 ≤ (pc : Int) + df) (hp : ((pc : Int) + df).toNat = pc') (k : Goes p e below s n0 kc ks Q (T.setTop (mkF m pc' L S))) : Goes p e below s n0 kc ks Q (T.setTop (mkF m pc L (.int x :: S))) := by
  obtain ⟨⟨hx, rfl, rfl, hown, hnm, rfl, hlk, hZ, hn0⟩, locs, X, rfl, N⟩ := P
  subst hp
  exact k.via fun t q => X.lookupswitchMiss hx (g := mkF m pc L (.int x :: S)) rfl rfl hd hs (find_miss hf) ho _ q
theorem tswIn (P : Pos Z y bytes maxL ret n0 p l e R s m args below meth c T h cells slots) {x : Int32} {df lo hi off : Int} {offs : Array Int} {len : Nat} (hd : decode bytes pc = .ok (.tableswitch df lo hi offs, len)) (hin : ¬ (x.toInt < lo ∨ x.toInt > hi)) (hf : offs[(x.toInt - lo).toNat]? = some off) (ho : 0 ≤ (pc : Int) + off) (hp : ((pc : Int) + off).toNat = pc') (k : Goes p e below s n0 kc ks Q (T.setTop (mkF m pc' L S))) : Goes p e below s n0 kc ks Q (T.setTop (mkF m pc L (.int x :: S))) := by
  obtain ⟨⟨hx, rfl, rfl, hown, hnm, rfl, hlk, hZ, hn0⟩, locs, X, rfl, N⟩ := P
  exact k.via fun t q => XS.tswIn X.here hx rfl (pc0 := pc) (pc' := pc') rfl hd rfl hin hf ho hp q
end Plain
end G
end Jvm.OwnW
namespace Jvm.Pilot.@@N@@
open Jvm Jvm.ClassFile Sem Op Lib Jvm.Free Jvm.Stand Jvm.LawKit Jvm.RoadKit Jvm.OwnW Bundle Jvm.Pilot.@@N@@.Jvm.D
theorem wd {Z : State} {a0 : Array Value} (hw : ∀ d ∈ tables_1, d.before a0 Z = true) {i : Nat} {d : Jvm.Cond} (h : tables_1[i]? = some d) : d.before a0 Z = true := hw _ (List.mem_of_getElem? h)
def own_dig (f : Nat → Int32) : Nat → Nat → Int32 → Int32
  | _, 0, v => v
  | i, n + 1, v => if f i < 48 then -1 else if 57 < f i then -1 else own_dig f (i + 1) n (v * 10 + (f i - 48))
theorem own_end (f : Nat → Int32) (i t : Nat) (v : Int32) (h : t ≤ i) : own_dig f i (t - i) v = v := by rw [Nat.sub_eq_zero_of_le h]; rfl
theorem own_step (f : Nat → Int32) (i t : Nat) (v : Int32) (h : i < t) : own_dig f i (t - i) v = if f i < 48 then -1 else if 57 < f i then -1 else own_dig f (i + 1) (t - (i + 1)) (v * 10 + (f i - 48)) := by
  rw [show t - i = (t - (i + 1)) + 1 by omega]; rfl
theorem own_lt {j t : Int32} {i k : Nat} (hj : j.toInt = (i : Int)) (ht : t.toInt = (k : Int)) (h : j < t) : i < k := by rw [Int32.lt_iff_toInt_lt] at h; omega
theorem own_ge {j t : Int32} {i k : Nat} (hj : j.toInt = (i : Int)) (ht : t.toInt = (k : Int)) (h : ¬ j < t) : k ≤ i := by rw [Int32.lt_iff_toInt_lt] at h; omega
theorem own_inc {j : Int32} {i : Nat} (hj : j.toInt = (i : Int)) (hi : i < 1000) : (j + 1).toInt = ((i + 1 : Nat) : Int) := by
  have h1 := c_iadd j 1
  have h2 := rng32 (j + 1)
  have h3 : (1 : Int32).toInt = 1 := by decide
  omega
theorem d1_0 : decode method_3_code 0 = .ok (.iload_n 0, 1) := by decide +kernel
theorem d1_1 : decode method_3_code 1 = .ok (.bipush 8, 2) := by decide +kernel
theorem d1_3 : decode method_3_code 3 = .ok (.iload_n 1, 1) := by decide +kernel
theorem d1_4 : decode method_3_code 4 = .ok (.imul, 1) := by decide +kernel
theorem d1_5 : decode method_3_code 5 = .ok (.iushr, 1) := by decide +kernel
theorem d1_6 : decode method_3_code 6 = .ok (.sipush 255, 3) := by decide +kernel
theorem d1_9 : decode method_3_code 9 = .ok (.iand, 1) := by decide +kernel
theorem d1_10 : decode method_3_code 10 = .ok (.istore_n 3, 1) := by decide +kernel
theorem d1_11 : decode method_3_code 11 = .ok (.iload_n 2, 1) := by decide +kernel
theorem d1_12 : decode method_3_code 12 = .ok (.iload_n 1, 1) := by decide +kernel
theorem d1_13 : decode method_3_code 13 = .ok (.iushr, 1) := by decide +kernel
theorem d1_14 : decode method_3_code 14 = .ok (.iconst 1, 1) := by decide +kernel
theorem d1_15 : decode method_3_code 15 = .ok (.iand, 1) := by decide +kernel
theorem d1_16 : decode method_3_code 16 = .ok (.ifCond .eq 12, 3) := by decide +kernel
theorem d1_19 : decode method_3_code 19 = .ok (.bipush 48, 2) := by decide +kernel
theorem d1_21 : decode method_3_code 21 = .ok (.iload_n 3, 1) := by decide +kernel
theorem d1_22 : decode method_3_code 22 = .ok (.bipush 10, 2) := by decide +kernel
theorem d1_24 : decode method_3_code 24 = .ok (.irem, 1) := by decide +kernel
theorem d1_25 : decode method_3_code 25 = .ok (.iadd, 1) := by decide +kernel
theorem d1_26 : decode method_3_code 26 = .ok (.i2b, 1) := by decide +kernel
theorem d1_27 : decode method_3_code 27 = .ok (.ireturn, 1) := by decide +kernel
theorem d1_28 : decode method_3_code 28 = .ok (.iload_n 3, 1) := by decide +kernel
theorem d1_29 : decode method_3_code 29 = .ok (.i2b, 1) := by decide +kernel
theorem d1_30 : decode method_3_code 30 = .ok (.ireturn, 1) := by decide +kernel
theorem pn_1 : plainName "com/example/tophat/tophat/io/DatesDigitsPinLaw" = true := by first | (simp [plainName, overriddenIn]; done) | decide +kernel
theorem pd_1 : parseMethodDescriptor "(III)B" = some ⟨[.int, .int, .int], some .byte⟩ := by decide +kernel
def f1 (p0 : Int32) (p1 : Int32) (p2 : Int32) : Int32 := (if (((p2.toUInt32 >>> (p1 &&& 31).toUInt32).toInt32) &&& (1 : Int32)) = 0 then nar .byte ((((p0.toUInt32 >>> (((8 : Int32) * p1) &&& 31).toUInt32).toInt32) &&& (255 : Int32)).toInt8.toInt32) else nar .byte (((48 : Int32) + ((((p0.toUInt32 >>> (((8 : Int32) * p1) &&& 31).toUInt32).toInt32) &&& (255 : Int32)) % (10 : Int32))).toInt8.toInt32))
abbrev room1 : Room := { frames := 0, cells := 0, slots := 0, locals := 0 }
def Q1 (p0 : Int32) (p1 : Int32) (p2 : Int32) (h0 : Heap) (vv : Option Value) (hh : Heap) : Prop := vv = some (.int (f1 p0 p1 p2)) ∧ h0 = hh
theorem ef_1 (m : MethodId) (p0 : Int32) (p1 : Int32) (p2 : Int32) : entryFrame m #[(.int p0), (.int p1), (.int p2)] 4 = mkF m 0 #[.val (.int p0), .val (.int p1), .val (.int p2), .unset] [] := by first | (simp [entryFrame, mkF, argsToLocals, Value.category]; done) | rfl
set_option maxRecDepth 65536 in
set_option maxHeartbeats 40000000 in
theorem rm1 {l : Launch} {Z : State} {aw : Array Value} (hw : ∀ d ∈ tables_1, d.before aw Z = true) {n0 : Nat} (p0 : Int32) (p1 : Int32) (p2 : Int32) (h0 : Heap) (hn0 : n0 ≤ h0.size) :
    Con l Z (⟨"com/example/tophat/tophat/io/DatesDigitsPinLaw", "pick", "(III)B"⟩ : MethodName) method_3_code 4 (some .byte) room1 n0 #[(.int p0), (.int p1), (.int p2)] h0 (Q1 p0 p1 p2 h0) := by
  refine Con.body (plainFor_of_name pn_1) hn0 (fun m => ef_1 m p0 p1 p2) ?_
  intro p e s m below meth c T P
  refine G.iloadN P d1_0 rfl (pc' := 1) rfl ?_
  refine G.bipush P d1_1 (v := (8 : Int32)) rfl (pc' := 3) rfl ?_
  refine G.iloadN P d1_3 rfl (pc' := 4) rfl ?_
  refine G.imul P d1_4 (pc' := 5) rfl ?_
  refine G.iushr P d1_5 (pc' := 6) rfl ?_
  refine G.sipush P d1_6 (v := (255 : Int32)) rfl (pc' := 9) rfl ?_
  refine G.iand P d1_9 (pc' := 10) rfl ?_
  obtain ⟨x1, hx1⟩ : ∃ z : Int32, (((p0.toUInt32 >>> (((8 : Int32) * p1) &&& 31).toUInt32).toInt32) &&& (255 : Int32)) = z := ⟨_, rfl⟩
  refine G.istoreN P d1_10 hx1 (L' := #[.val (.int p0), .val (.int p1), .val (.int p2), .val (.int x1)]) rfl (pc' := 11) rfl ?_
  refine G.iloadN P d1_11 rfl (pc' := 12) rfl ?_
  refine G.iloadN P d1_12 rfl (pc' := 13) rfl ?_
  refine G.iushr P d1_13 (pc' := 14) rfl ?_
  refine G.iconst P d1_14 (v := (1 : Int32)) rfl (pc' := 15) rfl ?_
  refine G.iand P d1_15 (pc' := 16) rfl ?_
  refine G.if_eq P d1_16 (by decide) (pcY := 28) (by decide) (pcN := 19) rfl (fun c16 => ?_) (fun c16 => ?_)
  · refine G.iloadN P d1_28 rfl (pc' := 29) rfl ?_
    refine G.i2b P d1_29 (pc' := 30) rfl ?_
    exact G.ireturnN P (t := .byte) rfl (by simp) rfl d1_30 (by decide) (by decide) ⟨by subst hx1; simp only [f1, if_pos c16], rfl⟩
  · refine G.bipush P d1_19 (v := (48 : Int32)) rfl (pc' := 21) rfl ?_
    refine G.iloadN P d1_21 rfl (pc' := 22) rfl ?_
    refine G.bipush P d1_22 (v := (10 : Int32)) rfl (pc' := 24) rfl ?_
    refine G.irem P d1_24 (by decide) (pc' := 25) rfl ?_
    refine G.iadd P d1_25 (pc' := 26) rfl ?_
    refine G.i2b P d1_26 (pc' := 27) rfl ?_
    exact G.ireturnN P (t := .byte) rfl (by simp) rfl d1_27 (by decide) (by decide) ⟨by subst hx1; simp only [f1, if_neg c16], rfl⟩
theorem d2_0 : decode method_4_code 0 = .ok (.iload_n 1, 1) := by decide +kernel
theorem d2_1 : decode method_4_code 1 = .ok (.iload_n 2, 1) := by decide +kernel
theorem d2_2 : decode method_4_code 2 = .ok (.if_icmp .lt 8, 3) := by decide +kernel
theorem d2_5 : decode method_4_code 5 = .ok (.iload_n 1, 1) := by decide +kernel
theorem d2_6 : decode method_4_code 6 = .ok (.iload_n 3, 1) := by decide +kernel
theorem d2_7 : decode method_4_code 7 = .ok (.if_icmp .lt 5, 3) := by decide +kernel
theorem d2_10 : decode method_4_code 10 = .ok (.iconst 0, 1) := by decide +kernel
theorem d2_11 : decode method_4_code 11 = .ok (.ireturn, 1) := by decide +kernel
theorem d2_12 : decode method_4_code 12 = .ok (.aload_n 0, 1) := by decide +kernel
theorem d2_13 : decode method_4_code 13 = .ok (.iload_n 1, 1) := by decide +kernel
theorem d2_14 : decode method_4_code 14 = .ok (.baload, 1) := by decide +kernel
theorem d2_15 : decode method_4_code 15 = .ok (.istore 4, 2) := by decide +kernel
theorem d2_17 : decode method_4_code 17 = .ok (.iload 4, 2) := by decide +kernel
theorem d2_19 : decode method_4_code 19 = .ok (.bipush 48, 2) := by decide +kernel
theorem d2_21 : decode method_4_code 21 = .ok (.if_icmp .lt 10, 3) := by decide +kernel
theorem d2_24 : decode method_4_code 24 = .ok (.iload 4, 2) := by decide +kernel
theorem d2_26 : decode method_4_code 26 = .ok (.bipush 57, 2) := by decide +kernel
theorem d2_28 : decode method_4_code 28 = .ok (.if_icmp .le 5, 3) := by decide +kernel
theorem d2_31 : decode method_4_code 31 = .ok (.iconst (-1), 1) := by decide +kernel
theorem d2_32 : decode method_4_code 32 = .ok (.ireturn, 1) := by decide +kernel
theorem d2_33 : decode method_4_code 33 = .ok (.iload_n 3, 1) := by decide +kernel
theorem d2_34 : decode method_4_code 34 = .ok (.iconst 1, 1) := by decide +kernel
theorem d2_35 : decode method_4_code 35 = .ok (.isub, 1) := by decide +kernel
theorem d2_36 : decode method_4_code 36 = .ok (.iload_n 1, 1) := by decide +kernel
theorem d2_37 : decode method_4_code 37 = .ok (.isub, 1) := by decide +kernel
theorem d2_38 : decode method_4_code 38 = .ok (.istore 5, 2) := by decide +kernel
theorem d2_40 : decode method_4_code 40 = .ok (.iload 5, 2) := by decide +kernel
theorem d2_42 : decode method_4_code 42 = .ok (.ifCond .ne 7, 3) := by decide +kernel
theorem d2_45 : decode method_4_code 45 = .ok (.iconst 1, 1) := by decide +kernel
theorem d2_46 : decode method_4_code 46 = .ok (.goto 28, 3) := by decide +kernel
theorem d2_49 : decode method_4_code 49 = .ok (.iload 5, 2) := by decide +kernel
theorem d2_51 : decode method_4_code 51 = .ok (.iconst 1, 1) := by decide +kernel
theorem d2_52 : decode method_4_code 52 = .ok (.if_icmp .ne 8, 3) := by decide +kernel
theorem d2_55 : decode method_4_code 55 = .ok (.bipush 10, 2) := by decide +kernel
theorem d2_57 : decode method_4_code 57 = .ok (.goto 17, 3) := by decide +kernel
theorem d2_60 : decode method_4_code 60 = .ok (.iload 5, 2) := by decide +kernel
theorem d2_62 : decode method_4_code 62 = .ok (.iconst 2, 1) := by decide +kernel
theorem d2_63 : decode method_4_code 63 = .ok (.if_icmp .ne 8, 3) := by decide +kernel
theorem d2_66 : decode method_4_code 66 = .ok (.bipush 100, 2) := by decide +kernel
theorem d2_68 : decode method_4_code 68 = .ok (.goto 6, 3) := by decide +kernel
theorem d2_71 : decode method_4_code 71 = .ok (.sipush 1000, 3) := by decide +kernel
theorem d2_74 : decode method_4_code 74 = .ok (.istore 6, 2) := by decide +kernel
theorem d2_76 : decode method_4_code 76 = .ok (.iload 4, 2) := by decide +kernel
theorem d2_78 : decode method_4_code 78 = .ok (.bipush 48, 2) := by decide +kernel
theorem d2_80 : decode method_4_code 80 = .ok (.isub, 1) := by decide +kernel
theorem d2_81 : decode method_4_code 81 = .ok (.iload 6, 2) := by decide +kernel
theorem d2_83 : decode method_4_code 83 = .ok (.imul, 1) := by decide +kernel
theorem d2_84 : decode method_4_code 84 = .ok (.ireturn, 1) := by decide +kernel
theorem pn_2 : plainName "com/example/tophat/tophat/io/DatesDigitsPinLaw" = true := by first | (simp [plainName, overriddenIn]; done) | decide +kernel
theorem pd_2 : parseMethodDescriptor "([BIII)I" = some ⟨[(.array .byte), .int, .int, .int], some .int⟩ := by decide +kernel
def f2 (p1 : Int32) (p2 : Int32) (p3 : Int32) (f : Nat → Int32) (i : Nat) : Int32 := (if p1 < p2 then (0 : Int32) else (if p1 < p3 then (if (f i) < (48 : Int32) then (-1 : Int32) else (if (57 : Int32) < (f i) then (-1 : Int32) else (((f i) - (48 : Int32)) * (if ((p3 - (1 : Int32)) - p1) = 0 then (1 : Int32) else (if ((p3 - (1 : Int32)) - p1) = (1 : Int32) then (10 : Int32) else (if ((p3 - (1 : Int32)) - p1) = (2 : Int32) then (100 : Int32) else (1000 : Int32))))))) else (0 : Int32)))
abbrev room2 : Room := { frames := 0, cells := 0, slots := 0, locals := 0 }
def Q2 (Z : State) (a0 : Addr) (p1 : Int32) (p2 : Int32) (p3 : Int32) (f : Nat → Int32) (i : Nat) (h0 : Heap) (vv : Option Value) (hh : Heap) : Prop := vv = some (.int (f2 p1 p2 p3 f i)) ∧ h0 = hh
theorem ef_2 (m : MethodId) (a0 : Addr) (p1 : Int32) (p2 : Int32) (p3 : Int32) : entryFrame m #[(.ref a0), (.int p1), (.int p2), (.int p3)] 7 = mkF m 0 #[.val (.ref a0), .val (.int p1), .val (.int p2), .val (.int p3), .unset, .unset, .unset] [] := by first | (simp [entryFrame, mkF, argsToLocals, Value.category]; done) | rfl
set_option maxRecDepth 65536 in
set_option maxHeartbeats 40000000 in
theorem rm2 {l : Launch} {Z : State} {aw : Array Value} (hw : ∀ d ∈ tables_1, d.before aw Z = true) {n0 : Nat} (a0 : Addr) (p1 : Int32) (p2 : Int32) (p3 : Int32) (f : Nat → Int32) (i : Nat) (h0 : Heap) (A : Ints Z h0 a0 .byte 4 f) (hi : p1.toInt = (i : Int)) (hi4 : i < 4) (hn0 : n0 ≤ h0.size) :
    Con l Z (⟨"com/example/tophat/tophat/io/DatesDigitsPinLaw", "contrib", "([BIII)I"⟩ : MethodName) method_4_code 7 (some .int) room2 n0 #[(.ref a0), (.int p1), (.int p2), (.int p3)] h0 (Q2 Z a0 p1 p2 p3 f i h0) := by
  refine Con.body (plainFor_of_name pn_2) hn0 (fun m => ef_2 m a0 p1 p2 p3) ?_
  intro p e s m below meth c T P
  refine G.iloadN P d2_0 rfl (pc' := 1) rfl ?_
  refine G.iloadN P d2_1 rfl (pc' := 2) rfl ?_
  refine G.icmp_lt P d2_2 (by decide) (pcY := 10) (by decide) (pcN := 5) rfl (fun c2 => ?_) (fun c2 => ?_)
  · refine G.iconst P d2_10 (v := (0 : Int32)) rfl (pc' := 11) rfl ?_
    exact G.ireturn P rfl d2_11 (by decide) (by decide) ⟨by simp only [f2, if_pos c2], rfl⟩
  · refine G.iloadN P d2_5 rfl (pc' := 6) rfl ?_
    refine G.iloadN P d2_6 rfl (pc' := 7) rfl ?_
    refine G.icmp_lt P d2_7 (by decide) (pcY := 12) (by decide) (pcN := 10) rfl (fun c7 => ?_) (fun c7 => ?_)
    · refine G.aloadN P d2_12 rfl rfl (pc' := 13) rfl ?_
      refine G.iloadN P d2_13 rfl (pc' := 14) rfl ?_
      refine G.baload P A (i := i) hi hi4 d2_14 (pc' := 15) rfl ?_
      generalize hx2 : (f i) = x2
      refine G.istore P d2_15 rfl (L' := #[.val (.ref a0), .val (.int p1), .val (.int p2), .val (.int p3), .val (.int x2), .unset, .unset]) rfl (pc' := 17) rfl ?_
      refine G.iload P d2_17 rfl (pc' := 19) rfl ?_
      refine G.bipush P d2_19 (v := (48 : Int32)) rfl (pc' := 21) rfl ?_
      refine G.icmp_lt P d2_21 (by decide) (pcY := 31) (by decide) (pcN := 24) rfl (fun c21 => ?_) (fun c21 => ?_)
      · refine G.iconst P d2_31 (v := (-1 : Int32)) rfl (pc' := 32) rfl ?_
        subst hx2
        exact G.ireturn P rfl d2_32 (by decide) (by decide) ⟨by simp only [f2, if_neg c2, if_pos c7, if_pos c21], rfl⟩
      · refine G.iload P d2_24 rfl (pc' := 26) rfl ?_
        refine G.bipush P d2_26 (v := (57 : Int32)) rfl (pc' := 28) rfl ?_
        refine G.icmp_le P d2_28 (by decide) (pcY := 33) (by decide) (pcN := 31) rfl (fun c28 => ?_) (fun c28 => ?_)
        · refine G.iloadN P d2_33 rfl (pc' := 34) rfl ?_
          refine G.iconst P d2_34 (v := (1 : Int32)) rfl (pc' := 35) rfl ?_
          refine G.isub P d2_35 (pc' := 36) rfl ?_
          refine G.iloadN P d2_36 rfl (pc' := 37) rfl ?_
          refine G.isub P d2_37 (pc' := 38) rfl ?_
          obtain ⟨x3, hx3⟩ : ∃ z : Int32, ((p3 - (1 : Int32)) - p1) = z := ⟨_, rfl⟩
          refine G.istore P d2_38 hx3 (L' := #[.val (.ref a0), .val (.int p1), .val (.int p2), .val (.int p3), .val (.int x2), .val (.int x3), .unset]) rfl (pc' := 40) rfl ?_
          refine G.iload P d2_40 rfl (pc' := 42) rfl ?_
          have J74_42 : ∀ (z4 : Int32), z4 = (if x3 = 0 then (1 : Int32) else (if x3 = (1 : Int32) then (10 : Int32) else (if x3 = (2 : Int32) then (100 : Int32) else (1000 : Int32)))) → Goes p e below s n0 room2.cells room2.slots (Q2 Z a0 p1 p2 p3 f i h0) (T.setTop (mkF m 74 #[.val (.ref a0), .val (.int p1), .val (.int p2), .val (.int p3), .val (.int x2), .val (.int x3), .unset] [(.int z4)])) := by
            intro z4 hz4
            refine G.istore P d2_74 rfl (L' := #[.val (.ref a0), .val (.int p1), .val (.int p2), .val (.int p3), .val (.int x2), .val (.int x3), .val (.int z4)]) rfl (pc' := 76) rfl ?_
            refine G.iload P d2_76 rfl (pc' := 78) rfl ?_
            refine G.bipush P d2_78 (v := (48 : Int32)) rfl (pc' := 80) rfl ?_
            refine G.isub P d2_80 (pc' := 81) rfl ?_
            refine G.iload P d2_81 rfl (pc' := 83) rfl ?_
            refine G.imul P d2_83 (pc' := 84) rfl ?_
            subst hx2 hx3 hz4
            exact G.ireturn P rfl d2_84 (by decide) (by decide) ⟨by simp only [f2, if_neg c2, if_pos c7, if_neg c21, if_neg c28], rfl⟩
          refine G.if_ne P d2_42 (by decide) (pcY := 49) (by decide) (pcN := 45) rfl (fun c42 => ?_) (fun c42 => ?_)
          · refine G.iload P d2_49 rfl (pc' := 51) rfl ?_
            refine G.iconst P d2_51 (v := (1 : Int32)) rfl (pc' := 52) rfl ?_
            refine G.icmp_ne P d2_52 (by decide) (pcY := 60) (by decide) (pcN := 55) rfl (fun c52 => ?_) (fun c52 => ?_)
            · refine G.iload P d2_60 rfl (pc' := 62) rfl ?_
              refine G.iconst P d2_62 (v := (2 : Int32)) rfl (pc' := 63) rfl ?_
              refine G.icmp_ne P d2_63 (by decide) (pcY := 71) (by decide) (pcN := 66) rfl (fun c63 => ?_) (fun c63 => ?_)
              · refine G.sipush P d2_71 (v := (1000 : Int32)) rfl (pc' := 74) rfl ?_
                exact J74_42 _ (by simp only [if_neg c42, if_neg c52, if_neg c63])
              · refine G.bipush P d2_66 (v := (100 : Int32)) rfl (pc' := 68) rfl ?_
                refine G.goto P d2_68 (by decide) (pc' := 74) (by decide) ?_
                exact J74_42 _ (by simp only [if_neg c42, if_neg c52, if_pos c63])
            · refine G.bipush P d2_55 (v := (10 : Int32)) rfl (pc' := 57) rfl ?_
              refine G.goto P d2_57 (by decide) (pc' := 74) (by decide) ?_
              exact J74_42 _ (by simp only [if_neg c42, if_pos c52])
          · refine G.iconst P d2_45 (v := (1 : Int32)) rfl (pc' := 46) rfl ?_
            refine G.goto P d2_46 (by decide) (pc' := 74) (by decide) ?_
            exact J74_42 _ (by simp only [if_pos c42])
        · refine G.iconst P d2_31 (v := (-1 : Int32)) rfl (pc' := 32) rfl ?_
          subst hx2
          exact G.ireturn P rfl d2_32 (by decide) (by decide) ⟨by simp only [f2, if_neg c2, if_pos c7, if_neg c21, if_pos c28], rfl⟩
    · refine G.iconst P d2_10 (v := (0 : Int32)) rfl (pc' := 11) rfl ?_
      exact G.ireturn P rfl d2_11 (by decide) (by decide) ⟨by simp only [f2, if_neg c2, if_neg c7], rfl⟩
theorem d3_0 : decode prog_45_method_5_code 0 = .ok (.iconst 0, 1) := by decide +kernel
theorem d3_1 : decode prog_45_method_5_code 1 = .ok (.istore_n 3, 1) := by decide +kernel
theorem d3_2 : decode prog_45_method_5_code 2 = .ok (.iload_n 1, 1) := by decide +kernel
theorem d3_3 : decode prog_45_method_5_code 3 = .ok (.istore 4, 2) := by decide +kernel
theorem d3_5 : decode prog_45_method_5_code 5 = .ok (.iload 4, 2) := by decide +kernel
theorem d3_7 : decode prog_45_method_5_code 7 = .ok (.iload_n 2, 1) := by decide +kernel
theorem d3_8 : decode prog_45_method_5_code 8 = .ok (.if_icmp .ge 42, 3) := by decide +kernel
theorem d3_11 : decode prog_45_method_5_code 11 = .ok (.aload_n 0, 1) := by decide +kernel
theorem d3_12 : decode prog_45_method_5_code 12 = .ok (.iload 4, 2) := by decide +kernel
theorem d3_14 : decode prog_45_method_5_code 14 = .ok (.baload, 1) := by decide +kernel
theorem d3_15 : decode prog_45_method_5_code 15 = .ok (.istore 5, 2) := by decide +kernel
theorem d3_17 : decode prog_45_method_5_code 17 = .ok (.iload 5, 2) := by decide +kernel
theorem d3_19 : decode prog_45_method_5_code 19 = .ok (.bipush 48, 2) := by decide +kernel
theorem d3_21 : decode prog_45_method_5_code 21 = .ok (.if_icmp .lt 10, 3) := by decide +kernel
theorem d3_24 : decode prog_45_method_5_code 24 = .ok (.iload 5, 2) := by decide +kernel
theorem d3_26 : decode prog_45_method_5_code 26 = .ok (.bipush 57, 2) := by decide +kernel
theorem d3_28 : decode prog_45_method_5_code 28 = .ok (.if_icmp .le 5, 3) := by decide +kernel
theorem d3_31 : decode prog_45_method_5_code 31 = .ok (.iconst (-1), 1) := by decide +kernel
theorem d3_32 : decode prog_45_method_5_code 32 = .ok (.ireturn, 1) := by decide +kernel
theorem d3_33 : decode prog_45_method_5_code 33 = .ok (.iload_n 3, 1) := by decide +kernel
theorem d3_34 : decode prog_45_method_5_code 34 = .ok (.bipush 10, 2) := by decide +kernel
theorem d3_36 : decode prog_45_method_5_code 36 = .ok (.imul, 1) := by decide +kernel
theorem d3_37 : decode prog_45_method_5_code 37 = .ok (.iload 5, 2) := by decide +kernel
theorem d3_39 : decode prog_45_method_5_code 39 = .ok (.bipush 48, 2) := by decide +kernel
theorem d3_41 : decode prog_45_method_5_code 41 = .ok (.isub, 1) := by decide +kernel
theorem d3_42 : decode prog_45_method_5_code 42 = .ok (.iadd, 1) := by decide +kernel
theorem d3_43 : decode prog_45_method_5_code 43 = .ok (.istore_n 3, 1) := by decide +kernel
theorem d3_44 : decode prog_45_method_5_code 44 = .ok (.iinc 4 1, 3) := by decide +kernel
theorem d3_47 : decode prog_45_method_5_code 47 = .ok (.goto (-42), 3) := by decide +kernel
theorem d3_50 : decode prog_45_method_5_code 50 = .ok (.iload_n 3, 1) := by decide +kernel
theorem d3_51 : decode prog_45_method_5_code 51 = .ok (.ireturn, 1) := by decide +kernel
theorem pn_3 : plainName "com/example/tophat/tophat/io/Dates" = true := by first | (simp [plainName, overriddenIn]; done) | decide +kernel
theorem pd_3 : parseMethodDescriptor "([BII)I" = some ⟨[(.array .byte), .int, .int], some .int⟩ := by decide +kernel
abbrev room3 : Room := { frames := 0, cells := 0, slots := 0, locals := 0 }
def Q3 (Z : State) (a0 : Addr) (p1 : Int32) (p2 : Int32) (f : Nat → Int32) (i : Nat) (t : Nat) (h0 : Heap) (vv : Option Value) (hh : Heap) : Prop := vv = some (.int (own_dig f i (t - i) 0)) ∧ h0 = hh
theorem ef_3 (m : MethodId) (a0 : Addr) (p1 : Int32) (p2 : Int32) : entryFrame m #[(.ref a0), (.int p1), (.int p2)] 6 = mkF m 0 #[.val (.ref a0), .val (.int p1), .val (.int p2), .unset, .unset, .unset] [] := by first | (simp [entryFrame, mkF, argsToLocals, Value.category]; done) | rfl
set_option maxRecDepth 65536 in
set_option maxHeartbeats 40000000 in
theorem rm3 {l : Launch} {Z : State} {aw : Array Value} (hw : ∀ d ∈ tables_1, d.before aw Z = true) {n0 : Nat} (a0 : Addr) (p1 : Int32) (p2 : Int32) (f : Nat → Int32) (i : Nat) (t : Nat) (h0 : Heap) (A : Ints Z h0 a0 .byte 4 f) (hi : p1.toInt = (i : Int)) (ht : p2.toInt = (t : Int)) (ht4 : t ≤ 4) (hn0 : n0 ≤ h0.size) :
    Con l Z (⟨"com/example/tophat/tophat/io/Dates", "digits", "([BII)I"⟩ : MethodName) prog_45_method_5_code 6 (some .int) room3 n0 #[(.ref a0), (.int p1), (.int p2)] h0 (Q3 Z a0 p1 p2 f i t h0) := by
  refine Con.body (plainFor_of_name pn_3) hn0 (fun m => ef_3 m a0 p1 p2) ?_
  intro p e s m below meth c T P
  refine G.iconst P d3_0 (v := (0 : Int32)) rfl (pc' := 1) rfl ?_
  refine G.istoreN P d3_1 rfl (L' := #[.val (.ref a0), .val (.int p1), .val (.int p2), .val (.int (0 : Int32)), .unset, .unset]) rfl (pc' := 2) rfl ?_
  refine G.iloadN P d3_2 rfl (pc' := 3) rfl ?_
  refine G.istore P d3_3 rfl (L' := #[.val (.ref a0), .val (.int p1), .val (.int p2), .val (.int (0 : Int32)), .val (.int p1), .unset]) rfl (pc' := 5) rfl ?_
  have loop5 : ∀ (nL : Nat) (T : State) (v : Int32) (j : Int32) (i' : Nat) (sl : Slot), nL = t - i' → (j.toInt = (i' : Int)) → (One sl) → (own_dig f i (t - i) 0 = own_dig f i' (t - i') v) → Pos Z (⟨"com/example/tophat/tophat/io/Dates", "digits", "([BII)I"⟩ : MethodName) prog_45_method_5_code 6 (some .int) n0 p l e room3 s m #[(.ref a0), (.int p1), (.int p2)] below meth c T h0 0 0 → Goes p e below s n0 room3.cells room3.slots (Q3 Z a0 p1 p2 f i t h0) (T.setTop (mkF m 5 #[.val (.ref a0), .val (.int p1), .val (.int p2), .val (.int v), .val (.int j), sl] [])) := by
    intro nL
    induction nL using Nat.strongRecOn with
    | _ nL ih5 =>
      intro T v j i' sl hn5 hj hsl hv P
      refine G.iload P d3_5 rfl (pc' := 7) rfl ?_
      refine G.iloadN P d3_7 rfl (pc' := 8) rfl ?_
      refine G.icmp_ge P d3_8 (by decide) (pcY := 50) (by decide) (pcN := 11) rfl (fun c8 => ?_) (fun c8 => ?_)
      · refine G.iloadN P d3_50 rfl (pc' := 51) rfl ?_
        exact G.ireturn P rfl d3_51 (by decide) (by decide) ⟨congrArg (fun z => some (Value.int z)) (by rw [hv, own_end _ _ _ _ (own_ge hj ht c8)]), rfl⟩
      · refine G.aloadN P d3_11 rfl rfl (pc' := 12) rfl ?_
        refine G.iload P d3_12 rfl (pc' := 14) rfl ?_
        refine G.baload P A (i := i') hj (by have q := own_lt hj ht c8; omega) d3_14 (pc' := 15) rfl ?_
        generalize hx5 : (f i') = x5
        refine G.istore P d3_15 rfl (L' := #[.val (.ref a0), .val (.int p1), .val (.int p2), .val (.int v), .val (.int j), .val (.int x5)]) (by rcases hsl with rfl | ⟨w, rfl, hw⟩ <;> first | rfl | (cases w <;> first | rfl | (simp [Value.category] at hw))) (pc' := 17) rfl ?_
        refine G.iload P d3_17 rfl (pc' := 19) rfl ?_
        refine G.bipush P d3_19 (v := (48 : Int32)) rfl (pc' := 21) rfl ?_
        refine G.icmp_lt P d3_21 (by decide) (pcY := 31) (by decide) (pcN := 24) rfl (fun c21 => ?_) (fun c21 => ?_)
        · refine G.iconst P d3_31 (v := (-1 : Int32)) rfl (pc' := 32) rfl ?_
          subst hx5
          exact G.ireturn P rfl d3_32 (by decide) (by decide) ⟨congrArg (fun z => some (Value.int z)) (by rw [hv, own_step _ _ _ _ (own_lt hj ht c8), if_pos c21]), rfl⟩
        · refine G.iload P d3_24 rfl (pc' := 26) rfl ?_
          refine G.bipush P d3_26 (v := (57 : Int32)) rfl (pc' := 28) rfl ?_
          refine G.icmp_le P d3_28 (by decide) (pcY := 33) (by decide) (pcN := 31) rfl (fun c28 => ?_) (fun c28 => ?_)
          · refine G.iloadN P d3_33 rfl (pc' := 34) rfl ?_
            refine G.bipush P d3_34 (v := (10 : Int32)) rfl (pc' := 36) rfl ?_
            refine G.imul P d3_36 (pc' := 37) rfl ?_
            refine G.iload P d3_37 rfl (pc' := 39) rfl ?_
            refine G.bipush P d3_39 (v := (48 : Int32)) rfl (pc' := 41) rfl ?_
            refine G.isub P d3_41 (pc' := 42) rfl ?_
            refine G.iadd P d3_42 (pc' := 43) rfl ?_
            obtain ⟨x6, hx6⟩ : ∃ z : Int32, ((v * (10 : Int32)) + (x5 - (48 : Int32))) = z := ⟨_, rfl⟩
            refine G.istoreN P d3_43 hx6 (L' := #[.val (.ref a0), .val (.int p1), .val (.int p2), .val (.int x6), .val (.int j), .val (.int x5)]) rfl (pc' := 44) rfl ?_
            obtain ⟨x7, hx7⟩ : ∃ z : Int32, (j + (1 : Int32)) = z := ⟨_, rfl⟩
            refine G.iinc P d3_44 rfl (v' := x7) hx7 (L' := #[.val (.ref a0), .val (.int p1), .val (.int p2), .val (.int x6), .val (.int x7), .val (.int x5)]) rfl (pc' := 47) rfl ?_
            refine G.goto P d3_47 (by decide) (pc' := 5) (by decide) ?_
            exact ih5 _ (by have q := own_lt hj ht c8; omega) T x6 x7 (i' + 1) (.val (.int x5)) rfl (by rw [← hx7]; exact own_inc hj (by have q := own_lt hj ht c8; omega)) (One.val rfl) (by rw [hv, own_step _ _ _ _ (own_lt hj ht c8)]; subst hx5 hx6 hx7; rw [if_neg c21, if_neg c28]) P
          · refine G.iconst P d3_31 (v := (-1 : Int32)) rfl (pc' := 32) rfl ?_
            subst hx5
            exact G.ireturn P rfl d3_32 (by decide) (by decide) ⟨congrArg (fun z => some (Value.int z)) (by rw [hv, own_step _ _ _ _ (own_lt hj ht c8), if_neg c21, if_pos c28]), rfl⟩
  exact loop5 _ T (0 : Int32) p1 i .unset rfl hi One.u rfl P
theorem own_five (r f : Int32) (h : (r &&& 7) % 5 = f) : 0 ≤ f.toInt ∧ f.toInt ≤ 4 := by
  have h1 := c_mask r 7 3 (by decide) (by decide)
  have h2 := (c_irem (r &&& 7) 5 5 (by decide)).1 (by omega)
  rw [h] at h2
  omega
theorem own_nz (r f : Int32) (h : (r &&& 7) % 5 = f) : (5 : Int32) - f ≠ 0 := by
  intro q
  have h1 := own_five r f h
  have h2 := c_isub 5 f
  have h3 := rng32 (5 - f)
  have h4 : (5 : Int32).toInt = 5 := by decide
  have h5 : (5 - f).toInt = 0 := by rw [q]; decide
  omega
theorem own_rng (r f t : Int32) (h : (r &&& 7) % 5 = f) (ht : f + (((r.toUInt32 >>> ((3 : Int32) &&& 31).toUInt32).toInt32) &&& 7) % (5 - f) = t) : f.toInt = (f.toInt.toNat : Int) ∧ t.toInt = (t.toInt.toNat : Int) ∧ f.toInt.toNat ≤ t.toInt.toNat ∧ t.toInt.toNat ≤ 4 := by
  have h1 := own_five r f h
  have h2 := c_isub 5 f
  have h3 := rng32 (5 - f)
  have h4 : (5 : Int32).toInt = 5 := by decide
  have h5 := c_mask ((r.toUInt32 >>> ((3 : Int32) &&& 31).toUInt32).toInt32) 7 3 (by decide) (by decide)
  have h6 := (c_iremV (((r.toUInt32 >>> ((3 : Int32) &&& 31).toUInt32).toInt32) &&& 7) (5 - f)).1 (by omega) (by omega)
  have h7 := c_iadd f ((((r.toUInt32 >>> ((3 : Int32) &&& 31).toUInt32).toInt32) &&& 7) % (5 - f))
  rw [ht] at h7
  have h8 := rng32 t
  omega
theorem own_toInt {n : Nat} (h : n < 2147483648) : (Int32.ofNat n).toInt = (n : Int) := Int32.toInt_ofNat_of_lt h
theorem own_nat {j : Int32} {i : Nat} (hj : j.toInt = (i : Int)) : j = Int32.ofNat i := by
  have h := rng32 j
  apply Int32.toInt_inj.mp
  rw [own_toInt (by omega)]
  exact hj
theorem own_ltn {a b : Nat} (ha : a < 1000) (hb : b < 1000) : Int32.ofNat a < Int32.ofNat b ↔ a < b := by
  rw [Int32.lt_iff_toInt_lt, own_toInt (by omega), own_toInt (by omega)]; omega
theorem own_sub {k t : Nat} (h : k < t) (ht : t < 1000) : (Int32.ofNat t - 1) - Int32.ofNat k = Int32.ofNat (t - 1 - k) := by
  have h1 := c_isub (Int32.ofNat t) 1
  have h2 := c_isub (Int32.ofNat t - 1) (Int32.ofNat k)
  have h3 := rng32 (Int32.ofNat t - 1)
  have h4 := rng32 ((Int32.ofNat t - 1) - Int32.ofNat k)
  have k1 : (1 : Int32).toInt = 1 := by decide
  rw [own_toInt (by omega), k1] at h1
  rw [own_toInt (by omega : k < 2147483648)] at h2
  apply Int32.toInt_inj.mp
  rw [own_toInt (by omega)]
  omega
def own_sc (e : Nat) : Int32 := if e = 0 then 1 else if e = 1 then 10 else if e = 2 then 100 else 1000
def own_g (s x : Int32) : Int32 := if x < 48 then -1 else if 57 < x then -1 else (x - 48) * s
theorem own_sceq {e : Nat} (he : e < 1000) : (if Int32.ofNat e = 0 then (1 : Int32) else (if Int32.ofNat e = (1 : Int32) then (10 : Int32) else (if Int32.ofNat e = (2 : Int32) then (100 : Int32) else (1000 : Int32)))) = own_sc e := by
  have q : ∀ k : Nat, k < 1000 → (Int32.ofNat e = Int32.ofNat k ↔ e = k) := fun k hk => by rw [← Int32.toInt_inj, own_toInt (by omega), own_toInt (by omega)]; omega
  have q0 : Int32.ofNat e = 0 ↔ e = 0 := q 0 (by omega)
  have q1 : Int32.ofNat e = 1 ↔ e = 1 := q 1 (by omega)
  have q2 : Int32.ofNat e = 2 ↔ e = 2 := q 2 (by omega)
  simp only [q0, q1, q2, own_sc]
theorem own_f2 (f : Nat → Int32) (k i t : Nat) (hk : k < 4) (hi : i ≤ 4) (ht : t ≤ 4) : f2 (Int32.ofNat k) (Int32.ofNat i) (Int32.ofNat t) f k = if k < i then 0 else if k < t then own_g (own_sc (t - 1 - k)) (f k) else 0 := by
  have e1 := own_ltn (a := k) (b := i) (by omega) (by omega)
  have e2 := own_ltn (a := k) (b := t) (by omega) (by omega)
  simp only [f2, e1, e2]
  by_cases h1 : k < i
  · simp only [h1, if_true]
  · by_cases h2 : k < t
    · rw [own_sub h2 (by omega), own_sceq (by omega)]
      simp only [h1, h2, if_true, if_false, own_g]
    · simp only [h1, h2, if_false]
theorem own_dig_ok {x : Int32} (h1 : ¬ x < 48) (h2 : ¬ 57 < x) : 0 ≤ (x - 48).toInt ∧ (x - 48).toInt ≤ 9 := by
  have k1 : (48 : Int32).toInt = 48 := by decide
  have k2 : (57 : Int32).toInt = 57 := by decide
  have h3 := c_isub x 48
  have h4 := rng32 (x - 48)
  rw [Int32.lt_iff_toInt_lt] at h1 h2
  omega
theorem own_gneg (s x : Int32) (hs : 1 ≤ s.toInt ∧ s.toInt ≤ 1000) : own_g s x < 0 ↔ (x < 48 ∨ 57 < x) := by
  unfold own_g
  by_cases h1 : x < 48
  · rw [if_pos h1]; exact ⟨fun _ => Or.inl h1, fun _ => by decide⟩
  · by_cases h2 : 57 < x
    · rw [if_neg h1, if_pos h2]; exact ⟨fun _ => Or.inr h2, fun _ => by decide⟩
    · rw [if_neg h1, if_neg h2]
      have h3 := own_dig_ok h1 h2
      have h4 := c_imul (x - 48) s
      have h5 := rng32 ((x - 48) * s)
      have q1 : 0 ≤ (x - 48).toInt * s.toInt := Int.mul_nonneg h3.1 (by omega)
      have q2 : (x - 48).toInt * s.toInt ≤ 9 * s.toInt := Int.mul_le_mul_of_nonneg_right h3.2 (by omega)
      constructor
      · intro h
        rw [Int32.lt_iff_toInt_lt] at h
        have k0 : (0 : Int32).toInt = 0 := by decide
        generalize (x - 48).toInt * s.toInt = q at *
        omega
      · rintro (h | h)
        · exact absurd h h1
        · exact absurd h h2
theorem own_gok (s x : Int32) (h1 : ¬ x < 48) (h2 : ¬ 57 < x) : own_g s x = (x - 48) * s := by unfold own_g; rw [if_neg h1, if_neg h2]
theorem own_pick {x r y : Int32} (s : Int32) (hs : 1 ≤ s.toInt ∧ s.toInt ≤ 1000) (h : ¬ x < 48 → ¬ 57 < x → r = y) : (if x < 48 then -1 else if 57 < x then -1 else r) = if own_g s x < 0 then -1 else y := by
  by_cases h1 : x < 48
  · rw [if_pos h1, if_pos ((own_gneg s x hs).mpr (Or.inl h1))]
  · by_cases h2 : 57 < x
    · rw [if_neg h1, if_pos h2, if_pos ((own_gneg s x hs).mpr (Or.inr h2))]
    · rw [if_neg h1, if_neg h2, if_neg (fun q => ((own_gneg s x hs).mp q).elim h1 h2)]
      exact h h1 h2
theorem own_D1 (f : Nat → Int32) (i : Nat) : own_dig f i 1 0 = if own_g 1 (f i) < 0 then -1 else own_g 1 (f i) := by
  show (if f i < 48 then -1 else if 57 < f i then -1 else 0 * 10 + (f i - 48)) = _
  refine own_pick 1 (by decide) fun a1 a2 => ?_
  rw [own_gok _ _ a1 a2, Int32.zero_mul, Int32.zero_add, Int32.mul_one]
theorem own_D2 (f : Nat → Int32) (i : Nat) : own_dig f i 2 0 = if own_g 10 (f i) < 0 then -1 else if own_g 1 (f (i + 1)) < 0 then -1 else own_g 10 (f i) + own_g 1 (f (i + 1)) := by
  show (if f i < 48 then -1 else if 57 < f i then -1 else (if f (i + 1) < 48 then -1 else if 57 < f (i + 1) then -1 else (0 * 10 + (f i - 48)) * 10 + (f (i + 1) - 48))) = _
  refine own_pick 10 (by decide) fun a1 a2 => ?_
  refine own_pick 1 (by decide) fun b1 b2 => ?_
  rw [own_gok _ _ a1 a2, own_gok _ _ b1 b2, Int32.zero_mul, Int32.zero_add, Int32.mul_one]
theorem own_D3 (f : Nat → Int32) (i : Nat) : own_dig f i 3 0 = if own_g 100 (f i) < 0 then -1 else if own_g 10 (f (i + 1)) < 0 then -1 else if own_g 1 (f (i + 2)) < 0 then -1 else (own_g 100 (f i) + own_g 10 (f (i + 1))) + own_g 1 (f (i + 2)) := by
  show (if f i < 48 then -1 else if 57 < f i then -1 else (if f (i + 1) < 48 then -1 else if 57 < f (i + 1) then -1 else (if f (i + 2) < 48 then -1 else if 57 < f (i + 2) then -1 else ((0 * 10 + (f i - 48)) * 10 + (f (i + 1) - 48)) * 10 + (f (i + 2) - 48)))) = _
  refine own_pick 100 (by decide) fun a1 a2 => ?_
  refine own_pick 10 (by decide) fun b1 b2 => ?_
  refine own_pick 1 (by decide) fun c1 c2 => ?_
  rw [own_gok _ _ a1 a2, own_gok _ _ b1 b2, own_gok _ _ c1 c2, Int32.zero_mul, Int32.zero_add, Int32.mul_one, Int32.add_mul, Int32.mul_assoc]
  rfl
theorem own_D4 (f : Nat → Int32) (i : Nat) : own_dig f i 4 0 = if own_g 1000 (f i) < 0 then -1 else if own_g 100 (f (i + 1)) < 0 then -1 else if own_g 10 (f (i + 2)) < 0 then -1 else if own_g 1 (f (i + 3)) < 0 then -1 else ((own_g 1000 (f i) + own_g 100 (f (i + 1))) + own_g 10 (f (i + 2))) + own_g 1 (f (i + 3)) := by
  show (if f i < 48 then -1 else if 57 < f i then -1 else (if f (i + 1) < 48 then -1 else if 57 < f (i + 1) then -1 else (if f (i + 2) < 48 then -1 else if 57 < f (i + 2) then -1 else (if f (i + 3) < 48 then -1 else if 57 < f (i + 3) then -1 else (((0 * 10 + (f i - 48)) * 10 + (f (i + 1) - 48)) * 10 + (f (i + 2) - 48)) * 10 + (f (i + 3) - 48))))) = _
  refine own_pick 1000 (by decide) fun a1 a2 => ?_
  refine own_pick 100 (by decide) fun b1 b2 => ?_
  refine own_pick 10 (by decide) fun c1 c2 => ?_
  refine own_pick 1 (by decide) fun d1 d2 => ?_
  rw [own_gok _ _ a1 a2, own_gok _ _ b1 b2, own_gok _ _ c1 c2, own_gok _ _ d1 d2, Int32.zero_mul, Int32.zero_add, Int32.mul_one, Int32.add_mul, Int32.add_mul, Int32.add_mul, Int32.mul_assoc, Int32.mul_assoc, Int32.mul_assoc]
  rfl
theorem own_fin (f : Nat → Int32) (F T c0 c1 c2 c3 : Int32) (i t : Nat) (hF : F.toInt = (i : Int)) (hT : T.toInt = (t : Int)) (hit : i ≤ t) (ht : t ≤ 4) (h0 : f2 (0 : Int32) F T f 0 = c0) (h1 : f2 (1 : Int32) F T f 1 = c1) (h2 : f2 (2 : Int32) F T f 2 = c2) (h3 : f2 (3 : Int32) F T f 3 = c3) :
    own_dig f i (t - i) 0 = (if c0 < 0 then (-1 : Int32) else (if c1 < 0 then (-1 : Int32) else (if c2 < 0 then (-1 : Int32) else (if c3 < 0 then (-1 : Int32) else (((c0 + c1) + c2) + c3))))) := by
  have eF := own_nat hF
  have eT := own_nat hT
  subst eF eT
  have g0 : f2 (0 : Int32) (Int32.ofNat i) (Int32.ofNat t) f 0 = _ := own_f2 f 0 i t (by omega) (by omega) (by omega)
  have g1 : f2 (1 : Int32) (Int32.ofNat i) (Int32.ofNat t) f 1 = _ := own_f2 f 1 i t (by omega) (by omega) (by omega)
  have g2 : f2 (2 : Int32) (Int32.ofNat i) (Int32.ofNat t) f 2 = _ := own_f2 f 2 i t (by omega) (by omega) (by omega)
  have g3 : f2 (3 : Int32) (Int32.ofNat i) (Int32.ofNat t) f 3 = _ := own_f2 f 3 i t (by omega) (by omega) (by omega)
  rw [g0] at h0; rw [g1] at h1; rw [g2] at h2; rw [g3] at h3
  clear g0 g1 g2 g3 hF hT
  subst h0 h1 h2 h3
  have key : (i = 0 ∧ (t = 0 ∨ t = 1 ∨ t = 2 ∨ t = 3 ∨ t = 4)) ∨ (i = 1 ∧ (t = 1 ∨ t = 2 ∨ t = 3 ∨ t = 4)) ∨ (i = 2 ∧ (t = 2 ∨ t = 3 ∨ t = 4)) ∨ (i = 3 ∧ (t = 3 ∨ t = 4)) ∨ (i = 4 ∧ t = 4) := by omega
  have z : ¬ ((0 : Int32) < 0) := by decide
  rcases key with ⟨rfl, rfl | rfl | rfl | rfl | rfl⟩ | ⟨rfl, rfl | rfl | rfl | rfl⟩ | ⟨rfl, rfl | rfl | rfl⟩ | ⟨rfl, rfl | rfl⟩ | ⟨rfl, rfl⟩ <;>
    simp [own_D1, own_D2, own_D3, own_D4, own_sc, own_dig, z, -Int32.not_lt]
theorem pn_0 : plainName "com/example/tophat/tophat/io/DatesDigitsPinLaw" = true := by first | (simp [plainName, overriddenIn]; done) | decide +kernel
theorem pd_0 : parseMethodDescriptor "(II)Z" = some ⟨[.int, .int], some .boolean⟩ := by decide +kernel
def Q0 (Z : State) (p0 : Int32) (p1 : Int32) (h0 : Heap) (vv : Option Value) (hh : Heap) : Prop := vv = some (.int 1) ∧ True
theorem ef_0 (m : MethodId) (p0 : Int32) (p1 : Int32) : entryFrame m #[(.int p0), (.int p1)] maxLocals = mkF m 0 #[.val (.int p0), .val (.int p1), .unset, .unset, .unset, .unset, .unset, .unset, .unset, .unset, .unset] [] := by first | (simp [entryFrame, mkF, argsToLocals, Value.category, maxLocals]; done) | rfl
set_option maxRecDepth 65536 in
set_option maxHeartbeats 40000000 in
theorem rm0 {l : Launch} {Z : State} {aw : Array Value} (hw : ∀ d ∈ tables_1, d.before aw Z = true) {n0 : Nat} (p0 : Int32) (p1 : Int32) (h0 : Heap) (hn0 : n0 ≤ h0.size) :
    Con l Z x code maxLocals ret room_1 n0 #[(.int p0), (.int p1)] h0 (Q0 Z p0 p1 h0) := by
  refine Con.body (plainFor_of_name pn_0) hn0 (fun m => ef_0 m p0 p1) ?_
  intro p e s m below meth c T P
  refine G.iloadN P at_0 rfl (pc' := 1) rfl ?_
  refine G.bipush P at_1 (v := (7 : Int32)) rfl (pc' := 3) rfl ?_
  refine G.iand P at_3 (pc' := 4) rfl ?_
  refine G.iconst P at_4 (v := (5 : Int32)) rfl (pc' := 5) rfl ?_
  refine G.irem P at_5 (by decide) (pc' := 6) rfl ?_
  obtain ⟨x8, hx8⟩ : ∃ z : Int32, ((p1 &&& (7 : Int32)) % (5 : Int32)) = z := ⟨_, rfl⟩
  refine G.istoreN P at_6 hx8 (L' := #[.val (.int p0), .val (.int p1), .val (.int x8), .unset, .unset, .unset, .unset, .unset, .unset, .unset, .unset]) rfl (pc' := 7) rfl ?_
  refine G.iloadN P at_7 rfl (pc' := 8) rfl ?_
  refine G.iloadN P at_8 rfl (pc' := 9) rfl ?_
  refine G.iconst P at_9 (v := (3 : Int32)) rfl (pc' := 10) rfl ?_
  refine G.iushr P at_10 (pc' := 11) rfl ?_
  refine G.bipush P at_11 (v := (7 : Int32)) rfl (pc' := 13) rfl ?_
  refine G.iand P at_13 (pc' := 14) rfl ?_
  refine G.iconst P at_14 (v := (5 : Int32)) rfl (pc' := 15) rfl ?_
  refine G.iloadN P at_15 rfl (pc' := 16) rfl ?_
  refine G.isub P at_16 (pc' := 17) rfl ?_
  refine G.irem P at_17 (own_nz _ _ hx8) (pc' := 18) rfl ?_
  refine G.iadd P at_18 (pc' := 19) rfl ?_
  obtain ⟨x9, hx9⟩ : ∃ z : Int32, (x8 + ((((p1.toUInt32 >>> ((3 : Int32) &&& 31).toUInt32).toInt32) &&& (7 : Int32)) % ((5 : Int32) - x8))) = z := ⟨_, rfl⟩
  refine G.istoreN P at_19 hx9 (L' := #[.val (.int p0), .val (.int p1), .val (.int x8), .val (.int x9), .unset, .unset, .unset, .unset, .unset, .unset, .unset]) rfl (pc' := 20) rfl ?_
  refine G.iloadN P at_20 rfl (pc' := 21) rfl ?_
  refine G.bipush P at_21 (v := (6 : Int32)) rfl (pc' := 23) rfl ?_
  refine G.iushr P at_23 (pc' := 24) rfl ?_
  refine G.bipush P at_24 (v := (15 : Int32)) rfl (pc' := 26) rfl ?_
  refine G.iand P at_26 (pc' := 27) rfl ?_
  obtain ⟨x10, hx10⟩ : ∃ z : Int32, (((p1.toUInt32 >>> ((6 : Int32) &&& 31).toUInt32).toInt32) &&& (15 : Int32)) = z := ⟨_, rfl⟩
  refine G.istore P at_27 hx10 (L' := #[.val (.int p0), .val (.int p1), .val (.int x8), .val (.int x9), .val (.int x10), .unset, .unset, .unset, .unset, .unset, .unset]) rfl (pc' := 29) rfl ?_
  refine G.iconst P at_29 (v := (4 : Int32)) rfl (pc' := 30) rfl ?_
  refine G.newarray P (wd hw (i := 0) rfl) rfl (N := 4) (by decide) (cap := 4) (Nat.le_refl _) (by decide) at_30 (cells' := 1) rfl (slots' := 4) rfl (by decide) (by decide) (pc' := 32) rfl ?_
  intro T h11 b11 hb11 g_b11 P E11 A11
  replace A11 : Ints Z h11 b11 .byte 4 (fun _ => 0) := A11
  replace A11 := Ints.congr (g := (lst [(0 : Int32), (0 : Int32), (0 : Int32), (0 : Int32)])) A11 (fun i hi => by match i, hi with | 0, _ => rfl | 1, _ => rfl | 2, _ => rfl | 3, _ => rfl | k + 4, h => exact absurd h (by omega))
  refine G.astore P at_32 rfl (L' := #[.val (.int p0), .val (.int p1), .val (.int x8), .val (.int x9), .val (.int x10), .val (.ref b11), .unset, .unset, .unset, .unset, .unset]) rfl (pc' := 34) rfl ?_
  refine G.aload P at_34 rfl rfl (pc' := 36) rfl ?_
  refine G.iconst P at_36 (v := (0 : Int32)) rfl (pc' := 37) rfl ?_
  refine G.iloadN P at_37 rfl (pc' := 38) rfl ?_
  refine G.iconst P at_38 (v := (0 : Int32)) rfl (pc' := 39) rfl ?_
  refine G.iload P at_39 rfl (pc' := 41) rfl ?_
  refine G.callS P (wd hw (i := 1) rfl) (wd hw (i := 2) rfl) (wd hw (i := 3) rfl) (wd hw (i := 4) rfl) (by decide) (argsL := [(.int p0), (.int (0 : Int32)), (.int x10)]) (rm1 hw p0 (0 : Int32) x10 h11 P.sz) (by decide) (by decide) (cells' := 1) rfl (slots' := 4) rfl (by decide) (by decide) (lenOf pd_1 rfl) rfl (rest := [(.int (0 : Int32)), (.ref b11)]) rfl (W := 2) (Nat.le_of_eq rfl) at_41 (pc' := 44) rfl ?_
  rintro T _ _ P ⟨rfl, rfl⟩
  show Goes p e below s n0 room_1.cells room_1.slots (Q0 Z p0 p1 h0) (T.setTop (mkF m 44 #[.val (.int p0), .val (.int p1), .val (.int x8), .val (.int x9), .val (.int x10), .val (.ref b11), .unset, .unset, .unset, .unset, .unset] [(.int (f1 p0 (0 : Int32) x10)), (.int (0 : Int32)), (.ref b11)]))
  generalize hr12 : (f1 p0 (0 : Int32) x10) = r12
  refine G.bastore P A11 (i := 0) (by decide) (by decide) g_b11 at_44 (pc' := 45) rfl ?_
  intro T h14 P W13
  replace A11 := A11.same W13
  obtain ⟨x16, hx16⟩ : ∃ z : Int32, (nar .byte r12) = z := ⟨_, rfl⟩
  rw [hx16] at A11
  replace A11 := Ints.congr (g := (lst [x16, (0 : Int32), (0 : Int32), (0 : Int32)])) A11 (fun i hi => by match i, hi with | 0, _ => rfl | 1, _ => rfl | 2, _ => rfl | 3, _ => rfl | k + 4, h => exact absurd h (by omega))
  refine G.aload P at_45 rfl rfl (pc' := 47) rfl ?_
  refine G.iconst P at_47 (v := (1 : Int32)) rfl (pc' := 48) rfl ?_
  refine G.iloadN P at_48 rfl (pc' := 49) rfl ?_
  refine G.iconst P at_49 (v := (1 : Int32)) rfl (pc' := 50) rfl ?_
  refine G.iload P at_50 rfl (pc' := 52) rfl ?_
  refine G.callS P (wd hw (i := 1) rfl) (wd hw (i := 2) rfl) (wd hw (i := 3) rfl) (wd hw (i := 4) rfl) (by decide) (argsL := [(.int p0), (.int (1 : Int32)), (.int x10)]) (rm1 hw p0 (1 : Int32) x10 h14 P.sz) (by decide) (by decide) (cells' := 1) rfl (slots' := 4) rfl (by decide) (by decide) (lenOf pd_1 rfl) rfl (rest := [(.int (1 : Int32)), (.ref b11)]) rfl (W := 2) (Nat.le_of_eq rfl) at_52 (pc' := 55) rfl ?_
  rintro T _ _ P ⟨rfl, rfl⟩
  show Goes p e below s n0 room_1.cells room_1.slots (Q0 Z p0 p1 h0) (T.setTop (mkF m 55 #[.val (.int p0), .val (.int p1), .val (.int x8), .val (.int x9), .val (.int x10), .val (.ref b11), .unset, .unset, .unset, .unset, .unset] [(.int (f1 p0 (1 : Int32) x10)), (.int (1 : Int32)), (.ref b11)]))
  generalize hr17 : (f1 p0 (1 : Int32) x10) = r17
  refine G.bastore P A11 (i := 1) (by decide) (by decide) g_b11 at_55 (pc' := 56) rfl ?_
  intro T h19 P W18
  replace A11 := A11.same W18
  obtain ⟨x21, hx21⟩ : ∃ z : Int32, (nar .byte r17) = z := ⟨_, rfl⟩
  rw [hx21] at A11
  replace A11 := Ints.congr (g := (lst [x16, x21, (0 : Int32), (0 : Int32)])) A11 (fun i hi => by match i, hi with | 0, _ => rfl | 1, _ => rfl | 2, _ => rfl | 3, _ => rfl | k + 4, h => exact absurd h (by omega))
  refine G.aload P at_56 rfl rfl (pc' := 58) rfl ?_
  refine G.iconst P at_58 (v := (2 : Int32)) rfl (pc' := 59) rfl ?_
  refine G.iloadN P at_59 rfl (pc' := 60) rfl ?_
  refine G.iconst P at_60 (v := (2 : Int32)) rfl (pc' := 61) rfl ?_
  refine G.iload P at_61 rfl (pc' := 63) rfl ?_
  refine G.callS P (wd hw (i := 1) rfl) (wd hw (i := 2) rfl) (wd hw (i := 3) rfl) (wd hw (i := 4) rfl) (by decide) (argsL := [(.int p0), (.int (2 : Int32)), (.int x10)]) (rm1 hw p0 (2 : Int32) x10 h19 P.sz) (by decide) (by decide) (cells' := 1) rfl (slots' := 4) rfl (by decide) (by decide) (lenOf pd_1 rfl) rfl (rest := [(.int (2 : Int32)), (.ref b11)]) rfl (W := 2) (Nat.le_of_eq rfl) at_63 (pc' := 66) rfl ?_
  rintro T _ _ P ⟨rfl, rfl⟩
  show Goes p e below s n0 room_1.cells room_1.slots (Q0 Z p0 p1 h0) (T.setTop (mkF m 66 #[.val (.int p0), .val (.int p1), .val (.int x8), .val (.int x9), .val (.int x10), .val (.ref b11), .unset, .unset, .unset, .unset, .unset] [(.int (f1 p0 (2 : Int32) x10)), (.int (2 : Int32)), (.ref b11)]))
  generalize hr22 : (f1 p0 (2 : Int32) x10) = r22
  refine G.bastore P A11 (i := 2) (by decide) (by decide) g_b11 at_66 (pc' := 67) rfl ?_
  intro T h24 P W23
  replace A11 := A11.same W23
  obtain ⟨x26, hx26⟩ : ∃ z : Int32, (nar .byte r22) = z := ⟨_, rfl⟩
  rw [hx26] at A11
  replace A11 := Ints.congr (g := (lst [x16, x21, x26, (0 : Int32)])) A11 (fun i hi => by match i, hi with | 0, _ => rfl | 1, _ => rfl | 2, _ => rfl | 3, _ => rfl | k + 4, h => exact absurd h (by omega))
  refine G.aload P at_67 rfl rfl (pc' := 69) rfl ?_
  refine G.iconst P at_69 (v := (3 : Int32)) rfl (pc' := 70) rfl ?_
  refine G.iloadN P at_70 rfl (pc' := 71) rfl ?_
  refine G.iconst P at_71 (v := (3 : Int32)) rfl (pc' := 72) rfl ?_
  refine G.iload P at_72 rfl (pc' := 74) rfl ?_
  refine G.callS P (wd hw (i := 1) rfl) (wd hw (i := 2) rfl) (wd hw (i := 3) rfl) (wd hw (i := 4) rfl) (by decide) (argsL := [(.int p0), (.int (3 : Int32)), (.int x10)]) (rm1 hw p0 (3 : Int32) x10 h24 P.sz) (by decide) (by decide) (cells' := 1) rfl (slots' := 4) rfl (by decide) (by decide) (lenOf pd_1 rfl) rfl (rest := [(.int (3 : Int32)), (.ref b11)]) rfl (W := 2) (Nat.le_of_eq rfl) at_74 (pc' := 77) rfl ?_
  rintro T _ _ P ⟨rfl, rfl⟩
  show Goes p e below s n0 room_1.cells room_1.slots (Q0 Z p0 p1 h0) (T.setTop (mkF m 77 #[.val (.int p0), .val (.int p1), .val (.int x8), .val (.int x9), .val (.int x10), .val (.ref b11), .unset, .unset, .unset, .unset, .unset] [(.int (f1 p0 (3 : Int32) x10)), (.int (3 : Int32)), (.ref b11)]))
  generalize hr27 : (f1 p0 (3 : Int32) x10) = r27
  refine G.bastore P A11 (i := 3) (by decide) (by decide) g_b11 at_77 (pc' := 78) rfl ?_
  intro T h29 P W28
  replace A11 := A11.same W28
  obtain ⟨x31, hx31⟩ : ∃ z : Int32, (nar .byte r27) = z := ⟨_, rfl⟩
  rw [hx31] at A11
  replace A11 := Ints.congr (g := (lst [x16, x21, x26, x31])) A11 (fun i hi => by match i, hi with | 0, _ => rfl | 1, _ => rfl | 2, _ => rfl | 3, _ => rfl | k + 4, h => exact absurd h (by omega))
  refine G.aload P at_78 rfl rfl (pc' := 80) rfl ?_
  refine G.iconst P at_80 (v := (0 : Int32)) rfl (pc' := 81) rfl ?_
  refine G.iloadN P at_81 rfl (pc' := 82) rfl ?_
  refine G.iloadN P at_82 rfl (pc' := 83) rfl ?_
  refine G.callS P (wd hw (i := 5) rfl) (wd hw (i := 6) rfl) (wd hw (i := 3) rfl) (wd hw (i := 7) rfl) (by decide) (argsL := [(.ref b11), (.int (0 : Int32)), (.int x8), (.int x9)]) (rm2 hw b11 (0 : Int32) x8 x9 (lst [x16, x21, x26, x31]) 0 h29 A11 (by decide) (by decide) P.sz) (by decide) (by decide) (cells' := 1) rfl (slots' := 4) rfl (by decide) (by decide) (lenOf pd_2 rfl) rfl (rest := []) rfl (W := 0) (Nat.le_of_eq rfl) at_83 (pc' := 86) rfl ?_
  rintro T _ _ P ⟨rfl, rfl⟩
  show Goes p e below s n0 room_1.cells room_1.slots (Q0 Z p0 p1 h0) (T.setTop (mkF m 86 #[.val (.int p0), .val (.int p1), .val (.int x8), .val (.int x9), .val (.int x10), .val (.ref b11), .unset, .unset, .unset, .unset, .unset] [(.int (f2 (0 : Int32) x8 x9 (lst [x16, x21, x26, x31]) 0))]))
  generalize hr32 : (f2 (0 : Int32) x8 x9 (lst [x16, x21, x26, x31]) 0) = r32
  refine G.istore P at_86 rfl (L' := #[.val (.int p0), .val (.int p1), .val (.int x8), .val (.int x9), .val (.int x10), .val (.ref b11), .val (.int r32), .unset, .unset, .unset, .unset]) rfl (pc' := 88) rfl ?_
  refine G.aload P at_88 rfl rfl (pc' := 90) rfl ?_
  refine G.iconst P at_90 (v := (1 : Int32)) rfl (pc' := 91) rfl ?_
  refine G.iloadN P at_91 rfl (pc' := 92) rfl ?_
  refine G.iloadN P at_92 rfl (pc' := 93) rfl ?_
  refine G.callS P (wd hw (i := 5) rfl) (wd hw (i := 6) rfl) (wd hw (i := 3) rfl) (wd hw (i := 7) rfl) (by decide) (argsL := [(.ref b11), (.int (1 : Int32)), (.int x8), (.int x9)]) (rm2 hw b11 (1 : Int32) x8 x9 (lst [x16, x21, x26, x31]) 1 h29 A11 (by decide) (by decide) P.sz) (by decide) (by decide) (cells' := 1) rfl (slots' := 4) rfl (by decide) (by decide) (lenOf pd_2 rfl) rfl (rest := []) rfl (W := 0) (Nat.le_of_eq rfl) at_93 (pc' := 96) rfl ?_
  rintro T _ _ P ⟨rfl, rfl⟩
  show Goes p e below s n0 room_1.cells room_1.slots (Q0 Z p0 p1 h0) (T.setTop (mkF m 96 #[.val (.int p0), .val (.int p1), .val (.int x8), .val (.int x9), .val (.int x10), .val (.ref b11), .val (.int r32), .unset, .unset, .unset, .unset] [(.int (f2 (1 : Int32) x8 x9 (lst [x16, x21, x26, x31]) 1))]))
  generalize hr33 : (f2 (1 : Int32) x8 x9 (lst [x16, x21, x26, x31]) 1) = r33
  refine G.istore P at_96 rfl (L' := #[.val (.int p0), .val (.int p1), .val (.int x8), .val (.int x9), .val (.int x10), .val (.ref b11), .val (.int r32), .val (.int r33), .unset, .unset, .unset]) rfl (pc' := 98) rfl ?_
  refine G.aload P at_98 rfl rfl (pc' := 100) rfl ?_
  refine G.iconst P at_100 (v := (2 : Int32)) rfl (pc' := 101) rfl ?_
  refine G.iloadN P at_101 rfl (pc' := 102) rfl ?_
  refine G.iloadN P at_102 rfl (pc' := 103) rfl ?_
  refine G.callS P (wd hw (i := 5) rfl) (wd hw (i := 6) rfl) (wd hw (i := 3) rfl) (wd hw (i := 7) rfl) (by decide) (argsL := [(.ref b11), (.int (2 : Int32)), (.int x8), (.int x9)]) (rm2 hw b11 (2 : Int32) x8 x9 (lst [x16, x21, x26, x31]) 2 h29 A11 (by decide) (by decide) P.sz) (by decide) (by decide) (cells' := 1) rfl (slots' := 4) rfl (by decide) (by decide) (lenOf pd_2 rfl) rfl (rest := []) rfl (W := 0) (Nat.le_of_eq rfl) at_103 (pc' := 106) rfl ?_
  rintro T _ _ P ⟨rfl, rfl⟩
  show Goes p e below s n0 room_1.cells room_1.slots (Q0 Z p0 p1 h0) (T.setTop (mkF m 106 #[.val (.int p0), .val (.int p1), .val (.int x8), .val (.int x9), .val (.int x10), .val (.ref b11), .val (.int r32), .val (.int r33), .unset, .unset, .unset] [(.int (f2 (2 : Int32) x8 x9 (lst [x16, x21, x26, x31]) 2))]))
  generalize hr34 : (f2 (2 : Int32) x8 x9 (lst [x16, x21, x26, x31]) 2) = r34
  refine G.istore P at_106 rfl (L' := #[.val (.int p0), .val (.int p1), .val (.int x8), .val (.int x9), .val (.int x10), .val (.ref b11), .val (.int r32), .val (.int r33), .val (.int r34), .unset, .unset]) rfl (pc' := 108) rfl ?_
  refine G.aload P at_108 rfl rfl (pc' := 110) rfl ?_
  refine G.iconst P at_110 (v := (3 : Int32)) rfl (pc' := 111) rfl ?_
  refine G.iloadN P at_111 rfl (pc' := 112) rfl ?_
  refine G.iloadN P at_112 rfl (pc' := 113) rfl ?_
  refine G.callS P (wd hw (i := 5) rfl) (wd hw (i := 6) rfl) (wd hw (i := 3) rfl) (wd hw (i := 7) rfl) (by decide) (argsL := [(.ref b11), (.int (3 : Int32)), (.int x8), (.int x9)]) (rm2 hw b11 (3 : Int32) x8 x9 (lst [x16, x21, x26, x31]) 3 h29 A11 (by decide) (by decide) P.sz) (by decide) (by decide) (cells' := 1) rfl (slots' := 4) rfl (by decide) (by decide) (lenOf pd_2 rfl) rfl (rest := []) rfl (W := 0) (Nat.le_of_eq rfl) at_113 (pc' := 116) rfl ?_
  rintro T _ _ P ⟨rfl, rfl⟩
  show Goes p e below s n0 room_1.cells room_1.slots (Q0 Z p0 p1 h0) (T.setTop (mkF m 116 #[.val (.int p0), .val (.int p1), .val (.int x8), .val (.int x9), .val (.int x10), .val (.ref b11), .val (.int r32), .val (.int r33), .val (.int r34), .unset, .unset] [(.int (f2 (3 : Int32) x8 x9 (lst [x16, x21, x26, x31]) 3))]))
  generalize hr35 : (f2 (3 : Int32) x8 x9 (lst [x16, x21, x26, x31]) 3) = r35
  refine G.istore P at_116 rfl (L' := #[.val (.int p0), .val (.int p1), .val (.int x8), .val (.int x9), .val (.int x10), .val (.ref b11), .val (.int r32), .val (.int r33), .val (.int r34), .val (.int r35), .unset]) rfl (pc' := 118) rfl ?_
  refine G.iload P at_118 rfl (pc' := 120) rfl ?_
  have J153_120 : ∀ (z36 : Int32), z36 = (if r32 < 0 then (-1 : Int32) else (if r33 < 0 then (-1 : Int32) else (if r34 < 0 then (-1 : Int32) else (if r35 < 0 then (-1 : Int32) else (((r32 + r33) + r34) + r35))))) → Goes p e below s n0 room_1.cells room_1.slots (Q0 Z p0 p1 h0) (T.setTop (mkF m 153 #[.val (.int p0), .val (.int p1), .val (.int x8), .val (.int x9), .val (.int x10), .val (.ref b11), .val (.int r32), .val (.int r33), .val (.int r34), .val (.int r35), .unset] [(.int z36)])) := by
    intro z36 hz36
    refine G.istore P at_153 rfl (L' := #[.val (.int p0), .val (.int p1), .val (.int x8), .val (.int x9), .val (.int x10), .val (.ref b11), .val (.int r32), .val (.int r33), .val (.int r34), .val (.int r35), .val (.int z36)]) rfl (pc' := 155) rfl ?_
    refine G.aload P at_155 rfl rfl (pc' := 157) rfl ?_
    refine G.iloadN P at_157 rfl (pc' := 158) rfl ?_
    refine G.iloadN P at_158 rfl (pc' := 159) rfl ?_
    refine G.callS P (wd hw (i := 8) rfl) (wd hw (i := 9) rfl) (wd hw (i := 10) rfl) (wd hw (i := 11) rfl) (by decide) (argsL := [(.ref b11), (.int x8), (.int x9)]) (rm3 hw b11 x8 x9 (lst [x16, x21, x26, x31]) ((x8).toInt.toNat) ((x9).toInt.toNat) h29 A11 (own_rng _ _ _ hx8 hx9).1 (own_rng _ _ _ hx8 hx9).2.1 (own_rng _ _ _ hx8 hx9).2.2.2 P.sz) (by decide) (by decide) (cells' := 1) rfl (slots' := 4) rfl (by decide) (by decide) (lenOf pd_3 rfl) rfl (rest := []) rfl (W := 0) (Nat.le_of_eq rfl) at_159 (pc' := 162) rfl ?_
    rintro T _ _ P ⟨rfl, rfl⟩
    show Goes p e below s n0 room_1.cells room_1.slots (Q0 Z p0 p1 h0) (T.setTop (mkF m 162 #[.val (.int p0), .val (.int p1), .val (.int x8), .val (.int x9), .val (.int x10), .val (.ref b11), .val (.int r32), .val (.int r33), .val (.int r34), .val (.int r35), .val (.int z36)] [(.int (own_dig (lst [x16, x21, x26, x31]) ((x8).toInt.toNat) (((x9).toInt.toNat) - ((x8).toInt.toNat)) 0))]))
    generalize hr37 : (own_dig (lst [x16, x21, x26, x31]) ((x8).toInt.toNat) (((x9).toInt.toNat) - ((x8).toInt.toNat)) 0) = r37
    refine G.iload P at_162 rfl (pc' := 164) rfl ?_
    have J172_164 : ∀ (z38 : Int32), z38 = (if r37 = z36 then (1 : Int32) else (0 : Int32)) → Goes p e below s n0 room_1.cells room_1.slots (Q0 Z p0 p1 h0) (T.setTop (mkF m 172 #[.val (.int p0), .val (.int p1), .val (.int x8), .val (.int x9), .val (.int x10), .val (.ref b11), .val (.int r32), .val (.int r33), .val (.int r34), .val (.int r35), .val (.int z36)] [(.int z38)])) := by
      intro z38 hz38
      have q := own_rng _ _ _ hx8 hx9
      have e1 := own_fin _ _ _ _ _ _ _ _ _ q.1 q.2.1 q.2.2.1 q.2.2.2 hr32 hr33 hr34 hr35
      rw [hr37, ← hz36] at e1
      exact G.ireturnN P (t := .boolean) rfl (by simp) rfl at_172 (by decide) (by decide) ⟨congrArg (fun z => some (Value.int z)) (by rw [hz38, if_pos e1]; rfl), trivial⟩
    refine G.icmp_ne P at_164 (by decide) (pcY := 171) (by decide) (pcN := 167) rfl (fun c164 => ?_) (fun c164 => ?_)
    · refine G.iconst P at_171 (v := (0 : Int32)) rfl (pc' := 172) rfl ?_
      exact J172_164 _ (by simp only [if_neg c164])
    · refine G.iconst P at_167 (v := (1 : Int32)) rfl (pc' := 168) rfl ?_
      refine G.goto P at_168 (by decide) (pc' := 172) (by decide) ?_
      exact J172_164 _ (by simp only [if_pos c164])
  refine G.if_lt P at_120 (by decide) (pcY := 138) (by decide) (pcN := 123) rfl (fun c120 => ?_) (fun c120 => ?_)
  · refine G.iconst P at_138 (v := (-1 : Int32)) rfl (pc' := 139) rfl ?_
    refine G.goto P at_139 (by decide) (pc' := 153) (by decide) ?_
    exact J153_120 _ (by simp only [if_pos c120])
  · refine G.iload P at_123 rfl (pc' := 125) rfl ?_
    refine G.if_lt P at_125 (by decide) (pcY := 138) (by decide) (pcN := 128) rfl (fun c125 => ?_) (fun c125 => ?_)
    · refine G.iconst P at_138 (v := (-1 : Int32)) rfl (pc' := 139) rfl ?_
      refine G.goto P at_139 (by decide) (pc' := 153) (by decide) ?_
      exact J153_120 _ (by simp only [if_neg c120, if_pos c125])
    · refine G.iload P at_128 rfl (pc' := 130) rfl ?_
      refine G.if_lt P at_130 (by decide) (pcY := 138) (by decide) (pcN := 133) rfl (fun c130 => ?_) (fun c130 => ?_)
      · refine G.iconst P at_138 (v := (-1 : Int32)) rfl (pc' := 139) rfl ?_
        refine G.goto P at_139 (by decide) (pc' := 153) (by decide) ?_
        exact J153_120 _ (by simp only [if_neg c120, if_neg c125, if_pos c130])
      · refine G.iload P at_133 rfl (pc' := 135) rfl ?_
        refine G.if_ge P at_135 (by decide) (pcY := 142) (by decide) (pcN := 138) rfl (fun c135 => ?_) (fun c135 => ?_)
        · refine G.iload P at_142 rfl (pc' := 144) rfl ?_
          refine G.iload P at_144 rfl (pc' := 146) rfl ?_
          refine G.iadd P at_146 (pc' := 147) rfl ?_
          refine G.iload P at_147 rfl (pc' := 149) rfl ?_
          refine G.iadd P at_149 (pc' := 150) rfl ?_
          refine G.iload P at_150 rfl (pc' := 152) rfl ?_
          refine G.iadd P at_152 (pc' := 153) rfl ?_
          exact J153_120 _ (by simp only [if_neg c120, if_neg c125, if_neg c130, if_neg c135])
        · refine G.iconst P at_138 (v := (-1 : Int32)) rfl (pc' := 139) rfl ?_
          refine G.goto P at_139 (by decide) (pc' := 153) (by decide) ?_
          exact J153_120 _ (by simp only [if_neg c120, if_neg c125, if_neg c130, if_pos c135])
set_option maxRecDepth 65536 in
set_option maxHeartbeats 40000000 in
theorem comes_1 {Post : Tables → Env → Array Value → State → Outcome → State → Prop} (hpost : ∀ tb e args s v u, (limb_1_1.after args s (.returned v) u = true ∧ limb_1_2.after args s (.returned v) u = true) → FrameEnd s (.returned v) u (Jvm.fieldLocs frame_1_writes args s ++ Jvm.arrayLocs frame_1_arrays args s ++ Jvm.staticLocs frame_1_statics s) 16 128 → Post tb e args s (.returned v) u) :
    ArmFor flags0 classFile x code maxLocals ret World_1 tables_1 room_1 Calls_1 rest_1 Pre_1 Post := by
  intro l hfl _ _ p e ha hc hk s m args below hf hA hF happ hP
  obtain ⟨hcalls, hrest, hpre⟩ := hP
  obtain ⟨-, -, -, hnamed, -, -, -, hat⟩ := (Spec.applies_iff hf).mp happ
  obtain ⟨hg, hn⟩ := and_e (Cond.before_iff.mp (show (Jvm.Cond.and given_1 narrow_1).before args s = true from hpre))
  obtain ⟨hcount, g0⟩ := and_e hg
  obtain ⟨v0, g1⟩ := and_e g0
  have v1 := g1
  obtain ⟨w0, w1, rfl⟩ : ∃ w0 w1 : Value, args = #[w0, w1] := by
    have hs : args.size = 2 := by simpa [Cond.value, given_1] using hcount
    obtain ⟨L⟩ := args
    match L, hs with
    | [w0, w1], _ => exact ⟨w0, w1, rfl⟩
  have hw := fun d (hd : d ∈ tables_1) => atoms_spec (ws := Jvm.Cond.code x code maxLocals ret :: tables_1) hat d (List.mem_cons_of_mem _ hd)
  obtain ⟨i0, ei0⟩ := is_v v0
  obtain rfl : w0 = (.int i0) := Option.some.inj ei0
  obtain ⟨i1, ei1⟩ := is_v v1
  obtain rfl : w1 = (.int i1) := Option.some.inj ei1
  obtain ⟨n, o, h1, h2, h3, v, L, rfl, ⟨hQ, N⟩, hq⟩ := rm0 hw i0 i1 s.heap (Nat.le_refl s.heap.size) tables_1 p e ha hc hk s m _ below hf ((Spec.applies_iff_loose hf).mp happ).1 ⟨rfl, State.Warmed39.refl s, rfl⟩ trivial
  obtain rfl : v = some (.int 1) := hQ.1
  refine ⟨n, _, h1, h2, h3, hpost _ _ _ _ _ _ ⟨Cond.after_iff.mpr rfl, Cond.after_iff.mpr (eq_i res_at (Term.int_eval (1)) rfl)⟩ ⟨hq.1, hq.2.1, (hq.2.2.sift fun y hy => Or.inr (N y hy)).mono (by decide) (by decide)⟩⟩
theorem main_1_1 : Claimed_1_1 := comes_1 fun _ _ _ _ _ _ h hF => ⟨h.1, hF⟩
theorem main_1_2 : Claimed_1_2 := comes_1 fun _ _ _ _ _ _ h hF => ⟨h.2, hF⟩
end Jvm.Pilot.@@N@@
namespace Jvm.Pilot.@@N@@
open Jvm Jvm.ClassFile Sem Op Lib Jvm.Free Jvm.Stand Jvm.Pilot.@@N@@.Jvm.D
/-! MADE BY PROGRAM (witnessworld.py) out of the Statement's table words and the real class files: 9 classes; the members and pool entries that the words name. The judged class is class 1, her method 1. -/
namespace start1
open Jvm.ClassFile
def u (s : String) : CpInfo := .utf8 (stringToUtf16 s)
/-- a pool by its gaps: so many unusable entries, then the entry; so many at the end -/
def gap : Nat → List CpInfo → List CpInfo
  | 0, r => r
  | n + 1, r => .unusable :: gap n r
def poolList (es : List (Nat × CpInfo)) (last : Nat) : List CpInfo := es.foldr (fun e r => gap e.1 (e.2 :: r)) (gap last [])
def pool (es : List (Nat × CpInfo)) (last : Nat) : Array CpInfo := ⟨poolList es last⟩
def fileOf (pool : Array CpInfo) (this : Nat) (attrs : Array Attribute := #[]) (ms : Array MethodInfo := #[]) (fl : Nat := 33) (sup : Nat := 0) (ifs : Array Nat := #[]) (fds : Array FieldInfo := #[]) : ClassFile where
  minorVersion := 0
  majorVersion := 65
  constantPool := pool
  accessFlags := fl
  thisClass := this
  superClass := sup
  interfaces := ifs
  fields := fds
  methods := ms
  attributes := attrs
def plain (name : String) (sup : Option ClassId) : Class where
  name := name
  kind := .ordinary
  loader := none
  accessFlags := 33
  super := sup
  interfaces := #[]
  cf := none
  fields := #[]
  methods := #[]
  instanceTypes := #[]
  staticTypes := #[]
  resolved := #[]
  callSites := []
  init := .initialized
  statics := none
  mirror := none

def pool0 : Array CpInfo := pool [(5, u "<init>"), (0, u "()V"), (1, .class_ 10), (1, u "java/lang/Object")] 113

def k0m0 : Method := { name := "<init>", desc := "()V", sig := { parameters := [], returnType := none }, accessFlags := 1, code := none }
/-- java/lang/Object -/
def k0 : Class := { plain "java/lang/Object" none with
  accessFlags := 33
  interfaces := #[]
  cf := some (fileOf pool0 8 #[] #[{ accessFlags := 1, nameIndex := 5, descriptorIndex := 6, attributes := #[] }] 33 0 #[] #[])
  fields := #[]
  methods := #[k0m0]
  instanceTypes := #[]
  staticTypes := #[]
  resolved := Array.replicate 124 none
  statics := none }

def pool1 : Array CpInfo := pool [(2, .class_ 4), (1, u "java/lang/Object"), (0, u "<init>"), (0, u "()V"), (0, .methodref 8 9), (0, .class_ 10), (0, .nameAndType 11 12), (0, u "com/example/tophat/tophat/io/DatesDigitsPinLaw"), (0, u "pick"), (0, u "(III)B"), (0, .methodref 8 14), (0, .nameAndType 15 16), (0, u "contrib"), (0, u "([BIII)I"), (0, .methodref 18 19), (0, .class_ 20), (0, .nameAndType 21 22), (0, u "com/example/tophat/tophat/io/Dates"), (0, u "digits"), (0, u "([BII)I"), (2, u "law"), (0, u "(II)Z")] 5

def k1m0 : Method := { name := "<init>", desc := "()V", sig := { parameters := [], returnType := none }, accessFlags := 2, code := none }
def k1c1 : Code := { maxStack := 5, maxLocals := 11, code := code, exceptionTable := #[], attributes := #[] }
def k1m1 : Method := { name := "law", desc := "(II)Z", sig := { parameters := [.int, .int], returnType := some .boolean }, accessFlags := 9, code := some k1c1 }
def k1c2 : Code := { maxStack := 3, maxLocals := 4, code := method_3_code, exceptionTable := #[], attributes := #[] }
def k1m2 : Method := { name := "pick", desc := "(III)B", sig := { parameters := [.int, .int, .int], returnType := some .byte }, accessFlags := 10, code := some k1c2 }
def k1c3 : Code := { maxStack := 2, maxLocals := 7, code := method_4_code, exceptionTable := #[], attributes := #[] }
def k1m3 : Method := { name := "contrib", desc := "([BIII)I", sig := { parameters := [(.array .byte), .int, .int, .int], returnType := some .int }, accessFlags := 10, code := some k1c3 }
/-- com/example/tophat/tophat/io/DatesDigitsPinLaw -/
def k1 : Class := { plain "com/example/tophat/tophat/io/DatesDigitsPinLaw" (some 0) with
  accessFlags := 49
  interfaces := #[]
  cf := some (fileOf pool1 8 #[] #[{ accessFlags := 2, nameIndex := 5, descriptorIndex := 6, attributes := #[] }, { accessFlags := 9, nameIndex := 25, descriptorIndex := 26, attributes := #[] }, { accessFlags := 10, nameIndex := 11, descriptorIndex := 12, attributes := #[] }, { accessFlags := 10, nameIndex := 15, descriptorIndex := 16, attributes := #[] }] 49 2 #[] #[])
  fields := #[]
  methods := #[k1m0, k1m1, k1m2, k1m3]
  instanceTypes := #[]
  staticTypes := #[]
  resolved := Array.replicate 32 none
  statics := none }

def pool2 : Array CpInfo := pool [(2, .class_ 4), (1, u "java/lang/Object"), (0, u "<init>"), (0, u "()V"), (19, .class_ 28), (1, u "com/example/tophat/tophat/io/Dates"), (18, u "digits"), (0, u "([BII)I")] 48

def k2m0 : Method := { name := "<init>", desc := "()V", sig := { parameters := [], returnType := none }, accessFlags := 2, code := none }
def k2c1 : Code := { maxStack := 3, maxLocals := 6, code := prog_45_method_5_code, exceptionTable := #[], attributes := #[] }
def k2m1 : Method := { name := "digits", desc := "([BII)I", sig := { parameters := [(.array .byte), .int, .int], returnType := some .int }, accessFlags := 8, code := some k2c1 }
/-- com/example/tophat/tophat/io/Dates -/
def k2 : Class := { plain "com/example/tophat/tophat/io/Dates" (some 0) with
  accessFlags := 49
  interfaces := #[]
  cf := some (fileOf pool2 26 #[] #[{ accessFlags := 2, nameIndex := 5, descriptorIndex := 6, attributes := #[] }, { accessFlags := 8, nameIndex := 47, descriptorIndex := 48, attributes := #[] }] 49 2 #[] #[])
  fields := #[]
  methods := #[k2m0, k2m1]
  instanceTypes := #[]
  staticTypes := #[]
  resolved := Array.replicate 97 none
  statics := none }

def pool3 : Array CpInfo := pool [(1, u "java/lang/Cloneable"), (0, .class_ 1), (0, u "java/lang/Object"), (0, .class_ 3)] 3

/-- java/lang/Cloneable -/
def k3 : Class := { plain "java/lang/Cloneable" (some 0) with
  accessFlags := 1537
  interfaces := #[]
  cf := some (fileOf pool3 2 #[] #[] 1537 4 #[] #[])
  fields := #[]
  methods := #[]
  instanceTypes := #[]
  staticTypes := #[]
  resolved := Array.replicate 8 none
  statics := none }

def pool4 : Array CpInfo := pool [(1, u "java/io/Serializable"), (0, .class_ 1), (0, u "java/lang/Object"), (0, .class_ 3)] 3

/-- java/io/Serializable -/
def k4 : Class := { plain "java/io/Serializable" (some 0) with
  accessFlags := 1537
  interfaces := #[]
  cf := some (fileOf pool4 2 #[] #[] 1537 4 #[] #[])
  fields := #[]
  methods := #[]
  instanceTypes := #[]
  staticTypes := #[]
  resolved := Array.replicate 8 none
  statics := none }

/-- the primitive byte -/
def k5 : Class := { plain "byte" none with kind := .primitive 'B', accessFlags := 0x411 }
/-- [B -/
def k6 : Class := { plain "[B" (some 0) with kind := .array 5 .byte, interfaces := #[3, 4], accessFlags := 1041 }

/-- the primitive int -/
def k7 : Class := { plain "int" none with kind := .primitive 'I', accessFlags := 0x411 }
/-- [I -/
def k8 : Class := { plain "[I" (some 0) with kind := .array 7 .int, interfaces := #[3, 4], accessFlags := 1041 }

def heap : Heap := #[]
def classes : Array Class := #[k0, k1, k2, k3, k4, k5, k6, k7, k8]
def interned : List (Array UInt16 × Addr) := []
def slotsUsed : Nat := 0
def theMethod : MethodId := ⟨1, 1⟩
def args0 : Array Value := #[.int 5, .int 5]
def aboutOver (below : List Frame) : State where
  vm := { classes := classes, interned := interned.toArray }
  heap := heap
  slotsUsed := slotsUsed
  threads := #[{ frames := .invoking theMethod args0 :: below }]
def below0 : List Frame := [.native { method := ⟨0, 0⟩, args := #[] }]
def about1 : State := aboutOver below0
def p0 : Program := .bare "" "" ""
def e0 : Env := launch0.env 0 0 0
theorem w_frames : about1.frames = Frame.invoking theMethod args0 :: below0 := rfl
set_option maxRecDepth 65536 in
theorem w_args : argsFit about1.vm theMethod args0 = true := by decide +kernel
set_option maxRecDepth 65536 in
theorem w_heap : heapFits about1 = true := by decide +kernel
set_option maxRecDepth 65536 in
theorem w_runnable : about1.curStatus? = some .runnable := by decide +kernel
set_option maxRecDepth 65536 in
theorem w_alone : about1.alone = true := by decide +kernel
set_option maxRecDepth 65536 in
theorem w_named : about1.methodNamed? x = some theMethod := by decide +kernel
set_option maxRecDepth 65536 in
theorem w_hears : about1.hears theMethod below0 = true := by decide +kernel
set_option maxRecDepth 65536 in
theorem w_ripe : about1.ripe theMethod args0 below0 = true := by decide +kernel
theorem w_running : about1.status = .running := rfl
set_option maxRecDepth 65536 in
theorem w_room : about1.hasRoom e0.platform room_1 = true :=
  launch0.hasRoom_least _ room_1 (by decide +kernel) (by decide +kernel) (by decide +kernel) (by decide +kernel) (by decide +kernel) (by decide +kernel)
theorem allAtoms_all (ts : List Jvm.Cond) (a : Array Jvm.Value) (st : Jvm.State) : (allAtoms ts).before a st = ts.all (fun c => c.before a st) := by
  induction ts with
  | nil => rfl
  | cons c t ih =>
    show (Jvm.Cond.and c (allAtoms t)).before a st = _
    rw [Jvm.Cond.before_and, ih, List.all_cons]
def words1 : List Jvm.Cond := Jvm.Cond.code x code maxLocals ret :: tables_1
/-- a 'code' word, met by the world's own term for the bytes: nothing is compared byte by byte -/
theorem code_word {y : MethodName} {bytes : ByteArray} {mx : Nat} {rt : Option FieldType} {a : Array Value} {s : State} {m : MethodId} {meth : Method} {c : Code} (h1 : s.methodNamed? y = some m) (h2 : s.vm.method? m = some meth) (h3 : meth.code = some c) (h4 : c.code = bytes)
    (h5 : (c.maxLocals == mx && c.exceptionTable.isEmpty && decide (c.maxStack ≤ mostOperands) && decide (meth.sig.returnType = rt) && !meth.locks && decide (parseMethodDescriptor y.desc = some meth.sig)) = true) : (Jvm.Cond.code y bytes mx rt).before a s = true := by
  simp only [Bool.and_eq_true, beq_iff_eq, Bool.not_eq_true', decide_eq_true_eq] at h5
  obtain ⟨⟨⟨⟨⟨g1, g2⟩, g3⟩, g4⟩, g5⟩, g6⟩ := h5
  simp [Cond.before, Cond.holds, Cond.value, h1, h2, h3, h4, g1, g2, g3, g4, g5, g6]
def isCode : Jvm.Cond → Bool
  | .code _ _ _ _ => true
  | _ => false
theorem all_split {L : List Jvm.Cond} {P : Jvm.Cond → Bool} (h1 : L.all (fun c => isCode c || P c) = true) (h2 : ∀ c ∈ L.filter isCode, P c = true) : L.all P = true := by
  refine List.all_eq_true.mpr fun c hc => ?_
  have h := List.all_eq_true.mp h1 c hc
  rcases Bool.eq_false_or_eq_true (isCode c) with hi | hi
  · exact h2 c (List.mem_filter.mpr ⟨hc, hi⟩)
  · simpa [hi] using h
set_option maxRecDepth 65536 in
theorem w_c0 : (Jvm.Cond.code x code maxLocals ret).before args0 about1 = true := code_word (m := ⟨1, 1⟩) (meth := k1m1) (c := k1c1) (by decide +kernel) rfl rfl rfl (by decide +kernel)
set_option maxRecDepth 65536 in
theorem w_c1 : (Jvm.Cond.code ({ cls := "com/example/tophat/tophat/io/DatesDigitsPinLaw", name := "pick", desc := "(III)B" } : Jvm.MethodName) method_3_code (4 : Nat) (Option.some Jvm.ClassFile.FieldType.byte)).before args0 about1 = true := code_word (m := ⟨1, 2⟩) (meth := k1m2) (c := k1c2) (by decide +kernel) rfl rfl rfl (by decide +kernel)
set_option maxRecDepth 65536 in
theorem w_c2 : (Jvm.Cond.code ({ cls := "com/example/tophat/tophat/io/DatesDigitsPinLaw", name := "contrib", desc := "([BIII)I" } : Jvm.MethodName) method_4_code (7 : Nat) (Option.some Jvm.ClassFile.FieldType.int)).before args0 about1 = true := code_word (m := ⟨1, 3⟩) (meth := k1m3) (c := k1c3) (by decide +kernel) rfl rfl rfl (by decide +kernel)
set_option maxRecDepth 65536 in
theorem w_c3 : (Jvm.Cond.code ({ cls := "com/example/tophat/tophat/io/Dates", name := "digits", desc := "([BII)I" } : Jvm.MethodName) prog_45_method_5_code (6 : Nat) (Option.some Jvm.ClassFile.FieldType.int)).before args0 about1 = true := code_word (m := ⟨2, 1⟩) (meth := k2m1) (c := k2c1) (by decide +kernel) rfl rfl rfl (by decide +kernel)
def codes1 : List Jvm.Cond := [Jvm.Cond.code x code maxLocals ret, Jvm.Cond.code ({ cls := "com/example/tophat/tophat/io/DatesDigitsPinLaw", name := "pick", desc := "(III)B" } : Jvm.MethodName) method_3_code (4 : Nat) (Option.some Jvm.ClassFile.FieldType.byte), Jvm.Cond.code ({ cls := "com/example/tophat/tophat/io/DatesDigitsPinLaw", name := "contrib", desc := "([BIII)I" } : Jvm.MethodName) method_4_code (7 : Nat) (Option.some Jvm.ClassFile.FieldType.int), Jvm.Cond.code ({ cls := "com/example/tophat/tophat/io/Dates", name := "digits", desc := "([BII)I" } : Jvm.MethodName) prog_45_method_5_code (6 : Nat) (Option.some Jvm.ClassFile.FieldType.int)]
set_option maxRecDepth 65536 in
theorem codes_eq : words1.filter isCode = codes1 := rfl
theorem w_codes : ∀ c ∈ words1.filter isCode, c.before args0 about1 = true := by
  rw [codes_eq]
  intro c hc
  simp only [codes1, List.mem_cons, List.not_mem_nil, or_false] at hc
  rcases hc with rfl | rfl | rfl | rfl
  · exact w_c0
  · exact w_c1
  · exact w_c2
  · exact w_c3
set_option maxRecDepth 65536 in
theorem w_t1 : words1.all (fun c => isCode c || c.before args0 about1) = true := by decide +kernel
theorem w_tables : (allAtoms (Jvm.Cond.code x code maxLocals ret :: tables_1)).before args0 about1 = true := by
  rw [allAtoms_all]
  show words1.all (fun c => c.before args0 about1) = true
  refine all_split ?_ w_codes
  rw [w_t1]
set_option maxRecDepth 65536 in
theorem w_case : (Jvm.Cond.and given_1 narrow_1).before args0 about1 = true := by decide +kernel
theorem w_applies : (headSpec (Jvm.Cond.code x code maxLocals ret :: tables_1) room_1).applies x e0.platform about1 = true :=
  (Spec.applies_iff w_frames).mpr ⟨w_running, w_runnable, w_alone, w_named, w_hears, w_ripe, w_room, w_tables⟩
theorem atStart : AtStart classFile x code maxLocals ret World_1 tables_1 room_1 Calls_1 rest_1 Pre_1 launch0 p0 e0 about1 theMethod args0 below0 :=
  ⟨lists_1, trivial, launch0.admits_env _ _ _, launch0.least_env, fairChoices_fair.cas, fairChoices_fair.clock, w_frames, w_args, w_heap, w_applies, trivial, trivial, w_case⟩
end start1
theorem witness_1 : WitnessClaimed_1 := ⟨start1.p0, start1.e0, start1.about1, start1.theMethod, start1.args0, start1.below0, start1.atStart⟩
end Jvm.Pilot.@@N@@
