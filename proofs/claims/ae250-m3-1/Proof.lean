import JvmDerived
import JvmDerived.Pilot.@@N@@Statement
import JvmDerived.Pilot.@@N@@Code
set_option linter.unusedVariables false
set_option linter.unusedSimpArgs false

namespace Jvm.Pilot.@@N@@
open Jvm Jvm.ClassFile Sem Op Lib Jvm.Free Jvm.Stand Jvm.LawKit Jvm.RoadKit Bundle Jvm.Pilot.@@N@@.Jvm.D
section OwnKit
variable {p : Program} {l : Launch} {e : Env} {R : Room} {s : State} {m : MethodId} {args : Array Value} {below : List Frame} {meth : Method} {c : Code} {T T' : State} {Z : State} {h : Heap} {n0 k n mx : Nat} {y : MethodName} {bytes : ByteArray} {ret : Option FieldType} {Q : Option Value → Heap → Prop} {pc : Nat} {Ls : Array Slot} {st rest : List Value} {a0 : Array Value} {g g' : JFrame}
/-- where a body's walk stands: all that its steps ask, bundled -/
def OW (p : Program) (l : Launch) (e : Env) (R : Room) (s : State) (m : MethodId) (args : Array Value) (below : List Frame) (meth : Method) (c : Code) (Z : State) (y : MethodName) (bytes : ByteArray) (mx : Nat) (ret : Option FieldType) (n0 : Nat) (T : State) (h : Heap) (k n : Nat) : Prop :=
  p.tables.exec = Jvm.exec ∧ Z.Warmed39 s.vm ∧ s.vm.findClass y.cls = some m.cls ∧ c.code = bytes ∧ c.maxLocals = mx ∧ meth.sig.returnType = ret ∧ meth.name = y.name ∧ meth.locks = false ∧ n0 ≤ s.heap.size ∧ T.heap = h ∧ ∃ locs, Stand p l e R s m args below meth c T locs k n ∧ Fr n0 locs
/-- what a body owes from the frame g on: it returns, and Q holds of what it returns and of the heap -/
def OE (p : Program) (e : Env) (R : Room) (below : List Frame) (s : State) (n0 : Nat) (Q : Option Value → Heap → Prop) (T : State) (g : JFrame) : Prop :=
  ∃ t o, Steps p.tables e below (T.setTop g) t ∧ t.status = .running ∧ Ended t below o ∧ ∃ v L, o = .returned v ∧ (Q v t.heap ∧ Fr n0 L) ∧ FrameEnd s o t L R.cells R.slots
theorem OE.by (hs : ∀ t, Steps p.tables e below (T'.setTop g') t → Steps p.tables e below (T.setTop g) t) (K : OE p e R below s n0 Q T' g') : OE p e R below s n0 Q T g := by
  obtain ⟨t, o, h1, r⟩ := K; exact ⟨t, o, hs t h1, r⟩
theorem OW.size (X : OW p l e R s m args below meth c Z y bytes mx ret n0 T h k n) : n0 ≤ h.size := by
  obtain ⟨-, -, -, -, -, -, -, -, h0, rfl, locs, S, -⟩ := X
  exact Nat.le_trans h0 S.same.2.1
theorem OW.more (X : OW p l e R s m args below meth c Z y bytes mx ret n0 T h k n) {k' n' : Nat} (hk : k ≤ k') (hn : n ≤ n') : OW p l e R s m args below meth c Z y bytes mx ret n0 T h k' n' := by
  obtain ⟨h1, h2, h3, h4, h5, h6, h7, h8, h9, h10, locs, S, N⟩ := X
  exact ⟨h1, h2, h3, h4, h5, h6, h7, h8, h9, h10, locs, S.more hk hn, N⟩
theorem o_iloadN (X : OW p l e R s m args below meth c Z y bytes mx ret n0 T h k n) {j : Fin 4} {v : Int32} (hd : decode bytes pc = .ok (.iload_n j, 1)) (hl : Ls[j.val]? = some (.val (.int v))) (pc' : Nat) (hp : pc + 1 = pc') (K : OE p e R below s n0 Q T (mkF m pc' Ls (.int v :: st))) : OE p e R below s n0 Q T (mkF m pc Ls st) := by
  obtain ⟨hx, hZ, hown, hby, hmx, hret, hnm, hlk, h0, hT, locs, S, N⟩ := X; subst hp
  exact OE.by (fun t q => XS.iloadN S.here hx rfl (hb hby hd) hl q) K
theorem o_iload (X : OW p l e R s m args below meth c Z y bytes mx ret n0 T h k n) {j : Nat} {v : Int32} (hd : decode bytes pc = .ok (.iload j, 2)) (hl : Ls[j]? = some (.val (.int v))) (pc' : Nat) (hp : pc + 2 = pc') (K : OE p e R below s n0 Q T (mkF m pc' Ls (.int v :: st))) : OE p e R below s n0 Q T (mkF m pc Ls st) := by
  obtain ⟨hx, hZ, hown, hby, hmx, hret, hnm, hlk, h0, hT, locs, S, N⟩ := X; subst hp
  exact OE.by (fun t q => XS.iload S.here hx rfl (hb hby hd) hl q) K
theorem o_aloadN (X : OW p l e R s m args below meth c Z y bytes mx ret n0 T h k n) {j : Fin 4} {v : Value} (hd : decode bytes pc = .ok (.aload_n j, 1)) (hl : Ls[j.val]? = some (.val v)) (hv : v.isRef = true) (pc' : Nat) (hp : pc + 1 = pc') (K : OE p e R below s n0 Q T (mkF m pc' Ls (v :: st))) : OE p e R below s n0 Q T (mkF m pc Ls st) := by
  obtain ⟨hx, hZ, hown, hby, hmx, hret, hnm, hlk, h0, hT, locs, S, N⟩ := X; subst hp
  exact OE.by (fun t q => XS.aloadN S.here hx rfl (hb hby hd) hl hv q) K
theorem o_aload (X : OW p l e R s m args below meth c Z y bytes mx ret n0 T h k n) {j : Nat} {v : Value} (hd : decode bytes pc = .ok (.aload j, 2)) (hl : Ls[j]? = some (.val v)) (hv : v.isRef = true) (pc' : Nat) (hp : pc + 2 = pc') (K : OE p e R below s n0 Q T (mkF m pc' Ls (v :: st))) : OE p e R below s n0 Q T (mkF m pc Ls st) := by
  obtain ⟨hx, hZ, hown, hby, hmx, hret, hnm, hlk, h0, hT, locs, S, N⟩ := X; subst hp
  exact OE.by (fun t q => XS.aload S.here hx rfl (hb hby hd) hl hv q) K
theorem o_lloadN (X : OW p l e R s m args below meth c Z y bytes mx ret n0 T h k n) {j : Fin 4} {v : Int64} (hd : decode bytes pc = .ok (.lload_n j, 1)) (hl : Ls[j.val]? = some (.val (.long v))) (pc' : Nat) (hp : pc + 1 = pc') (K : OE p e R below s n0 Q T (mkF m pc' Ls (.long v :: st))) : OE p e R below s n0 Q T (mkF m pc Ls st) := by
  obtain ⟨hx, hZ, hown, hby, hmx, hret, hnm, hlk, h0, hT, locs, S, N⟩ := X; subst hp
  exact OE.by (fun t q => XT.lloadN S.here hx rfl (hb hby hd) hl q) K
theorem o_lload (X : OW p l e R s m args below meth c Z y bytes mx ret n0 T h k n) {j : Nat} {v : Int64} (hd : decode bytes pc = .ok (.lload j, 2)) (hl : Ls[j]? = some (.val (.long v))) (pc' : Nat) (hp : pc + 2 = pc') (K : OE p e R below s n0 Q T (mkF m pc' Ls (.long v :: st))) : OE p e R below s n0 Q T (mkF m pc Ls st) := by
  obtain ⟨hx, hZ, hown, hby, hmx, hret, hnm, hlk, h0, hT, locs, S, N⟩ := X; subst hp
  exact OE.by (fun t q => XT.lload S.here hx rfl (hb hby hd) hl q) K
theorem o_iconst (X : OW p l e R s m args below meth c Z y bytes mx ret n0 T h k n) {i : Int} {v : Int32} (hd : decode bytes pc = .ok (.iconst i, 1)) (hv : Int32.ofInt i = v) (pc' : Nat) (hp : pc + 1 = pc') (K : OE p e R below s n0 Q T (mkF m pc' Ls (.int v :: st))) : OE p e R below s n0 Q T (mkF m pc Ls st) := by
  obtain ⟨hx, hZ, hown, hby, hmx, hret, hnm, hlk, h0, hT, locs, S, N⟩ := X; subst hp hv
  exact OE.by (fun t q => XS.iconst S.here hx rfl (hb hby hd) q) K
theorem o_bipush (X : OW p l e R s m args below meth c Z y bytes mx ret n0 T h k n) {i : Int} {v : Int32} (hd : decode bytes pc = .ok (.bipush i, 2)) (hv : (Int8.ofInt i).toInt32 = v) (pc' : Nat) (hp : pc + 2 = pc') (K : OE p e R below s n0 Q T (mkF m pc' Ls (.int v :: st))) : OE p e R below s n0 Q T (mkF m pc Ls st) := by
  obtain ⟨hx, hZ, hown, hby, hmx, hret, hnm, hlk, h0, hT, locs, S, N⟩ := X; subst hp hv
  exact OE.by (fun t q => XS.bipush S.here hx rfl (hb hby hd) q) K
theorem o_sipush (X : OW p l e R s m args below meth c Z y bytes mx ret n0 T h k n) {i : Int} {v : Int32} (hd : decode bytes pc = .ok (.sipush i, 3)) (hv : (Int16.ofInt i).toInt32 = v) (pc' : Nat) (hp : pc + 3 = pc') (K : OE p e R below s n0 Q T (mkF m pc' Ls (.int v :: st))) : OE p e R below s n0 Q T (mkF m pc Ls st) := by
  obtain ⟨hx, hZ, hown, hby, hmx, hret, hnm, hlk, h0, hT, locs, S, N⟩ := X; subst hp hv
  exact OE.by (fun t q => XS.sipush S.here hx rfl (hb hby hd) q) K
theorem o_lconst (X : OW p l e R s m args below meth c Z y bytes mx ret n0 T h k n) {i : Fin 2} {v : Int64} (hd : decode bytes pc = .ok (.lconst i, 1)) (hv : Int64.ofNat i = v) (pc' : Nat) (hp : pc + 1 = pc') (K : OE p e R below s n0 Q T (mkF m pc' Ls (.long v :: st))) : OE p e R below s n0 Q T (mkF m pc Ls st) := by
  obtain ⟨hx, hZ, hown, hby, hmx, hret, hnm, hlk, h0, hT, locs, S, N⟩ := X; subst hp hv
  exact OE.by (fun t q => XT.lconst S.here hx rfl (hb hby hd) q) K
theorem o_iadd (X : OW p l e R s m args below meth c Z y bytes mx ret n0 T h k n) {x z : Int32} (hd : decode bytes pc = .ok (.iadd, 1))  (pc' : Nat) (hp : pc + 1 = pc') (K : OE p e R below s n0 Q T (mkF m pc' Ls (.int (x + z) :: st))) : OE p e R below s n0 Q T (mkF m pc Ls (.int z :: .int x :: st)) := by
  obtain ⟨hx, hZ, hown, hby, hmx, hret, hnm, hlk, h0, hT, locs, S, N⟩ := X; subst hp
  exact OE.by (fun t q => XS.iadd S.here hx rfl (hb hby hd) rfl q) K
theorem o_isub (X : OW p l e R s m args below meth c Z y bytes mx ret n0 T h k n) {x z : Int32} (hd : decode bytes pc = .ok (.isub, 1))  (pc' : Nat) (hp : pc + 1 = pc') (K : OE p e R below s n0 Q T (mkF m pc' Ls (.int (x - z) :: st))) : OE p e R below s n0 Q T (mkF m pc Ls (.int z :: .int x :: st)) := by
  obtain ⟨hx, hZ, hown, hby, hmx, hret, hnm, hlk, h0, hT, locs, S, N⟩ := X; subst hp
  exact OE.by (fun t q => XS.isub S.here hx rfl (hb hby hd) rfl q) K
theorem o_imul (X : OW p l e R s m args below meth c Z y bytes mx ret n0 T h k n) {x z : Int32} (hd : decode bytes pc = .ok (.imul, 1))  (pc' : Nat) (hp : pc + 1 = pc') (K : OE p e R below s n0 Q T (mkF m pc' Ls (.int (x * z) :: st))) : OE p e R below s n0 Q T (mkF m pc Ls (.int z :: .int x :: st)) := by
  obtain ⟨hx, hZ, hown, hby, hmx, hret, hnm, hlk, h0, hT, locs, S, N⟩ := X; subst hp
  exact OE.by (fun t q => XS.imul S.here hx rfl (hb hby hd) rfl q) K
theorem o_iand (X : OW p l e R s m args below meth c Z y bytes mx ret n0 T h k n) {x z : Int32} (hd : decode bytes pc = .ok (.iand, 1))  (pc' : Nat) (hp : pc + 1 = pc') (K : OE p e R below s n0 Q T (mkF m pc' Ls (.int (x &&& z) :: st))) : OE p e R below s n0 Q T (mkF m pc Ls (.int z :: .int x :: st)) := by
  obtain ⟨hx, hZ, hown, hby, hmx, hret, hnm, hlk, h0, hT, locs, S, N⟩ := X; subst hp
  exact OE.by (fun t q => XS.iand S.here hx rfl (hb hby hd) rfl q) K
theorem o_ior (X : OW p l e R s m args below meth c Z y bytes mx ret n0 T h k n) {x z : Int32} (hd : decode bytes pc = .ok (.ior, 1))  (pc' : Nat) (hp : pc + 1 = pc') (K : OE p e R below s n0 Q T (mkF m pc' Ls (.int (x ||| z) :: st))) : OE p e R below s n0 Q T (mkF m pc Ls (.int z :: .int x :: st)) := by
  obtain ⟨hx, hZ, hown, hby, hmx, hret, hnm, hlk, h0, hT, locs, S, N⟩ := X; subst hp
  exact OE.by (fun t q => XT.ior S.here hx rfl (hb hby hd) rfl q) K
theorem o_ixor (X : OW p l e R s m args below meth c Z y bytes mx ret n0 T h k n) {x z : Int32} (hd : decode bytes pc = .ok (.ixor, 1))  (pc' : Nat) (hp : pc + 1 = pc') (K : OE p e R below s n0 Q T (mkF m pc' Ls (.int (x ^^^ z) :: st))) : OE p e R below s n0 Q T (mkF m pc Ls (.int z :: .int x :: st)) := by
  obtain ⟨hx, hZ, hown, hby, hmx, hret, hnm, hlk, h0, hT, locs, S, N⟩ := X; subst hp
  exact OE.by (fun t q => XT.ixor S.here hx rfl (hb hby hd) rfl q) K
theorem o_ishl (X : OW p l e R s m args below meth c Z y bytes mx ret n0 T h k n) {x z : Int32} (hd : decode bytes pc = .ok (.ishl, 1))  (pc' : Nat) (hp : pc + 1 = pc') (K : OE p e R below s n0 Q T (mkF m pc' Ls (.int (x <<< (z &&& 31)) :: st))) : OE p e R below s n0 Q T (mkF m pc Ls (.int z :: .int x :: st)) := by
  obtain ⟨hx, hZ, hown, hby, hmx, hret, hnm, hlk, h0, hT, locs, S, N⟩ := X; subst hp
  exact OE.by (fun t q => XT.ishl S.here hx rfl (hb hby hd) rfl q) K
theorem o_ishr (X : OW p l e R s m args below meth c Z y bytes mx ret n0 T h k n) {x z : Int32} (hd : decode bytes pc = .ok (.ishr, 1))  (pc' : Nat) (hp : pc + 1 = pc') (K : OE p e R below s n0 Q T (mkF m pc' Ls (.int (x >>> (z &&& 31)) :: st))) : OE p e R below s n0 Q T (mkF m pc Ls (.int z :: .int x :: st)) := by
  obtain ⟨hx, hZ, hown, hby, hmx, hret, hnm, hlk, h0, hT, locs, S, N⟩ := X; subst hp
  exact OE.by (fun t q => XT.ishr S.here hx rfl (hb hby hd) rfl q) K
theorem o_iushr (X : OW p l e R s m args below meth c Z y bytes mx ret n0 T h k n) {x z : Int32} (hd : decode bytes pc = .ok (.iushr, 1))  (pc' : Nat) (hp : pc + 1 = pc') (K : OE p e R below s n0 Q T (mkF m pc' Ls (.int (XT.ushr x z) :: st))) : OE p e R below s n0 Q T (mkF m pc Ls (.int z :: .int x :: st)) := by
  obtain ⟨hx, hZ, hown, hby, hmx, hret, hnm, hlk, h0, hT, locs, S, N⟩ := X; subst hp
  exact OE.by (fun t q => XT.iushr S.here hx rfl (hb hby hd) rfl q) K
theorem o_idiv (X : OW p l e R s m args below meth c Z y bytes mx ret n0 T h k n) {x z : Int32} (hd : decode bytes pc = .ok (.idiv, 1)) (hz : z ≠ 0) (pc' : Nat) (hp : pc + 1 = pc') (K : OE p e R below s n0 Q T (mkF m pc' Ls (.int (x / z) :: st))) : OE p e R below s n0 Q T (mkF m pc Ls (.int z :: .int x :: st)) := by
  obtain ⟨hx, hZ, hown, hby, hmx, hret, hnm, hlk, h0, hT, locs, S, N⟩ := X; subst hp
  exact OE.by (fun t q => XS.idiv S.here hx rfl (hb hby hd) rfl hz q) K
theorem o_irem (X : OW p l e R s m args below meth c Z y bytes mx ret n0 T h k n) {x z : Int32} (hd : decode bytes pc = .ok (.irem, 1)) (hz : z ≠ 0) (pc' : Nat) (hp : pc + 1 = pc') (K : OE p e R below s n0 Q T (mkF m pc' Ls (.int (x % z) :: st))) : OE p e R below s n0 Q T (mkF m pc Ls (.int z :: .int x :: st)) := by
  obtain ⟨hx, hZ, hown, hby, hmx, hret, hnm, hlk, h0, hT, locs, S, N⟩ := X; subst hp
  exact OE.by (fun t q => iremM S hx rfl (hb hby hd) rfl hz q) K
theorem o_ladd (X : OW p l e R s m args below meth c Z y bytes mx ret n0 T h k n) {x z : Int64} (hd : decode bytes pc = .ok (.ladd, 1))  (pc' : Nat) (hp : pc + 1 = pc') (K : OE p e R below s n0 Q T (mkF m pc' Ls (.long (x + z) :: st))) : OE p e R below s n0 Q T (mkF m pc Ls (.long z :: .long x :: st)) := by
  obtain ⟨hx, hZ, hown, hby, hmx, hret, hnm, hlk, h0, hT, locs, S, N⟩ := X; subst hp
  exact OE.by (fun t q => XT.ladd S.here hx rfl (hb hby hd) rfl q) K
theorem o_lsub (X : OW p l e R s m args below meth c Z y bytes mx ret n0 T h k n) {x z : Int64} (hd : decode bytes pc = .ok (.lsub, 1))  (pc' : Nat) (hp : pc + 1 = pc') (K : OE p e R below s n0 Q T (mkF m pc' Ls (.long (x - z) :: st))) : OE p e R below s n0 Q T (mkF m pc Ls (.long z :: .long x :: st)) := by
  obtain ⟨hx, hZ, hown, hby, hmx, hret, hnm, hlk, h0, hT, locs, S, N⟩ := X; subst hp
  exact OE.by (fun t q => XT.lsub S.here hx rfl (hb hby hd) rfl q) K
theorem o_lor (X : OW p l e R s m args below meth c Z y bytes mx ret n0 T h k n) {x z : Int64} (hd : decode bytes pc = .ok (.lor, 1))  (pc' : Nat) (hp : pc + 1 = pc') (K : OE p e R below s n0 Q T (mkF m pc' Ls (.long (x ||| z) :: st))) : OE p e R below s n0 Q T (mkF m pc Ls (.long z :: .long x :: st)) := by
  obtain ⟨hx, hZ, hown, hby, hmx, hret, hnm, hlk, h0, hT, locs, S, N⟩ := X; subst hp
  exact OE.by (fun t q => XT.lor S.here hx rfl (hb hby hd) rfl q) K
theorem o_land (X : OW p l e R s m args below meth c Z y bytes mx ret n0 T h k n) {x z : Int64} (hd : decode bytes pc = .ok (.land, 1))  (pc' : Nat) (hp : pc + 1 = pc') (K : OE p e R below s n0 Q T (mkF m pc' Ls (.long (x &&& z) :: st))) : OE p e R below s n0 Q T (mkF m pc Ls (.long z :: .long x :: st)) := by
  obtain ⟨hx, hZ, hown, hby, hmx, hret, hnm, hlk, h0, hT, locs, S, N⟩ := X; subst hp
  exact OE.by (fun t q => XT.land S.here hx rfl (hb hby hd) rfl q) K
theorem o_lmul (X : OW p l e R s m args below meth c Z y bytes mx ret n0 T h k n) {x z : Int64} (hd : decode bytes pc = .ok (.lmul, 1))  (pc' : Nat) (hp : pc + 1 = pc') (K : OE p e R below s n0 Q T (mkF m pc' Ls (.long (x * z) :: st))) : OE p e R below s n0 Q T (mkF m pc Ls (.long z :: .long x :: st)) := by
  obtain ⟨hx, hZ, hown, hby, hmx, hret, hnm, hlk, h0, hT, locs, S, N⟩ := X; subst hp
  exact OE.by (fun t q => XT.lmul S.here hx rfl (hb hby hd) rfl q) K
theorem o_lshl (X : OW p l e R s m args below meth c Z y bytes mx ret n0 T h k n) {x : Int64} {z : Int32} (hd : decode bytes pc = .ok (.lshl, 1))  (pc' : Nat) (hp : pc + 1 = pc') (K : OE p e R below s n0 Q T (mkF m pc' Ls (.long (x <<< (z.toInt64 &&& 63)) :: st))) : OE p e R below s n0 Q T (mkF m pc Ls (.int z :: .long x :: st)) := by
  obtain ⟨hx, hZ, hown, hby, hmx, hret, hnm, hlk, h0, hT, locs, S, N⟩ := X; subst hp
  exact OE.by (fun t q => XT.lshl S.here hx rfl (hb hby hd) rfl q) K
theorem o_lushr (X : OW p l e R s m args below meth c Z y bytes mx ret n0 T h k n) {x : Int64} {z : Int32} (hd : decode bytes pc = .ok (.lushr, 1))  (pc' : Nat) (hp : pc + 1 = pc') (K : OE p e R below s n0 Q T (mkF m pc' Ls (.long (XT.ushrL x z) :: st))) : OE p e R below s n0 Q T (mkF m pc Ls (.int z :: .long x :: st)) := by
  obtain ⟨hx, hZ, hown, hby, hmx, hret, hnm, hlk, h0, hT, locs, S, N⟩ := X; subst hp
  exact OE.by (fun t q => XT.lushr S.here hx rfl (hb hby hd) rfl q) K
theorem o_lcmp (X : OW p l e R s m args below meth c Z y bytes mx ret n0 T h k n) {x z : Int64} (hd : decode bytes pc = .ok (.lcmp, 1))  (pc' : Nat) (hp : pc + 1 = pc') (K : OE p e R below s n0 Q T (mkF m pc' Ls (.int (XT.cmpL x z) :: st))) : OE p e R below s n0 Q T (mkF m pc Ls (.long z :: .long x :: st)) := by
  obtain ⟨hx, hZ, hown, hby, hmx, hret, hnm, hlk, h0, hT, locs, S, N⟩ := X; subst hp
  exact OE.by (fun t q => XT.lcmp S.here hx rfl (hb hby hd) rfl q) K
theorem o_i2l (X : OW p l e R s m args below meth c Z y bytes mx ret n0 T h k n) {x : Int32} (hd : decode bytes pc = .ok (.i2l, 1))  (pc' : Nat) (hp : pc + 1 = pc') (K : OE p e R below s n0 Q T (mkF m pc' Ls (.long x.toInt64 :: st))) : OE p e R below s n0 Q T (mkF m pc Ls (.int x :: st)) := by
  obtain ⟨hx, hZ, hown, hby, hmx, hret, hnm, hlk, h0, hT, locs, S, N⟩ := X; subst hp
  exact OE.by (fun t q => XT.i2l S.here hx rfl (hb hby hd) rfl q) K
theorem o_l2i (X : OW p l e R s m args below meth c Z y bytes mx ret n0 T h k n) {x : Int64} (hd : decode bytes pc = .ok (.l2i, 1))  (pc' : Nat) (hp : pc + 1 = pc') (K : OE p e R below s n0 Q T (mkF m pc' Ls (.int x.toInt32 :: st))) : OE p e R below s n0 Q T (mkF m pc Ls (.long x :: st)) := by
  obtain ⟨hx, hZ, hown, hby, hmx, hret, hnm, hlk, h0, hT, locs, S, N⟩ := X; subst hp
  exact OE.by (fun t q => XT.l2i S.here hx rfl (hb hby hd) rfl q) K
theorem o_i2b (X : OW p l e R s m args below meth c Z y bytes mx ret n0 T h k n) {x : Int32} (hd : decode bytes pc = .ok (.i2b, 1))  (pc' : Nat) (hp : pc + 1 = pc') (K : OE p e R below s n0 Q T (mkF m pc' Ls (.int x.toInt8.toInt32 :: st))) : OE p e R below s n0 Q T (mkF m pc Ls (.int x :: st)) := by
  obtain ⟨hx, hZ, hown, hby, hmx, hret, hnm, hlk, h0, hT, locs, S, N⟩ := X; subst hp
  exact OE.by (fun t q => XT.i2b S.here hx rfl (hb hby hd) rfl q) K
theorem o_i2c (X : OW p l e R s m args below meth c Z y bytes mx ret n0 T h k n) {x : Int32} (hd : decode bytes pc = .ok (.i2c, 1))  (pc' : Nat) (hp : pc + 1 = pc') (K : OE p e R below s n0 Q T (mkF m pc' Ls (.int x.toUInt32.toUInt16.toUInt32.toInt32 :: st))) : OE p e R below s n0 Q T (mkF m pc Ls (.int x :: st)) := by
  obtain ⟨hx, hZ, hown, hby, hmx, hret, hnm, hlk, h0, hT, locs, S, N⟩ := X; subst hp
  exact OE.by (fun t q => XT.i2c S.here hx rfl (hb hby hd) rfl q) K
theorem o_dup (X : OW p l e R s m args below meth c Z y bytes mx ret n0 T h k n) {v : Value} (hd : decode bytes pc = .ok (.dup, 1)) (hc : v.category = 1) (pc' : Nat) (hp : pc + 1 = pc') (K : OE p e R below s n0 Q T (mkF m pc' Ls (v :: v :: st))) : OE p e R below s n0 Q T (mkF m pc Ls (v :: st)) := by
  obtain ⟨hx, hZ, hown, hby, hmx, hret, hnm, hlk, h0, hT, locs, S, N⟩ := X; subst hp
  exact OE.by (fun t q => XS.dup S.here hx rfl (hb hby hd) rfl hc q) K
theorem o_pop (X : OW p l e R s m args below meth c Z y bytes mx ret n0 T h k n) {v : Value} (hd : decode bytes pc = .ok (.pop, 1)) (hc : v.category = 1) (pc' : Nat) (hp : pc + 1 = pc') (K : OE p e R below s n0 Q T (mkF m pc' Ls st)) : OE p e R below s n0 Q T (mkF m pc Ls (v :: st)) := by
  obtain ⟨hx, hZ, hown, hby, hmx, hret, hnm, hlk, h0, hT, locs, S, N⟩ := X; subst hp
  exact OE.by (fun t q => XT.pop S.here hx rfl (hb hby hd) rfl hc q) K
theorem o_dupX1 (X : OW p l e R s m args below meth c Z y bytes mx ret n0 T h k n) {v w : Value} (hd : decode bytes pc = .ok (.dup_x1, 1)) (hc : v.category = 1) (hc' : w.category = 1) (pc' : Nat) (hp : pc + 1 = pc') (K : OE p e R below s n0 Q T (mkF m pc' Ls (v :: w :: v :: st))) : OE p e R below s n0 Q T (mkF m pc Ls (v :: w :: st)) := by
  obtain ⟨hx, hZ, hown, hby, hmx, hret, hnm, hlk, h0, hT, locs, S, N⟩ := X; subst hp
  exact OE.by (fun t q => XT.dupX1 S.here hx rfl (hb hby hd) rfl hc hc' q) K
theorem o_dup2 (X : OW p l e R s m args below meth c Z y bytes mx ret n0 T h k n) {v w : Value} (hd : decode bytes pc = .ok (.dup2, 1)) (hc : v.category = 1) (hc' : w.category = 1) (pc' : Nat) (hp : pc + 1 = pc') (K : OE p e R below s n0 Q T (mkF m pc' Ls (v :: w :: v :: w :: st))) : OE p e R below s n0 Q T (mkF m pc Ls (v :: w :: st)) := by
  obtain ⟨hx, hZ, hown, hby, hmx, hret, hnm, hlk, h0, hT, locs, S, N⟩ := X; subst hp
  exact OE.by (fun t q => XT.dup2 S.here hx rfl (hb hby hd) rfl hc hc' q) K
theorem o_istoreN (X : OW p l e R s m args below meth c Z y bytes mx ret n0 T h k n) {j : Fin 4} {v : Int32} (hd : decode bytes pc = .ok (.istore_n j, 1)) (Ls' : Array Slot) (hl : storeLocals Ls j.val (.int v) = some Ls') (pc' : Nat) (hp : pc + 1 = pc') (K : OE p e R below s n0 Q T (mkF m pc' Ls' st)) : OE p e R below s n0 Q T (mkF m pc Ls (.int v :: st)) := by
  obtain ⟨hx, hZ, hown, hby, hmx, hret, hnm, hlk, h0, hT, locs, S, N⟩ := X; subst hp
  exact OE.by (fun t q => XS.istoreN S.here hx rfl (hb hby hd) rfl hl q) K
theorem o_istore (X : OW p l e R s m args below meth c Z y bytes mx ret n0 T h k n) {j : Nat} {v : Int32} (hd : decode bytes pc = .ok (.istore j, 2)) (Ls' : Array Slot) (hl : storeLocals Ls j (.int v) = some Ls') (pc' : Nat) (hp : pc + 2 = pc') (K : OE p e R below s n0 Q T (mkF m pc' Ls' st)) : OE p e R below s n0 Q T (mkF m pc Ls (.int v :: st)) := by
  obtain ⟨hx, hZ, hown, hby, hmx, hret, hnm, hlk, h0, hT, locs, S, N⟩ := X; subst hp
  exact OE.by (fun t q => XS.istore S.here hx rfl (hb hby hd) rfl hl q) K
theorem o_lstoreN (X : OW p l e R s m args below meth c Z y bytes mx ret n0 T h k n) {j : Fin 4} {v : Int64} (hd : decode bytes pc = .ok (.lstore_n j, 1)) (Ls' : Array Slot) (hl : storeLocals Ls j.val (.long v) = some Ls') (pc' : Nat) (hp : pc + 1 = pc') (K : OE p e R below s n0 Q T (mkF m pc' Ls' st)) : OE p e R below s n0 Q T (mkF m pc Ls (.long v :: st)) := by
  obtain ⟨hx, hZ, hown, hby, hmx, hret, hnm, hlk, h0, hT, locs, S, N⟩ := X; subst hp
  exact OE.by (fun t q => XT.lstoreN S.here hx rfl (hb hby hd) rfl hl q) K
theorem o_lstore (X : OW p l e R s m args below meth c Z y bytes mx ret n0 T h k n) {j : Nat} {v : Int64} (hd : decode bytes pc = .ok (.lstore j, 2)) (Ls' : Array Slot) (hl : storeLocals Ls j (.long v) = some Ls') (pc' : Nat) (hp : pc + 2 = pc') (K : OE p e R below s n0 Q T (mkF m pc' Ls' st)) : OE p e R below s n0 Q T (mkF m pc Ls (.long v :: st)) := by
  obtain ⟨hx, hZ, hown, hby, hmx, hret, hnm, hlk, h0, hT, locs, S, N⟩ := X; subst hp
  exact OE.by (fun t q => XT.lstore S.here hx rfl (hb hby hd) rfl hl q) K
theorem o_astoreN (X : OW p l e R s m args below meth c Z y bytes mx ret n0 T h k n) {j : Fin 4} {v : Value} (hd : decode bytes pc = .ok (.astore_n j, 1)) (hv : v.isRef = true) (Ls' : Array Slot) (hl : storeLocals Ls j.val v = some Ls') (pc' : Nat) (hp : pc + 1 = pc') (K : OE p e R below s n0 Q T (mkF m pc' Ls' st)) : OE p e R below s n0 Q T (mkF m pc Ls (v :: st)) := by
  obtain ⟨hx, hZ, hown, hby, hmx, hret, hnm, hlk, h0, hT, locs, S, N⟩ := X; subst hp
  exact OE.by (fun t q => XS.astoreN S.here hx rfl (hb hby hd) rfl hv hl q) K
theorem o_astore (X : OW p l e R s m args below meth c Z y bytes mx ret n0 T h k n) {j : Nat} {v : Value} (hd : decode bytes pc = .ok (.astore j, 2)) (hv : v.isRef = true) (Ls' : Array Slot) (hl : storeLocals Ls j v = some Ls') (pc' : Nat) (hp : pc + 2 = pc') (K : OE p e R below s n0 Q T (mkF m pc' Ls' st)) : OE p e R below s n0 Q T (mkF m pc Ls (v :: st)) := by
  obtain ⟨hx, hZ, hown, hby, hmx, hret, hnm, hlk, h0, hT, locs, S, N⟩ := X; subst hp
  exact OE.by (fun t q => XS.astore S.here hx rfl (hb hby hd) rfl hv hl q) K
theorem o_iinc (X : OW p l e R s m args below meth c Z y bytes mx ret n0 T h k n) {j : Nat} {i : Int} {v w : Int32} (hd : decode bytes pc = .ok (.iinc j i, 3)) (hg : Ls[j]? = some (.val (.int v))) (hw : v + Int32.ofInt i = w) (Ls' : Array Slot) (hl : storeLocals Ls j (.int w) = some Ls') (pc' : Nat) (hp : pc + 3 = pc') (K : OE p e R below s n0 Q T (mkF m pc' Ls' st)) : OE p e R below s n0 Q T (mkF m pc Ls st) := by
  obtain ⟨hx, hZ, hown, hby, hmx, hret, hnm, hlk, h0, hT, locs, S, N⟩ := X; subst hp hw
  exact OE.by (fun t q => XS.iinc S.here hx rfl (hb hby hd) hg hl q) K
theorem o_goto (X : OW p l e R s m args below meth c Z y bytes mx ret n0 T h k n) {o : Int} (hd : decode bytes pc = .ok (.goto o, 3)) (pc' : Nat) (ho : 0 ≤ (pc : Int) + o) (hp : ((pc : Int) + o).toNat = pc') (K : OE p e R below s n0 Q T (mkF m pc' Ls st)) : OE p e R below s n0 Q T (mkF m pc Ls st) := by
  obtain ⟨hx, hZ, hown, hby, hmx, hret, hnm, hlk, h0, hT, locs, S, N⟩ := X
  exact OE.by (fun t q => XS.goto S.here hx rfl rfl (hb hby hd) ho hp q) K
theorem o_icmpEq (X : OW p l e R s m args below meth c Z y bytes mx ret n0 T h k n) {o : Int} {x z : Int32} (hd : decode bytes pc = .ok (.if_icmp .eq o, 3)) (pcT pcF : Nat) (ho : 0 ≤ (pc : Int) + o) (hT : ((pc : Int) + o).toNat = pcT) (hF : pc + 3 = pcF) (KT : x = z → OE p e R below s n0 Q T (mkF m pcT Ls st)) (KF : ¬ x = z → OE p e R below s n0 Q T (mkF m pcF Ls st)) : OE p e R below s n0 Q T (mkF m pc Ls (.int z :: .int x :: st)) := by
  obtain ⟨hx, hZ, hown, hby, hmx, hret, hnm, hlk, h0, hT', locs, S, N⟩ := X; subst hF
  by_cases q : x = z
  · exact OE.by (fun t r => XS.icmpYes S.here hx rfl rfl (hb hby hd) rfl ((teq q).1) ho hT r) (KT q)
  · exact OE.by (fun t r => XS.icmpNo S.here hx rfl (hb hby hd) rfl ((feq q).1) r) (KF q)
theorem o_ifEq (X : OW p l e R s m args below meth c Z y bytes mx ret n0 T h k n) {o : Int} {x : Int32} (hd : decode bytes pc = .ok (.ifCond .eq o, 3)) (pcT pcF : Nat) (ho : 0 ≤ (pc : Int) + o) (hT : ((pc : Int) + o).toNat = pcT) (hF : pc + 3 = pcF) (KT : x = 0 → OE p e R below s n0 Q T (mkF m pcT Ls st)) (KF : ¬ x = 0 → OE p e R below s n0 Q T (mkF m pcF Ls st)) : OE p e R below s n0 Q T (mkF m pc Ls (.int x :: st)) := by
  obtain ⟨hx, hZ, hown, hby, hmx, hret, hnm, hlk, h0, hT', locs, S, N⟩ := X; subst hF
  by_cases q : x = 0
  · exact OE.by (fun t r => XS.ifYes S.here hx rfl rfl (hb hby hd) rfl ((if0 _ _).trans (teq q).1) ho hT r) (KT q)
  · exact OE.by (fun t r => XS.ifNo S.here hx rfl (hb hby hd) rfl ((if0 _ _).trans (feq q).1) r) (KF q)
theorem o_icmpNe (X : OW p l e R s m args below meth c Z y bytes mx ret n0 T h k n) {o : Int} {x z : Int32} (hd : decode bytes pc = .ok (.if_icmp .ne o, 3)) (pcT pcF : Nat) (ho : 0 ≤ (pc : Int) + o) (hT : ((pc : Int) + o).toNat = pcT) (hF : pc + 3 = pcF) (KT : ¬ x = z → OE p e R below s n0 Q T (mkF m pcT Ls st)) (KF : x = z → OE p e R below s n0 Q T (mkF m pcF Ls st)) : OE p e R below s n0 Q T (mkF m pc Ls (.int z :: .int x :: st)) := by
  obtain ⟨hx, hZ, hown, hby, hmx, hret, hnm, hlk, h0, hT', locs, S, N⟩ := X; subst hF
  by_cases q : x = z
  · exact OE.by (fun t r => XS.icmpNo S.here hx rfl (hb hby hd) rfl ((teq q).2) r) (KF q)
  · exact OE.by (fun t r => XS.icmpYes S.here hx rfl rfl (hb hby hd) rfl ((feq q).2) ho hT r) (KT q)
theorem o_ifNe (X : OW p l e R s m args below meth c Z y bytes mx ret n0 T h k n) {o : Int} {x : Int32} (hd : decode bytes pc = .ok (.ifCond .ne o, 3)) (pcT pcF : Nat) (ho : 0 ≤ (pc : Int) + o) (hT : ((pc : Int) + o).toNat = pcT) (hF : pc + 3 = pcF) (KT : ¬ x = 0 → OE p e R below s n0 Q T (mkF m pcT Ls st)) (KF : x = 0 → OE p e R below s n0 Q T (mkF m pcF Ls st)) : OE p e R below s n0 Q T (mkF m pc Ls (.int x :: st)) := by
  obtain ⟨hx, hZ, hown, hby, hmx, hret, hnm, hlk, h0, hT', locs, S, N⟩ := X; subst hF
  by_cases q : x = 0
  · exact OE.by (fun t r => XS.ifNo S.here hx rfl (hb hby hd) rfl ((if0 _ _).trans (teq q).2) r) (KF q)
  · exact OE.by (fun t r => XS.ifYes S.here hx rfl rfl (hb hby hd) rfl ((if0 _ _).trans (feq q).2) ho hT r) (KT q)
theorem o_icmpLt (X : OW p l e R s m args below meth c Z y bytes mx ret n0 T h k n) {o : Int} {x z : Int32} (hd : decode bytes pc = .ok (.if_icmp .lt o, 3)) (pcT pcF : Nat) (ho : 0 ≤ (pc : Int) + o) (hT : ((pc : Int) + o).toNat = pcT) (hF : pc + 3 = pcF) (KT : x < z → OE p e R below s n0 Q T (mkF m pcT Ls st)) (KF : ¬ x < z → OE p e R below s n0 Q T (mkF m pcF Ls st)) : OE p e R below s n0 Q T (mkF m pc Ls (.int z :: .int x :: st)) := by
  obtain ⟨hx, hZ, hown, hby, hmx, hret, hnm, hlk, h0, hT', locs, S, N⟩ := X; subst hF
  by_cases q : x < z
  · exact OE.by (fun t r => XS.icmpYes S.here hx rfl rfl (hb hby hd) rfl ((tlt q).1) ho hT r) (KT q)
  · exact OE.by (fun t r => XS.icmpNo S.here hx rfl (hb hby hd) rfl ((flt q).1) r) (KF q)
theorem o_ifLt (X : OW p l e R s m args below meth c Z y bytes mx ret n0 T h k n) {o : Int} {x : Int32} (hd : decode bytes pc = .ok (.ifCond .lt o, 3)) (pcT pcF : Nat) (ho : 0 ≤ (pc : Int) + o) (hT : ((pc : Int) + o).toNat = pcT) (hF : pc + 3 = pcF) (KT : x < 0 → OE p e R below s n0 Q T (mkF m pcT Ls st)) (KF : ¬ x < 0 → OE p e R below s n0 Q T (mkF m pcF Ls st)) : OE p e R below s n0 Q T (mkF m pc Ls (.int x :: st)) := by
  obtain ⟨hx, hZ, hown, hby, hmx, hret, hnm, hlk, h0, hT', locs, S, N⟩ := X; subst hF
  by_cases q : x < 0
  · exact OE.by (fun t r => XS.ifYes S.here hx rfl rfl (hb hby hd) rfl ((if0 _ _).trans (tlt q).1) ho hT r) (KT q)
  · exact OE.by (fun t r => XS.ifNo S.here hx rfl (hb hby hd) rfl ((if0 _ _).trans (flt q).1) r) (KF q)
theorem o_icmpGe (X : OW p l e R s m args below meth c Z y bytes mx ret n0 T h k n) {o : Int} {x z : Int32} (hd : decode bytes pc = .ok (.if_icmp .ge o, 3)) (pcT pcF : Nat) (ho : 0 ≤ (pc : Int) + o) (hT : ((pc : Int) + o).toNat = pcT) (hF : pc + 3 = pcF) (KT : ¬ x < z → OE p e R below s n0 Q T (mkF m pcT Ls st)) (KF : x < z → OE p e R below s n0 Q T (mkF m pcF Ls st)) : OE p e R below s n0 Q T (mkF m pc Ls (.int z :: .int x :: st)) := by
  obtain ⟨hx, hZ, hown, hby, hmx, hret, hnm, hlk, h0, hT', locs, S, N⟩ := X; subst hF
  by_cases q : x < z
  · exact OE.by (fun t r => XS.icmpNo S.here hx rfl (hb hby hd) rfl ((tlt q).2.1) r) (KF q)
  · exact OE.by (fun t r => XS.icmpYes S.here hx rfl rfl (hb hby hd) rfl ((flt q).2.1) ho hT r) (KT q)
theorem o_ifGe (X : OW p l e R s m args below meth c Z y bytes mx ret n0 T h k n) {o : Int} {x : Int32} (hd : decode bytes pc = .ok (.ifCond .ge o, 3)) (pcT pcF : Nat) (ho : 0 ≤ (pc : Int) + o) (hT : ((pc : Int) + o).toNat = pcT) (hF : pc + 3 = pcF) (KT : ¬ x < 0 → OE p e R below s n0 Q T (mkF m pcT Ls st)) (KF : x < 0 → OE p e R below s n0 Q T (mkF m pcF Ls st)) : OE p e R below s n0 Q T (mkF m pc Ls (.int x :: st)) := by
  obtain ⟨hx, hZ, hown, hby, hmx, hret, hnm, hlk, h0, hT', locs, S, N⟩ := X; subst hF
  by_cases q : x < 0
  · exact OE.by (fun t r => XS.ifNo S.here hx rfl (hb hby hd) rfl ((if0 _ _).trans (tlt q).2.1) r) (KF q)
  · exact OE.by (fun t r => XS.ifYes S.here hx rfl rfl (hb hby hd) rfl ((if0 _ _).trans (flt q).2.1) ho hT r) (KT q)
theorem o_icmpGt (X : OW p l e R s m args below meth c Z y bytes mx ret n0 T h k n) {o : Int} {x z : Int32} (hd : decode bytes pc = .ok (.if_icmp .gt o, 3)) (pcT pcF : Nat) (ho : 0 ≤ (pc : Int) + o) (hT : ((pc : Int) + o).toNat = pcT) (hF : pc + 3 = pcF) (KT : z < x → OE p e R below s n0 Q T (mkF m pcT Ls st)) (KF : ¬ z < x → OE p e R below s n0 Q T (mkF m pcF Ls st)) : OE p e R below s n0 Q T (mkF m pc Ls (.int z :: .int x :: st)) := by
  obtain ⟨hx, hZ, hown, hby, hmx, hret, hnm, hlk, h0, hT', locs, S, N⟩ := X; subst hF
  by_cases q : z < x
  · exact OE.by (fun t r => XS.icmpYes S.here hx rfl rfl (hb hby hd) rfl ((tlt q).2.2.1) ho hT r) (KT q)
  · exact OE.by (fun t r => XS.icmpNo S.here hx rfl (hb hby hd) rfl ((flt q).2.2.1) r) (KF q)
theorem o_ifGt (X : OW p l e R s m args below meth c Z y bytes mx ret n0 T h k n) {o : Int} {x : Int32} (hd : decode bytes pc = .ok (.ifCond .gt o, 3)) (pcT pcF : Nat) (ho : 0 ≤ (pc : Int) + o) (hT : ((pc : Int) + o).toNat = pcT) (hF : pc + 3 = pcF) (KT : 0 < x → OE p e R below s n0 Q T (mkF m pcT Ls st)) (KF : ¬ 0 < x → OE p e R below s n0 Q T (mkF m pcF Ls st)) : OE p e R below s n0 Q T (mkF m pc Ls (.int x :: st)) := by
  obtain ⟨hx, hZ, hown, hby, hmx, hret, hnm, hlk, h0, hT', locs, S, N⟩ := X; subst hF
  by_cases q : 0 < x
  · exact OE.by (fun t r => XS.ifYes S.here hx rfl rfl (hb hby hd) rfl ((if0 _ _).trans (tlt q).2.2.1) ho hT r) (KT q)
  · exact OE.by (fun t r => XS.ifNo S.here hx rfl (hb hby hd) rfl ((if0 _ _).trans (flt q).2.2.1) r) (KF q)
theorem o_icmpLe (X : OW p l e R s m args below meth c Z y bytes mx ret n0 T h k n) {o : Int} {x z : Int32} (hd : decode bytes pc = .ok (.if_icmp .le o, 3)) (pcT pcF : Nat) (ho : 0 ≤ (pc : Int) + o) (hT : ((pc : Int) + o).toNat = pcT) (hF : pc + 3 = pcF) (KT : ¬ z < x → OE p e R below s n0 Q T (mkF m pcT Ls st)) (KF : z < x → OE p e R below s n0 Q T (mkF m pcF Ls st)) : OE p e R below s n0 Q T (mkF m pc Ls (.int z :: .int x :: st)) := by
  obtain ⟨hx, hZ, hown, hby, hmx, hret, hnm, hlk, h0, hT', locs, S, N⟩ := X; subst hF
  by_cases q : z < x
  · exact OE.by (fun t r => XS.icmpNo S.here hx rfl (hb hby hd) rfl ((tlt q).2.2.2) r) (KF q)
  · exact OE.by (fun t r => XS.icmpYes S.here hx rfl rfl (hb hby hd) rfl ((flt q).2.2.2) ho hT r) (KT q)
theorem o_ifLe (X : OW p l e R s m args below meth c Z y bytes mx ret n0 T h k n) {o : Int} {x : Int32} (hd : decode bytes pc = .ok (.ifCond .le o, 3)) (pcT pcF : Nat) (ho : 0 ≤ (pc : Int) + o) (hT : ((pc : Int) + o).toNat = pcT) (hF : pc + 3 = pcF) (KT : ¬ 0 < x → OE p e R below s n0 Q T (mkF m pcT Ls st)) (KF : 0 < x → OE p e R below s n0 Q T (mkF m pcF Ls st)) : OE p e R below s n0 Q T (mkF m pc Ls (.int x :: st)) := by
  obtain ⟨hx, hZ, hown, hby, hmx, hret, hnm, hlk, h0, hT', locs, S, N⟩ := X; subst hF
  by_cases q : 0 < x
  · exact OE.by (fun t r => XS.ifNo S.here hx rfl (hb hby hd) rfl ((if0 _ _).trans (tlt q).2.2.2) r) (KF q)
  · exact OE.by (fun t r => XS.ifYes S.here hx rfl rfl (hb hby hd) rfl ((if0 _ _).trans (flt q).2.2.2) ho hT r) (KT q)
theorem o_ifnullR (X : OW p l e R s m args below meth c Z y bytes mx ret n0 T h k n) {o : Int} {a : Addr} (hd : decode bytes pc = .ok (.ifnull o, 3)) (pc' : Nat) (hp : pc + 3 = pc') (K : OE p e R below s n0 Q T (mkF m pc' Ls st)) : OE p e R below s n0 Q T (mkF m pc Ls (.ref a :: st)) := by
  obtain ⟨hx, hZ, hown, hby, hmx, hret, hnm, hlk, h0, hT, locs, S, N⟩ := X; subst hp
  exact OE.by (fun t q => XS.ifnullNo S.here hx rfl (hb hby hd) rfl q) K
theorem o_ifnonnullR (X : OW p l e R s m args below meth c Z y bytes mx ret n0 T h k n) {o : Int} {a : Addr} (hd : decode bytes pc = .ok (.ifnonnull o, 3)) (pc' : Nat) (ho : 0 ≤ (pc : Int) + o) (hp : ((pc : Int) + o).toNat = pc') (K : OE p e R below s n0 Q T (mkF m pc' Ls st)) : OE p e R below s n0 Q T (mkF m pc Ls (.ref a :: st)) := by
  obtain ⟨hx, hZ, hown, hby, hmx, hret, hnm, hlk, h0, hT, locs, S, N⟩ := X
  exact OE.by (fun t q => XT.ifnonnullYes S.here hx rfl rfl (hb hby hd) rfl ho hp q) K
theorem o_acmpEqN (X : OW p l e R s m args below meth c Z y bytes mx ret n0 T h k n) {o : Int} {a b : Addr} (hd : decode bytes pc = .ok (.if_acmp .eq o, 3)) (hab : a ≠ b) (pc' : Nat) (hp : pc + 3 = pc') (K : OE p e R below s n0 Q T (mkF m pc' Ls st)) : OE p e R below s n0 Q T (mkF m pc Ls (.ref b :: .ref a :: st)) := by
  obtain ⟨hx, hZ, hown, hby, hmx, hret, hnm, hlk, h0, hT, locs, S, N⟩ := X; subst hp
  exact OE.by (fun t q => XT.acmpNo S.here hx rfl (hb hby hd) rfl rfl rfl (decide_eq_false fun r => hab (Value.ref.inj r)) q) K
theorem o_acmpNeY (X : OW p l e R s m args below meth c Z y bytes mx ret n0 T h k n) {o : Int} {a b : Addr} (hd : decode bytes pc = .ok (.if_acmp .ne o, 3)) (hab : a ≠ b) (pc' : Nat) (ho : 0 ≤ (pc : Int) + o) (hp : ((pc : Int) + o).toNat = pc') (K : OE p e R below s n0 Q T (mkF m pc' Ls st)) : OE p e R below s n0 Q T (mkF m pc Ls (.ref b :: .ref a :: st)) := by
  obtain ⟨hx, hZ, hown, hby, hmx, hret, hnm, hlk, h0, hT, locs, S, N⟩ := X
  exact OE.by (fun t q => XT.acmpYes S.here hx rfl rfl (hb hby hd) rfl rfl rfl (decide_eq_true fun r => hab (Value.ref.inj r)) ho hp q) K
theorem o_ldc (X : OW p l e R s m args below meth c Z y bytes mx ret n0 T h k n) {i : Nat} {v : Int32} (hd : decode bytes pc = .ok (.ldc i, 2)) (w : (Cond.constant y.cls i v).before a0 Z = true) (pc' : Nat) (hp : pc + 2 = pc') (K : OE p e R below s n0 Q T (mkF m pc' Ls (.int v :: st))) : OE p e R below s n0 Q T (mkF m pc Ls st) := by
  obtain ⟨hx, hZ, hown, hby, hmx, hret, hnm, hlk, h0, hT, locs, S, N⟩ := X; subst hp
  exact OE.by (fun t q => S.ldcInt hx hown (mvT hZ w) (g := mkF m pc Ls st) rfl (hb hby hd) t q) K
theorem o_ldc2L (X : OW p l e R s m args below meth c Z y bytes mx ret n0 T h k n) {i : Nat} {v : Int64} (hd : decode bytes pc = .ok (.ldc2_w i, 3)) (w : (Cond.constantLong y.cls i v).before a0 Z = true) (pc' : Nat) (hp : pc + 3 = pc') (K : OE p e R below s n0 Q T (mkF m pc' Ls (.long v :: st))) : OE p e R below s n0 Q T (mkF m pc Ls st) := by
  obtain ⟨hx, hZ, hown, hby, hmx, hret, hnm, hlk, h0, hT, locs, S, N⟩ := X; subst hp
  exact OE.by (fun t q => S.ldc2Long hx hown (mvT hZ w) (g := mkF m pc Ls st) rfl (hb hby hd) t q) K
theorem o_retZ (X : OW p l e R s m args below meth c Z y bytes mx (some .boolean) n0 T h k n) {z : Int32} (hd : decode bytes pc = .ok (.ireturn, 1)) (hk : k ≤ R.cells) (hn : n ≤ R.slots) (hq : Q (some (.int (nar .boolean z))) h) : OE p e R below s n0 Q T (mkF m pc Ls (.int z :: st)) := by
  obtain ⟨hx, hZ, hown, hby, hmx, hret, hnm, hlk, h0, hT, locs, S, N⟩ := X
  obtain ⟨fs, hr, hrun, hended, hW, hsame⟩ := S.leave (v := some (.int (nar .boolean z))) (fun q => by rw [hret] at q; cases q) hlk
  exact ⟨_, _, retN S hx (t := .boolean) hret (by simp) (hb hby hd) hr, hrun, hended, _, _, rfl, ⟨by show Q _ T.heap; rw [hT]; exact hq, N⟩, ⟨_, rfl⟩, hW, hsame.mono hk hn⟩
theorem o_retB (X : OW p l e R s m args below meth c Z y bytes mx (some .byte) n0 T h k n) {z : Int32} (hd : decode bytes pc = .ok (.ireturn, 1)) (hk : k ≤ R.cells) (hn : n ≤ R.slots) (hq : Q (some (.int (nar .byte z))) h) : OE p e R below s n0 Q T (mkF m pc Ls (.int z :: st)) := by
  obtain ⟨hx, hZ, hown, hby, hmx, hret, hnm, hlk, h0, hT, locs, S, N⟩ := X
  obtain ⟨fs, hr, hrun, hended, hW, hsame⟩ := S.leave (v := some (.int (nar .byte z))) (fun q => by rw [hret] at q; cases q) hlk
  exact ⟨_, _, retN S hx (t := .byte) hret (by simp) (hb hby hd) hr, hrun, hended, _, _, rfl, ⟨by show Q _ T.heap; rw [hT]; exact hq, N⟩, ⟨_, rfl⟩, hW, hsame.mono hk hn⟩
theorem o_retC (X : OW p l e R s m args below meth c Z y bytes mx (some .char) n0 T h k n) {z : Int32} (hd : decode bytes pc = .ok (.ireturn, 1)) (hk : k ≤ R.cells) (hn : n ≤ R.slots) (hq : Q (some (.int (nar .char z))) h) : OE p e R below s n0 Q T (mkF m pc Ls (.int z :: st)) := by
  obtain ⟨hx, hZ, hown, hby, hmx, hret, hnm, hlk, h0, hT, locs, S, N⟩ := X
  obtain ⟨fs, hr, hrun, hended, hW, hsame⟩ := S.leave (v := some (.int (nar .char z))) (fun q => by rw [hret] at q; cases q) hlk
  exact ⟨_, _, retN S hx (t := .char) hret (by simp) (hb hby hd) hr, hrun, hended, _, _, rfl, ⟨by show Q _ T.heap; rw [hT]; exact hq, N⟩, ⟨_, rfl⟩, hW, hsame.mono hk hn⟩
theorem o_retI (X : OW p l e R s m args below meth c Z y bytes mx (some .int) n0 T h k n) {z : Int32} (hd : decode bytes pc = .ok (.ireturn, 1)) (hk : k ≤ R.cells) (hn : n ≤ R.slots) (hq : Q (some (.int z)) h) : OE p e R below s n0 Q T (mkF m pc Ls (.int z :: st)) := by
  obtain ⟨hx, hZ, hown, hby, hmx, hret, hnm, hlk, h0, hT, locs, S, N⟩ := X
  obtain ⟨fs, hr, hrun, hended, hW, hsame⟩ := S.leave (v := some (.int z)) (fun q => by rw [hret] at q; cases q) hlk
  exact ⟨_, _, retOut S hx hret rfl (Or.inl ⟨rfl, Or.inl rfl, z, rfl⟩) (hb hby hd) hr, hrun, hended, _, _, rfl, ⟨by show Q _ T.heap; rw [hT]; exact hq, N⟩, ⟨_, rfl⟩, hW, hsame.mono hk hn⟩
theorem o_retJ (X : OW p l e R s m args below meth c Z y bytes mx (some .long) n0 T h k n) {z : Int64} (hd : decode bytes pc = .ok (.lreturn, 1)) (hk : k ≤ R.cells) (hn : n ≤ R.slots) (hq : Q (some (.long z)) h) : OE p e R below s n0 Q T (mkF m pc Ls (.long z :: st)) := by
  obtain ⟨hx, hZ, hown, hby, hmx, hret, hnm, hlk, h0, hT, locs, S, N⟩ := X
  obtain ⟨fs, hr, hrun, hended, hW, hsame⟩ := S.leave (v := some (.long z)) (fun q => by rw [hret] at q; cases q) hlk
  exact ⟨_, _, retOut S hx hret rfl (Or.inr (Or.inl ⟨rfl, rfl, z, rfl⟩)) (hb hby hd) hr, hrun, hended, _, _, rfl, ⟨by show Q _ T.heap; rw [hT]; exact hq, N⟩, ⟨_, rfl⟩, hW, hsame.mono hk hn⟩
theorem o_retA {ty : FieldType} (X : OW p l e R s m args below meth c Z y bytes mx (some ty) n0 T h k n) (hty : ty.isReference = true) {a : Addr} (hnar : narrow ty (.ref a) = .ref a) (hd : decode bytes pc = .ok (.areturn, 1)) (hk : k ≤ R.cells) (hn : n ≤ R.slots) (hq : Q (some (.ref a)) h) : OE p e R below s n0 Q T (mkF m pc Ls (.ref a :: st)) := by
  obtain ⟨hx, hZ, hown, hby, hmx, hret, hnm, hlk, h0, hT, locs, S, N⟩ := X
  obtain ⟨fs, hr, hrun, hended, hW, hsame⟩ := S.leave (v := some (.ref a)) (fun q => by rw [hret] at q; cases q) hlk
  exact ⟨_, _, retOut S hx hret hnar (Or.inr (Or.inr (Or.inr (Or.inr ⟨rfl, hty, rfl⟩)))) (hb hby hd) hr, hrun, hended, _, _, rfl, ⟨by show Q _ T.heap; rw [hT]; exact hq, N⟩, ⟨_, rfl⟩, hW, hsame.mono hk hn⟩
theorem o_ret (X : OW p l e R s m args below meth c Z y bytes mx none n0 T h k n) (hd : decode bytes pc = .ok (.return_, 1)) (hk : k ≤ R.cells) (hn : n ≤ R.slots) (hq : Q none h) : OE p e R below s n0 Q T (mkF m pc Ls []) := by
  obtain ⟨hx, hZ, hown, hby, hmx, hret, hnm, hlk, h0, hT, locs, S, N⟩ := X
  obtain ⟨fs, hr, hrun, hended, hW, hsame⟩ := S.leave (v := none) (fun _ => rfl) hlk
  exact ⟨_, _, S.returnOut hx hret (hb hby hd) hr, hrun, hended, _, _, rfl, ⟨by show Q _ T.heap; rw [hT]; exact hq, N⟩, ⟨_, rfl⟩, hW, hsame.mono hk hn⟩
/-! the heap: a list of places, each with what its cell says -/
def OA (Z : State) (ty : FieldType) (vs : List Int32) (c : Cell) : Prop := Z.isArrayOf c ty ∧ c.vm ≠ .unknown ∧ c.slots = (vs.map Value.int).toArray ∧ (∀ x ∈ vs, fits ty (.int x) = true) ∧ Z.vm.findClass ("[" ++ ty.toString) = some c.cls
def OL (n0 : Nat) (h : Heap) (L : List (Addr × (Cell → Prop))) : Prop := (L.map (·.1)).Nodup ∧ ∀ q ∈ L, n0 ≤ q.1 ∧ ∃ c : Cell, h[q.1]? = some c ∧ q.2 c
variable {L : List (Addr × (Cell → Prop))} {h' : Heap} {a : Addr} {ty : FieldType} {vs : List Int32} {PP : Cell → Prop}
theorem OL.nil : OL n0 h [] := ⟨List.nodup_nil, fun _ q => nomatch q⟩
theorem OL.ext (H : OL n0 h L) (E : Ext h h') : OL n0 h' L := ⟨H.1, fun q hq => by obtain ⟨h1, c, h2, h3⟩ := H.2 q hq; exact ⟨h1, c, E.2 _ _ h2, h3⟩⟩
theorem OL.lt (H : OL n0 h L) {q : Addr × (Cell → Prop)} (hq : q ∈ L) : q.1 < h.size := by obtain ⟨-, c, h2, -⟩ := H.2 q hq; exact (Array.getElem?_eq_some_iff.mp h2).1
theorem OL.push (H : OL n0 h L) (E : Ext h h') (h0 : n0 ≤ h.size) {c : Cell} (hc : h'[h.size]? = some c) (hp : PP c) : OL n0 h' ((h.size, PP) :: L) := by
  refine ⟨?_, fun q hq => ?_⟩
  · rw [List.map_cons, List.nodup_cons]
    refine ⟨fun hx => ?_, H.1⟩
    obtain ⟨q, hq, e⟩ := List.mem_map.mp hx
    have e' : q.1 = h.size := e
    exact absurd (H.lt hq) (by rw [e']; exact Nat.lt_irrefl _)
  · rcases List.mem_cons.mp hq with hq | hq
    · cases hq; exact ⟨h0, c, hc, hp⟩
    · exact (H.ext E).2 q hq
theorem OL.perm {L' : List (Addr × (Cell → Prop))} (H : OL n0 h L) (q : L.Perm L') : OL n0 h L' := ⟨(q.map (·.1)).nodup_iff.mp H.1, fun z hz => H.2 z (q.mem_iff.mpr hz)⟩
/-- the i-th place comes to the front -/
theorem OL.front (H : OL n0 h L) (i : Nat) {q : Addr × (Cell → Prop)} (hi : L[i]? = some q) : OL n0 h (q :: L.eraseIdx i) := by
  obtain ⟨hl, e⟩ := List.getElem?_eq_some_iff.mp hi
  refine H.perm ?_
  have e1 : L = L.take i ++ q :: L.drop (i + 1) := by rw [← e, List.getElem_cons_drop]; exact (List.take_append_drop i L).symm
  have e2 : L.eraseIdx i = L.take i ++ L.drop (i + 1) := List.eraseIdx_eq_take_drop_succ L i
  rw [e2]
  exact (List.Perm.of_eq e1).trans List.perm_middle
theorem OL.get (H : OL n0 h L) {i : Nat} (hi : L[i]? = some (a, PP)) : n0 ≤ a ∧ ∃ c : Cell, h[a]? = some c ∧ PP c := H.2 (a, PP) (List.mem_of_getElem? hi)
theorem OL.ne (H : OL n0 h L) {i j : Nat} {b : Addr} {PB : Cell → Prop} (hi : L[i]? = some (a, PP)) (hj : L[j]? = some (b, PB)) (hij : i ≠ j) : a ≠ b := by
  intro e; subst e
  have h1 : (L.map (·.1))[i]? = some a := by simp [hi]
  have h2 : (L.map (·.1))[j]? = some a := by simp [hj]
  obtain ⟨l1, -⟩ := List.getElem?_eq_some_iff.mp h1
  exact hij ((List.getElem?_inj l1 H.1).mp (h1.trans h2.symm))
theorem OL.wr (H : OL n0 h L) {i sl : Nat} {v : Value} {P' : Cell → Prop} (hi : L[i]? = some (a, PP)) (W : Wr h h' a sl v) (hP : ∀ c : Cell, h[a]? = some c → PP c → P' (c.setSlot sl v)) : OL n0 h' (L.set i (a, P')) := by
  have hmap : (L.set i (a, P')).map (·.1) = L.map (·.1) := by
    apply List.ext_getElem?
    intro j
    simp only [List.getElem?_map, List.getElem?_set]
    split
    · rename_i e; subst e; rw [if_pos (List.getElem?_eq_some_iff.mp hi).1, hi]; rfl
    · rfl
  refine ⟨by rw [hmap]; exact H.1, fun q hq => ?_⟩
  obtain ⟨j, hj⟩ := List.getElem?_of_mem hq
  rw [List.getElem?_set] at hj
  split at hj
  · rename_i e; subst e
    split at hj
    · cases hj
      obtain ⟨h1, c, h2, h3⟩ := H.get hi
      obtain ⟨c', e1, -, -, -, -, -, e7⟩ := wr_at W h2
      exact ⟨h1, c', e1, by rw [(e7 rfl).1]; exact hP c h2 h3⟩
    · cases hj
  · rename_i e
    obtain ⟨b, PB⟩ := q
    obtain ⟨h1, c, h2, h3⟩ := H.get hj
    obtain ⟨c', e1, -, -, -, e5, -⟩ := wr_at W h2
    have := e5 (H.ne hj hi (fun r => e r.symm))
    subst this
    exact ⟨h1, c', e1, h3⟩
theorem OA.set {c : Cell} {j : Nat} {x : Int32} (A : OA Z ty vs c) (hf : fits ty (.int x) = true) : OA Z ty (vs.set j x) (c.setSlot j (.int x)) := by
  obtain ⟨h1, h2, h3, h4, h5⟩ := A
  refine ⟨h1, h2, ?_, fun z hz => ?_, h5⟩
  · show c.slots.setIfInBounds j (.int x) = _
    rw [h3]; simp [List.map_set]
  · rcases List.mem_or_eq_of_mem_set hz with q | q
    · exact h4 z q
    · rw [q]; exact hf
theorem OA.new {k : ClassId} {z : Int32} {N : Nat} (hN : z.toInt = N) (hd : defaultValue ty = .int 0) (hf : fits ty (.int 0) = true) (A : Arr Z h a (newA k ty z) ty) (E : Exa Z h a ("[" ++ ty.toString)) : OA Z ty (List.replicate N 0) (newA k ty z) := by
  obtain ⟨c, kk, e1, e2, -⟩ := E
  cases A.1.symm.trans e1
  refine ⟨A.2.1, A.2.2, ?_, fun x hx => by rw [List.eq_of_mem_replicate hx]; exact hf, e2⟩
  have e : z.toNatClampNeg = N := by simp only [Int32.toNatClampNeg, hN]; rfl
  show Array.replicate z.toNatClampNeg (defaultValue ty) = _
  rw [e, hd]; simp
theorem o_idx {j : Int32} {i N : Nat} (hj : j.toInt = i) (hi : i < N) : ¬ (j < 0 ∨ N ≤ j.toNatClampNeg) ∧ j.toNatClampNeg = i := by
  have e : j.toNatClampNeg = i := by simp only [Int32.toNatClampNeg, hj]; rfl
  refine ⟨?_, e⟩
  rw [e, Int32.lt_iff_toInt_lt, hj, show (0 : Int32).toInt = 0 from rfl]; omega
theorem OA.size {c : Cell} (A : OA Z ty vs c) : c.slots.size = vs.length := by rw [A.2.2.1]; simp
theorem o_newarray (X : OW p l e R s m args below meth c Z y bytes mx ret n0 T h k n) (H : OL n0 h L) {aty : ArrayType} (hd : decode bytes pc = .ok (.newarray aty, 2)) (w : (Cond.arrayClass (newarray.typeOf aty)).before a0 Z = true) (hdv : defaultValue (newarray.typeOf aty) = .int 0) (hfv : fits (newarray.typeOf aty) (.int 0) = true) {z : Int32} (N cap : Nat) (hN : z.toInt = N) (hcap : N ≤ cap) (hb8 : cap * 8 ≤ 536870912) (k2 n2 : Nat) (hk2 : k + 1 = k2) (hn2 : n + cap = n2) (hc : k2 ≤ R.cells) (hl : n2 ≤ R.slots) (pc' : Nat) (hp : pc + 2 = pc')
    (K : ∀ T' h' a, OW p l e R s m args below meth c Z y bytes mx ret n0 T' h' k2 n2 → OL n0 h' ((a, OA Z (newarray.typeOf aty) (List.replicate N 0)) :: L) → OE p e R below s n0 Q T' (mkF m pc' Ls (.ref a :: st))) : OE p e R below s n0 Q T (mkF m pc Ls (.int z :: st)) := by
  have h0 := X.size
  obtain ⟨hx, hZ, hown, hby, hmx, hret, hnm, hlk, hn0, hT, locs, S, N0⟩ := X; subst hp hk2 hn2
  obtain ⟨T', h', cA, S', hT', E, A, EX, stp⟩ := newPE S hx hZ w hT (g := mkF m pc Ls (.int z :: st)) rfl (hb hby hd) rfl (by rw [Int32.lt_iff_toInt_lt, hN, show (0 : Int32).toInt = 0 from rfl]; omega) (cap := cap) (by simp only [Int32.toNatClampNeg, hN]; exact hcap) hb8 hc hl rfl
  exact OE.by stp (K T' h' h.size ⟨hx, hZ, hown, hby, hmx, hret, hnm, hlk, hn0, hT', locs, S', N0⟩ (H.push E h0 A.1 (OA.new hN hdv hfv A EX)))
theorem o_arraylength (X : OW p l e R s m args below meth c Z y bytes mx ret n0 T h k n) (H : OL n0 h L) (i : Nat) (hi : L[i]? = some (a, OA Z ty vs)) (hd : decode bytes pc = .ok (.arraylength, 1)) (z : Int32) (hz : Int32.ofNat vs.length = z) (pc' : Nat) (hp : pc + 1 = pc')
    (K : OE p e R below s n0 Q T (mkF m pc' Ls (.int z :: st))) : OE p e R below s n0 Q T (mkF m pc Ls (.ref a :: st)) := by
  obtain ⟨hx, hZ, hown, hby, hmx, hret, hnm, hlk, hn0, hT, locs, S, N0⟩ := X; subst hp
  obtain ⟨h1, c', h2, A⟩ := H.get hi
  refine OE.by (fun t q => S.arraylength hx (by rw [hT]; exact h2) (State.isArrayOf_alike hZ.alike A.1) (g := mkF m pc Ls (.ref a :: st)) rfl rfl (hb hby hd) t ?_) K
  have e1 : c'.slots.size.toInt32 = z := by rw [A.size]; exact hz
  rw [e1]; exact q
theorem o_iaload (X : OW p l e R s m args below meth c Z y bytes mx ret n0 T h k n) (H : OL n0 h L) (i : Nat) (hi : L[i]? = some (a, OA Z .int vs)) (hd : decode bytes pc = .ok (.iaload, 1)) {j : Int32} (jn : Nat) (hj : j.toInt = jn) (v : Int32) (hv : vs[jn]? = some v) (pc' : Nat) (hp : pc + 1 = pc')
    (K : OE p e R below s n0 Q T (mkF m pc' Ls (.int v :: st))) : OE p e R below s n0 Q T (mkF m pc Ls (.int j :: .ref a :: st)) := by
  obtain ⟨hx, hZ, hown, hby, hmx, hret, hnm, hlk, hn0, hT, locs, S, N0⟩ := X; subst hp
  obtain ⟨h1, c', h2, A⟩ := H.get hi
  have hlt := (List.getElem?_eq_some_iff.mp hv).1
  obtain ⟨q1, q2⟩ := o_idx hj (N := c'.slots.size) (by rw [A.size]; exact hlt)
  exact OE.by (fun t q => S.iaload hx (by rw [hT]; exact h2) (State.isArrayOf_alike hZ.alike A.1) A.2.1 q1 (v := .int v) (by rw [q2, A.2.2.1]; simp [hv]) (g := mkF m pc Ls (.int j :: .ref a :: st)) rfl rfl (hb hby hd) t q) K
theorem o_baloadB (X : OW p l e R s m args below meth c Z y bytes mx ret n0 T h k n) (H : OL n0 h L) (i : Nat) (hi : L[i]? = some (a, OA Z .byte vs)) (hd : decode bytes pc = .ok (.baload, 1)) {j : Int32} (jn : Nat) (hj : j.toInt = jn) (v : Int32) (hv : vs[jn]? = some v) (pc' : Nat) (hp : pc + 1 = pc')
    (K : OE p e R below s n0 Q T (mkF m pc' Ls (.int v :: st))) : OE p e R below s n0 Q T (mkF m pc Ls (.int j :: .ref a :: st)) := by
  obtain ⟨hx, hZ, hown, hby, hmx, hret, hnm, hlk, hn0, hT, locs, S, N0⟩ := X; subst hp
  obtain ⟨h1, c', h2, A⟩ := H.get hi
  have hlt := (List.getElem?_eq_some_iff.mp hv).1
  obtain ⟨q1, q2⟩ := o_idx hj (N := c'.slots.size) (by rw [A.size]; exact hlt)
  exact OE.by (fun t q => S.baloadBytes hx (by rw [hT]; exact h2) (State.isArrayOf_alike hZ.alike A.1) A.2.1 q1 (v := .int v) (by rw [q2, A.2.2.1]; simp [hv]) (g := mkF m pc Ls (.int j :: .ref a :: st)) rfl rfl (hb hby hd) t q) K
theorem o_baloadZ (X : OW p l e R s m args below meth c Z y bytes mx ret n0 T h k n) (H : OL n0 h L) (i : Nat) (hi : L[i]? = some (a, OA Z .boolean vs)) (hd : decode bytes pc = .ok (.baload, 1)) {j : Int32} (jn : Nat) (hj : j.toInt = jn) (v : Int32) (hv : vs[jn]? = some v) (pc' : Nat) (hp : pc + 1 = pc')
    (K : OE p e R below s n0 Q T (mkF m pc' Ls (.int v :: st))) : OE p e R below s n0 Q T (mkF m pc Ls (.int j :: .ref a :: st)) := by
  obtain ⟨hx, hZ, hown, hby, hmx, hret, hnm, hlk, hn0, hT, locs, S, N0⟩ := X; subst hp
  obtain ⟨h1, c', h2, A⟩ := H.get hi
  have hlt := (List.getElem?_eq_some_iff.mp hv).1
  obtain ⟨q1, q2⟩ := o_idx hj (N := c'.slots.size) (by rw [A.size]; exact hlt)
  exact OE.by (fun t q => S.baloadBooleans hx (by rw [hT]; exact h2) (State.isArrayOf_alike hZ.alike A.1) A.2.1 q1 (v := .int v) (by rw [q2, A.2.2.1]; simp [hv]) (g := mkF m pc Ls (.int j :: .ref a :: st)) rfl rfl (hb hby hd) t q) K
theorem o_iastore (X : OW p l e R s m args below meth c Z y bytes mx ret n0 T h k n) (H : OL n0 h L) (i : Nat) (hi : L[i]? = some (a, OA Z .int vs)) (hd : decode bytes pc = .ok (.iastore, 1)) {j x : Int32} (jn : Nat) (hj : j.toInt = jn) (hlt : jn < vs.length) (pc' : Nat) (hp : pc + 1 = pc')
    (K : ∀ T' h', OW p l e R s m args below meth c Z y bytes mx ret n0 T' h' k n → OL n0 h' (L.set i (a, OA Z .int (vs.set jn x))) → OE p e R below s n0 Q T' (mkF m pc' Ls st)) : OE p e R below s n0 Q T (mkF m pc Ls (.int x :: .int j :: .ref a :: st)) := by
  obtain ⟨hx, hZ, hown, hby, hmx, hret, hnm, hlk, hn0, hT, locs, S, N0⟩ := X; subst hp
  obtain ⟨h1, c', h2, A⟩ := H.get hi
  obtain ⟨q1, q2⟩ := o_idx hj (N := c'.slots.size) (by rw [A.size]; exact hlt)
  obtain ⟨T', h', S', hT', W, stp⟩ := stI S hx hZ hT ⟨h2, A.1, A.2.1⟩ q1 (x := x) (g := mkF m pc Ls (.int x :: .int j :: .ref a :: st)) rfl rfl (hb hby hd)
  rw [q2] at W S'
  exact OE.by stp (K T' h' ⟨hx, hZ, hown, hby, hmx, hret, hnm, hlk, hn0, hT', _, S', N0.app fun z hz => by cases List.mem_singleton.mp hz; exact h1⟩ (H.wr hi W fun c _ B => B.set rfl))
theorem o_bastoreB (X : OW p l e R s m args below meth c Z y bytes mx ret n0 T h k n) (H : OL n0 h L) (i : Nat) (hi : L[i]? = some (a, OA Z .byte vs)) (hd : decode bytes pc = .ok (.bastore, 1)) {j x : Int32} (jn : Nat) (hj : j.toInt = jn) (hlt : jn < vs.length) (v : Int32) (hv : x.toInt8.toInt32 = v) (pc' : Nat) (hp : pc + 1 = pc')
    (K : ∀ T' h', OW p l e R s m args below meth c Z y bytes mx ret n0 T' h' k n → OL n0 h' (L.set i (a, OA Z .byte (vs.set jn v))) → OE p e R below s n0 Q T' (mkF m pc' Ls st)) : OE p e R below s n0 Q T (mkF m pc Ls (.int x :: .int j :: .ref a :: st)) := by
  obtain ⟨hx, hZ, hown, hby, hmx, hret, hnm, hlk, hn0, hT, locs, S, N0⟩ := X; subst hp hv
  obtain ⟨h1, c', h2, A⟩ := H.get hi
  obtain ⟨q1, q2⟩ := o_idx hj (N := c'.slots.size) (by rw [A.size]; exact hlt)
  obtain ⟨T', h', S', hT', W, stp⟩ := stB S hx hZ hT ⟨h2, A.1, A.2.1⟩ q1 (x := x) (g := mkF m pc Ls (.int x :: .int j :: .ref a :: st)) rfl rfl (hb hby hd)
  rw [q2] at W S'
  exact OE.by stp (K T' h' ⟨hx, hZ, hown, hby, hmx, hret, hnm, hlk, hn0, hT', _, S', N0.app fun z hz => by cases List.mem_singleton.mp hz; exact h1⟩ (H.wr hi W fun c _ B => B.set (fits_nar_byte x)))
theorem o_bastoreZ (X : OW p l e R s m args below meth c Z y bytes mx ret n0 T h k n) (H : OL n0 h L) (i : Nat) (hi : L[i]? = some (a, OA Z .boolean vs)) (hd : decode bytes pc = .ok (.bastore, 1)) {j x : Int32} (jn : Nat) (hj : j.toInt = jn) (hlt : jn < vs.length) (v : Int32) (hv : nar .boolean x = v) (pc' : Nat) (hp : pc + 1 = pc')
    (K : ∀ T' h', OW p l e R s m args below meth c Z y bytes mx ret n0 T' h' k n → OL n0 h' (L.set i (a, OA Z .boolean (vs.set jn v))) → OE p e R below s n0 Q T' (mkF m pc' Ls st)) : OE p e R below s n0 Q T (mkF m pc Ls (.int x :: .int j :: .ref a :: st)) := by
  obtain ⟨hx, hZ, hown, hby, hmx, hret, hnm, hlk, hn0, hT, locs, S, N0⟩ := X; subst hp hv
  obtain ⟨h1, c', h2, A⟩ := H.get hi
  obtain ⟨q1, q2⟩ := o_idx hj (N := c'.slots.size) (by rw [A.size]; exact hlt)
  obtain ⟨T', h', S', hT', W, stp⟩ := stZ S hx hZ hT ⟨h2, A.1, A.2.1⟩ q1 (x := x) (g := mkF m pc Ls (.int x :: .int j :: .ref a :: st)) rfl rfl (hb hby hd)
  rw [q2] at W S'
  exact OE.by stp (K T' h' ⟨hx, hZ, hown, hby, hmx, hret, hnm, hlk, hn0, hT', _, S', N0.app fun z hz => by cases List.mem_singleton.mp hz; exact h1⟩ (H.wr hi W fun c _ B => B.set (fits_nar_bool x)))
theorem o_b8 (x : Int32) : x.toInt8.toInt32.toInt8.toInt32 = x.toInt8.toInt32 := by simp
/-! contracts and calls -/
def OC (l : Launch) (Z : State) (y : MethodName) (bytes : ByteArray) (mx : Nat) (ret : Option FieldType) (ws : List Jvm.Cond) (rm : Room) (n0 : Nat) (as' : Array Value) (h0 : Heap) (Q : Option Value → Heap → Prop) : Prop :=
  MetFree l y (head1 (Jvm.Cond.code y bytes mx ret :: ws) rm) (fun a U => a = as' ∧ Z.Warmed39 U.vm ∧ U.heap = h0) (fun _ _ _ _ _ => True) (fun _ U o U' => ∃ v L, o = .returned v ∧ (Q v U'.heap ∧ Fr n0 L) ∧ FrameEnd U o U' L rm.cells rm.slots)
theorem OC.of {ws : List Jvm.Cond} {rm : Room} {as' : Array Value} {h0 : Heap} (hp : plainName y.cls = true) (hn : n0 ≤ h0.size) (Ls : Array Slot) (hef : ∀ m : MethodId, entryFrame m as' mx = mkF m 0 Ls [])
    (B : ∀ p e s m below meth c T, OW p l e rm s m as' below meth c Z y bytes mx ret n0 T h0 0 0 → ∀ Q' : Option Value → Heap → Prop, (∀ r h, Q r h → Q' r h) → OE p e rm below s n0 Q' T (mkF m 0 Ls [])) : OC l Z y bytes mx ret ws rm n0 as' h0 Q := by
  refine MetFree.of_bodySF (plainFor_of_name hp) hisR ?_
  intro p e s m args below meth c s₁ Bd hml0 hP hK
  obtain ⟨rfl, hZ, hh⟩ := hP
  have hnm := (name_of_methodNamed Bd.named Bd.method).1
  have X0 : Stand p l e rm s m args below meth c s₁ [] 0 0 := Stand.of_body Bd
  have e0 : s₁.heap = h0 := by rw [← hh, Bd.state]; rfl
  rw [hef m]
  exact B p e s m below meth c s₁ ⟨Bd.exec, hZ, findClass_of_methodNamed Bd.named, Bd.bytes, hml0, Bd.returns, hnm, Bd.notSynchronized, by rw [hh]; exact hn, e0, [], X0, Fr.nil n0⟩ Q (fun _ _ q => q)
theorem o_callS (X : OW p l e R s m args below meth c Z y bytes mx ret n0 T h k n) {i : Nat} (hd : decode bytes pc = .ok (.invokestatic i, 3)) {y' : MethodName} {bytes' : ByteArray} {mx' : Nat} {ret' : Option FieldType} {rm : Room} {as' : Array Value} {Q' : Option Value → Heap → Prop} (C : OC l Z y' bytes' mx' ret' [] rm n0 as' h Q')
    (w1 : (Cond.methodLink y.cls i y').before a0 Z = true) (w2 : (Cond.static y').before a0 Z = true) (w3 : (Cond.initialized y'.cls).before a0 Z = true) (w4 : (Cond.code y' bytes' mx' ret').before a0 Z = true) (hy : y'.cls ≠ "java/lang/invoke/MethodHandle" ∧ y'.cls ≠ "java/lang/invoke/VarHandle")
    (Wd : Nat) (hf : rm.frames + 1 ≤ R.frames) (hlo : Wd + (mx' + 11) + rm.locals ≤ R.locals) (hls : Ls.size = mx) (argsL : List Value) (has : as' = argsL.toArray) {ps : List FieldType} {r' : Option FieldType} (hpd : parseMethodDescriptor y'.desc = some ⟨ps, r'⟩) (hlen : argsL.length = ps.length) (hst : st = argsL.reverse ++ rest) (hW : (rest.map fun v => v.category).sum ≤ Wd) (k2 n2 : Nat) (hk2 : k + rm.cells = k2) (hn2 : n + rm.slots = n2) (hk : k2 ≤ R.cells) (hn : n2 ≤ R.slots) (pc' : Nat) (hp : pc + 3 = pc')
    (K : ∀ v T' h', OW p l e R s m args below meth c Z y bytes mx ret n0 T' h' k2 n2 → Q' v h' → OE p e R below s n0 Q T' (mkF m pc' Ls (v.toList ++ rest))) : OE p e R below s n0 Q T (mkF m pc Ls st) := by
  obtain ⟨hx, hZ, hown, hby, hmx, hret, hnm, hlk, hn0, hT, locs, S, N0⟩ := X; subst hp has hk2 hn2
  obtain ⟨v, _, ⟨T2, L2, k2, n2⟩, -, X2, ⟨Lc, hQ, l2, y2, z2⟩, stp⟩ := Jvm.LawKit.callS S hx (y := y') hown (mvT hZ w1) (mvT hZ w2) (mvT hZ w3) (mvT hZ w4) hy (backOf (W := Wd) (Q := fun v hh LL => Q' v hh ∧ Fr n0 LL) C hZ w4 w3 hf hlo) (g := mkF m pc Ls st) rfl (by rw [hmx]; exact hls) (argsL := argsL) (rest := rest) (lenOf hpd hlen) hst (by show 2 * 0 + _ ≤ _; omega) (hb hby hd) (fun _ _ => ⟨rfl, hT, hk, hn⟩)
  dsimp only [Pt.U, Pt.locs, Pt.cells, Pt.slots] at X2 l2 y2 z2 stp hQ
  subst l2 y2 z2
  exact OE.by stp (K v T2 T2.heap ⟨hx, hZ, hown, hby, hmx, hret, hnm, hlk, hn0, rfl, _, X2, N0.app hQ.2⟩ hQ.1)
/-! objects -/
def OFc (Z : State) (cell : Cell) (O nm d : String) (v : Value) : Prop := ∃ (cf : ClassId) (k : Class) (i : Nat) (f : Field), Z.fieldFound? O nm d = some (cf, k, i, f) ∧ f.isStatic = false ∧ cell.vm ≠ .unknown ∧ cell.vm.isStatics = false ∧ Z.vm.assignable cell.cls cf = true ∧ cell.slots[f.slot]? = some v
def OO (Z : State) (C : String) (fs : List (String × String × String × Value)) (cell : Cell) : Prop := (∃ k : Class, Z.vm.findClass C = some cell.cls ∧ Z.vm.classes[cell.cls]? = some k ∧ cell.vm.isStatics = false ∧ (k.kind = .ordinary → cell.slots.size = k.instanceTypes.size)) ∧ ∀ f ∈ fs, OFc Z cell f.1 f.2.1 f.2.2.1 f.2.2.2
variable {fs : List (String × String × String × Value)} {C O nm d : String} {v : Value}
theorem oq0 {α : Type} {P : α → Prop} : ∀ q ∈ ([] : List α), P q := fun _ q => nomatch q
theorem oqS {α : Type} {P : α → Prop} {z : α} {M : List α} (q : P z) (r : ∀ x ∈ M, P x) : ∀ x ∈ z :: M, P x := List.forall_mem_cons.mpr ⟨q, r⟩
theorem o_new (X : OW p l e R s m args below meth c Z y bytes mx ret n0 T h k n) (H : OL n0 h L) {i nn : Nat} (hd : decode bytes pc = .ok (.new i, 3)) (w : (Cond.classLink y.cls i C).before a0 Z = true) (wi : (Cond.instantiable C nn).before a0 Z = true) (wz : (Cond.initialized C).before a0 Z = true) (fs : List (String × String × String × Value)) (hfs : ∀ f ∈ fs, ∃ ty, Laid Z a0 C f.1 f.2.1 f.2.2.1 ∧ parseFieldDescriptor f.2.2.1 = some ty ∧ f.2.2.2 = defaultValue ty) (k2 n2 : Nat) (hk2 : k + 1 = k2) (hn2 : n + nn = n2) (hc : k2 ≤ R.cells) (hl : n2 ≤ R.slots) (pc' : Nat) (hp : pc + 3 = pc')
    (K : ∀ T' h' a, OW p l e R s m args below meth c Z y bytes mx ret n0 T' h' k2 n2 → OL n0 h' ((a, OO Z C fs) :: L) → OE p e R below s n0 Q T' (mkF m pc' Ls (.ref a :: st))) : OE p e R below s n0 Q T (mkF m pc Ls st) := by
  have h0 := X.size
  obtain ⟨hx, hZ, hown, hby, hmx, hret, hnm, hlk, hn0, hT, locs, S, N0⟩ := X; subst hp hk2 hn2
  obtain ⟨T', h', S', hT', E, A, D, -, stp⟩ := newO S hx hZ hown w wi wz hT (g := mkF m pc Ls st) rfl (hb hby hd) hc hl
  obtain ⟨cell, kk, g1, g2, g3, g4, g5⟩ := A
  refine OE.by stp (K T' h' h.size ⟨hx, hZ, hown, hby, hmx, hret, hnm, hlk, hn0, hT', locs, S', N0⟩ (H.push E h0 g1 ⟨⟨kk, g2, g3, g4, g5⟩, fun f hf => ?_⟩))
  obtain ⟨ty, q1, q2, q3⟩ := hfs f hf
  obtain ⟨cell', cf, kf, ii, ff, r1, r2, r3, r4, r5, r6, r7⟩ := D q1 q2
  cases g1.symm.trans r1
  exact ⟨cf, kf, ii, ff, r2, r3, r4, r5, r6, by rw [q3]; exact r7⟩
theorem OO.fld {cell : Cell} (A : OO Z C fs cell) (hc : h[a]? = some cell) {j : Nat} (hj : fs[j]? = some (O, nm, d, v)) : Fld Z h a O nm d v := by
  obtain ⟨cf, kf, ii, ff, r2, r3, r4, r5, r6, r7⟩ := A.2 _ (List.mem_of_getElem? hj)
  exact ⟨cell, cf, kf, ii, ff, hc, r2, r3, r4, r5, r6, r7⟩
theorem OO.exa {cell : Cell} (A : OO Z C fs cell) (hc : h[a]? = some cell) : Exa Z h a C := by
  obtain ⟨⟨kk, g2, g3, g4, g5⟩, -⟩ := A; exact ⟨cell, kk, hc, g2, g3, g4, g5⟩
theorem o_getF (X : OW p l e R s m args below meth c Z y bytes mx ret n0 T h k n) (H : OL n0 h L) (i : Nat) (hi : L[i]? = some (a, OO Z C fs)) {ix : Nat} (hd : decode bytes pc = .ok (.getfield ix, 3)) (j : Nat) (hj : fs[j]? = some (O, nm, d, v)) (w : (Cond.fieldLink y.cls ix O nm d).before a0 Z = true) (pc' : Nat) (hp : pc + 3 = pc')
    (K : ∀ T', OW p l e R s m args below meth c Z y bytes mx ret n0 T' h k n → OE p e R below s n0 Q T' (mkF m pc' Ls (v :: st))) : OE p e R below s n0 Q T (mkF m pc Ls (.ref a :: st)) := by
  obtain ⟨hx, hZ, hown, hby, hmx, hret, hnm, hlk, hn0, hT, locs, S, N0⟩ := X; subst hp
  obtain ⟨h1, cell, h2, A⟩ := H.get hi
  obtain ⟨T', S', hT', stp⟩ := getF S hx hZ hown (host := "") (Or.inl w) Via.refl hT (A.fld h2 hj) (g := mkF m pc Ls (.ref a :: st)) rfl rfl (hb hby hd)
  exact OE.by stp (K T' ⟨hx, hZ, hown, hby, hmx, hret, hnm, hlk, hn0, hT', locs, S', N0⟩)
theorem o_putF (X : OW p l e R s m args below meth c Z y bytes mx ret n0 T h k n) (H : OL n0 h L) (i : Nat) (hi : L[i]? = some (a, OO Z C fs)) {ix kk : Nat} (hd : decode bytes pc = .ok (.putfield ix, 3)) (j : Nat) {old : Value} (hj : fs[j]? = some (O, nm, d, old)) (w : (Cond.fieldLink y.cls ix O nm d).before a0 Z = true)
    (Lw : (Cond.lays C O nm d).before a0 Z = true ∨ ((Cond.laysFinal C O nm d).before a0 Z = true ∧ y.cls = O ∧ y.name = "<init>")) (wi : (Cond.instantiable C kk).before a0 Z = true) {ty : FieldType} (hty : parseFieldDescriptor d = some ty) (hnr : narrow ty v = v) (hft : fits ty v = true) (hsl : ∀ q ∈ fs.eraseIdx j, RoadKit.slotOf Z q.1 q.2.1 q.2.2.1 ≠ RoadKit.slotOf Z O nm d) (pc' : Nat) (hp : pc + 3 = pc')
    (K : ∀ T' h', OW p l e R s m args below meth c Z y bytes mx ret n0 T' h' k n → OL n0 h' (L.set i (a, OO Z C (fs.set j (O, nm, d, v)))) → OE p e R below s n0 Q T' (mkF m pc' Ls st)) : OE p e R below s n0 Q T (mkF m pc Ls (v :: .ref a :: st)) := by
  obtain ⟨hx, hZ, hown, hby, hmx, hret, hnm, hlk, hn0, hT, locs, S, N0⟩ := X; subst hp
  obtain ⟨h1, cell, h2, A⟩ := H.get hi
  obtain ⟨T', h', S', hT', W, stp⟩ := putF S hx hZ hown (host := "") (Or.inl w) Via.refl hT (A.fld h2 hj) (A.exa h2) (Lw.imp id fun q => ⟨q.1, q.2.1, hnm.trans q.2.2⟩) wi hty hnr hft (g := mkF m pc Ls (v :: .ref a :: st)) rfl rfl (hb hby hd)
  refine OE.by stp (K T' h' ⟨hx, hZ, hown, hby, hmx, hret, hnm, hlk, hn0, hT', _, S', N0.app fun z hz => by cases List.mem_singleton.mp hz; exact h1⟩ (H.wr hi W fun c' hc' B => ?_))
  obtain ⟨⟨kq, g2, g3, g4, g5⟩, F⟩ := B
  refine ⟨⟨kq, g2, g3, g4, fun q => by rw [sz_set]; exact g5 q⟩, fun q hq => ?_⟩
  obtain ⟨j', hj'⟩ := List.getElem?_of_mem hq
  rw [List.getElem?_set] at hj'
  split at hj'
  · split at hj'
    · cases hj'
      obtain ⟨cf, kf, ii, ff, r2, r3, r4, r5, r6, r7⟩ := F _ (List.mem_of_getElem? hj)
      have hlt := (Array.getElem?_eq_some_iff.mp r7).1
      refine ⟨cf, kf, ii, ff, r2, r3, r4, r5, r6, ?_⟩
      have es : RoadKit.slotOf Z O nm d = ff.slot := by simp only [RoadKit.slotOf]; simp only at r2; rw [r2]; rfl
      show (c'.slots.setIfInBounds (RoadKit.slotOf Z O nm d) v)[ff.slot]? = some v
      rw [es, Array.getElem?_setIfInBounds_self_of_lt hlt]
    · cases hj'
  · rename_i hne
    obtain ⟨cf, kf, ii, ff, r2, r3, r4, r5, r6, r7⟩ := F _ (List.mem_of_getElem? hj')
    refine ⟨cf, kf, ii, ff, r2, r3, r4, r5, r6, ?_⟩
    have ne := hsl q (List.mem_eraseIdx_iff_getElem?.mpr ⟨j', fun z => hne z.symm, hj'⟩)
    have es : RoadKit.slotOf Z q.1 q.2.1 q.2.2.1 = ff.slot := by simp only [RoadKit.slotOf]; rw [r2]; rfl
    show (c'.slots.setIfInBounds (RoadKit.slotOf Z O nm d) v)[ff.slot]? = some q.2.2.2
    rw [← es, Array.getElem?_setIfInBounds_ne (fun z => ne z.symm), es]; exact r7
theorem o_initO (X : OW p l e R s m args below meth c Z y bytes mx ret n0 T h k n) {i : Nat} (hd : decode bytes pc = .ok (.invokespecial i, 3)) (w1 : (Cond.methodLink y.cls i Lib.objectInit).before a0 Z = true) (w2 : (Cond.instanceMethod Lib.objectInit).before a0 Z = true) (w3 : (Cond.code Lib.objectInit ⟨#[0xb1]⟩ 1 none).before a0 Z = true) (hls : Ls.size = mx) (hf : 1 ≤ R.frames) (Wd : Nat) (hW : (st.map fun v => v.category).sum ≤ Wd) (hlo : Wd + 12 ≤ R.locals) (pc' : Nat) (hp : pc + 3 = pc')
    (K : ∀ T', OW p l e R s m args below meth c Z y bytes mx ret n0 T' h k n → OE p e R below s n0 Q T' (mkF m pc' Ls st)) : OE p e R below s n0 Q T (mkF m pc Ls (.ref a :: st)) := by
  obtain ⟨hx, hZ, hown, hby, hmx, hret, hnm, hlk, hn0, hT, locs, S, N0⟩ := X; subst hp
  obtain ⟨T', S', hT', stp⟩ := initO S hx hZ hown w1 w2 w3 hT (g := mkF m pc Ls (.ref a :: st)) rfl (by rw [hmx]; exact hls) rfl (hb hby hd) hf (W := Wd) (by show 2 * 0 + _ ≤ _; omega) hlo
  exact OE.by stp (K T' ⟨hx, hZ, hown, hby, hmx, hret, hnm, hlk, hn0, hT', locs, S', N0⟩)
theorem o_callI (X : OW p l e R s m args below meth c Z y bytes mx ret n0 T h k n) {i : Nat} (hd : decode bytes pc = .ok (.invokespecial i, 3)) {y' : MethodName} {bytes' : ByteArray} {mx' : Nat} {rm : Room} {as' : Array Value} {Q' : Option Value → Heap → Prop} (C : OC l Z y' bytes' mx' none [] rm n0 as' h Q') (hini : y'.name = "<init>")
    (w1 : (Cond.methodLink y.cls i y').before a0 Z = true) (w2 : (Cond.instanceMethod y').before a0 Z = true) (w3 : (Cond.initialized y'.cls).before a0 Z = true) (w4 : (Cond.code y' bytes' mx' none).before a0 Z = true) (hy : y'.cls ≠ "java/lang/invoke/MethodHandle" ∧ y'.cls ≠ "java/lang/invoke/VarHandle")
    (Wd : Nat) (hf : rm.frames + 1 ≤ R.frames) (hlo : Wd + (mx' + 11) + rm.locals ≤ R.locals) (hls : Ls.size = mx) (argsL : List Value) (has : as' = (.ref a :: argsL).toArray) {ps : List FieldType} {r' : Option FieldType} (hpd : parseMethodDescriptor y'.desc = some ⟨ps, r'⟩) (hlen : argsL.length = ps.length) (hst : st = argsL.reverse ++ .ref a :: rest) (hW : (rest.map fun v => v.category).sum ≤ Wd) (k2 n2 : Nat) (hk2 : k + rm.cells = k2) (hn2 : n + rm.slots = n2) (hk : k2 ≤ R.cells) (hn : n2 ≤ R.slots) (pc' : Nat) (hp : pc + 3 = pc')
    (K : ∀ v T' h', OW p l e R s m args below meth c Z y bytes mx ret n0 T' h' k2 n2 → Q' v h' → OE p e R below s n0 Q T' (mkF m pc' Ls (v.toList ++ rest))) : OE p e R below s n0 Q T (mkF m pc Ls st) := by
  obtain ⟨hx, hZ, hown, hby, hmx, hret, hnm, hlk, hn0, hT, locs, S, N0⟩ := X; subst hp has hk2 hn2
  obtain ⟨v, _, ⟨T2, L2, k2, n2⟩, -, X2, ⟨Lc, hQ, l2, y2, z2⟩, stp⟩ := S.specialBack hx (y := y') hini hown (mvT hZ w1) (mvT hZ w2) (mvT hZ w4) hy (backOf (W := Wd) (Q := fun v hh LL => Q' v hh ∧ Fr n0 LL) C hZ w4 w3 hf hlo) (g := mkF m pc Ls st) rfl (by rw [hmx]; exact hls) (Steps.refl _) (a := a) (argsL := argsL) (rest := rest) (lenOf hpd hlen) hst (by show 2 * 0 + _ ≤ _; omega) (hb hby hd) (fun _ _ => ⟨rfl, hT, hk, hn⟩)
  dsimp only [Pt.U, Pt.locs, Pt.cells, Pt.slots] at X2 l2 y2 z2 stp hQ
  subst l2 y2 z2
  exact OE.by (fun t q => stp.trans q) (K v T2 T2.heap ⟨hx, hZ, hown, hby, hmx, hret, hnm, hlk, hn0, rfl, _, X2, N0.app hQ.2⟩ hQ.1)
theorem o_callV (X : OW p l e R s m args below meth c Z y bytes mx ret n0 T h k n) (H : OL n0 h L) (io : Nat) {Cc : String} (hi : L[io]? = some (a, OO Z Cc fs)) {i : Nat} (hd : decode bytes pc = .ok (.invokevirtual i, 3)) {y' : MethodName} {bytes' : ByteArray} {mx' : Nat} {ret' : Option FieldType} {rm : Room} {as' : Array Value} {Q' : Option Value → Heap → Prop} (C : OC l Z y' bytes' mx' ret' [] rm n0 as' h Q')
    (w1 : (Cond.methodLink y.cls i y').before a0 Z = true) (w2 : (Cond.declares y').before a0 Z = true) (w5 : (Cond.selects Cc y' y').before a0 Z = true) (w6 : (Cond.instanceMethod y').before a0 Z = true) (w3 : (Cond.initialized y'.cls).before a0 Z = true) (w4 : (Cond.code y' bytes' mx' ret').before a0 Z = true) (hy : y'.cls ≠ "java/lang/invoke/MethodHandle" ∧ y'.cls ≠ "java/lang/invoke/VarHandle")
    (Wd : Nat) (hf : rm.frames + 1 ≤ R.frames) (hlo : Wd + (mx' + 11) + rm.locals ≤ R.locals) (hls : Ls.size = mx) (argsL : List Value) (has : as' = (.ref a :: argsL).toArray) {ps : List FieldType} {r' : Option FieldType} (hpd : parseMethodDescriptor y'.desc = some ⟨ps, r'⟩) (hlen : argsL.length = ps.length) (hst : st = argsL.reverse ++ .ref a :: rest) (hW : (rest.map fun v => v.category).sum ≤ Wd) (k2 n2 : Nat) (hk2 : k + rm.cells = k2) (hn2 : n + rm.slots = n2) (hk : k2 ≤ R.cells) (hn : n2 ≤ R.slots) (pc' : Nat) (hp : pc + 3 = pc')
    (K : ∀ v T' h', OW p l e R s m args below meth c Z y bytes mx ret n0 T' h' k2 n2 → Q' v h' → OE p e R below s n0 Q T' (mkF m pc' Ls (v.toList ++ rest))) : OE p e R below s n0 Q T (mkF m pc Ls st) := by
  obtain ⟨hx, hZ, hown, hby, hmx, hret, hnm, hlk, hn0, hT, locs, S, N0⟩ := X; subst hp has hk2 hn2
  obtain ⟨h1, cell, h2, A⟩ := H.get hi
  obtain ⟨cq, kq, q1, q2, q3⟩ := isOf hZ hT (A.exa h2)
  obtain ⟨v, _, ⟨T2, L2, k2, n2⟩, -, X2, ⟨Lc, hQ, l2, y2, z2⟩, stp⟩ := S.virtualBack hx (y := y') (z := y') hown (mvT hZ w1) (mvT hZ w2) (notFace_of_selects (args := #[]) (mvT hZ w5)) (mvT hZ w5) (mvT hZ w6) hy (backOf (W := Wd) (Q := fun v hh LL => Q' v hh ∧ Fr n0 LL) C hZ w4 w3 hf hlo) q1 q3 (g := mkF m pc Ls st) rfl (by rw [hmx]; exact hls) (Steps.refl _) (argsL := argsL) (rest := rest) (lenOf hpd hlen) hst (by show 2 * 0 + _ ≤ _; omega) (hb hby hd) (fun _ _ => ⟨rfl, hT, hk, hn⟩)
  dsimp only [Pt.U, Pt.locs, Pt.cells, Pt.slots] at X2 l2 y2 z2 stp hQ
  subst l2 y2 z2
  exact OE.by (fun t q => stp.trans q) (K v T2 T2.heap ⟨hx, hZ, hown, hby, hmx, hret, hnm, hlk, hn0, rfl, _, X2, N0.app hQ.2⟩ hQ.1)
end OwnKit
theorem d1_0 : decode prog_114_method_1_code 0 = .ok (.aload_n 0, 1) := by decide +kernel
theorem d1_1 : decode prog_114_method_1_code 1 = .ok (.invokespecial 1, 3) := by decide +kernel
theorem d1_4 : decode prog_114_method_1_code 4 = .ok (.aload_n 0, 1) := by decide +kernel
theorem d1_5 : decode prog_114_method_1_code 5 = .ok (.lload_n 1, 1) := by decide +kernel
theorem d1_6 : decode prog_114_method_1_code 6 = .ok (.putfield 7, 3) := by decide +kernel
theorem d1_9 : decode prog_114_method_1_code 9 = .ok (.aload_n 0, 1) := by decide +kernel
theorem d1_10 : decode prog_114_method_1_code 10 = .ok (.lload_n 3, 1) := by decide +kernel
theorem d1_11 : decode prog_114_method_1_code 11 = .ok (.putfield 13, 3) := by decide +kernel
theorem d1_14 : decode prog_114_method_1_code 14 = .ok (.return_, 1) := by decide +kernel
theorem d2_0 : decode jdk_30_method_1_code 0 = .ok (.aload_n 0, 1) := by decide +kernel
theorem d2_1 : decode jdk_30_method_1_code 1 = .ok (.invokespecial 1, 3) := by decide +kernel
theorem d2_4 : decode jdk_30_method_1_code 4 = .ok (.return_, 1) := by decide +kernel
theorem d3_0 : decode object_method_1_code 0 = .ok (.return_, 1) := by decide +kernel
theorem d4_0 : decode prog_114_method_2_code 0 = .ok (.aload_n 0, 1) := by decide +kernel
theorem d4_1 : decode prog_114_method_2_code 1 = .ok (.getfield 13, 3) := by decide +kernel
theorem d4_4 : decode prog_114_method_2_code 4 = .ok (.aload_n 0, 1) := by decide +kernel
theorem d4_5 : decode prog_114_method_2_code 5 = .ok (.getfield 7, 3) := by decide +kernel
theorem d4_8 : decode prog_114_method_2_code 8 = .ok (.lsub, 1) := by decide +kernel
theorem d4_9 : decode prog_114_method_2_code 9 = .ok (.lconst 1, 1) := by decide +kernel
theorem d4_10 : decode prog_114_method_2_code 10 = .ok (.ladd, 1) := by decide +kernel
theorem d4_11 : decode prog_114_method_2_code 11 = .ok (.lreturn, 1) := by decide +kernel
theorem pn_0 : plainName "com/example/bookstall/bookstall/http/ByteRange" = true := by first | (simp [plainName, overriddenIn]; done) | decide +kernel
theorem pn_1 : plainName "java/lang/Record" = true := by first | (simp [plainName, overriddenIn]; done) | decide +kernel
theorem pn_3 : plainName "com/example/bookstall/bookstall/http/ByteRangeLengthPinLaw" = true := by first | (simp [plainName, overriddenIn]; done) | decide +kernel
theorem pd_1 : parseMethodDescriptor "(JJ)V" = some ⟨[.long, .long], none⟩ := by decide +kernel
theorem pd_2 : parseMethodDescriptor "()V" = some ⟨[], none⟩ := by decide +kernel
theorem pd_3 : parseMethodDescriptor "()V" = some ⟨[], none⟩ := by decide +kernel
theorem pd_4 : parseMethodDescriptor "()J" = some ⟨[], (some .long)⟩ := by decide +kernel
theorem v_cmp0 (x z : Int64) : XT.cmpL x z = 0 ↔ x = z := by
  unfold XT.cmpL; split <;> (try split) <;> simp_all [Int64.lt_iff_toInt_lt, ← Int64.toInt_inj] <;> omega
theorem v_add (a b m : Int64) : (m - 1 - a + 1) + (b - m + 1) = b - a + 1 := by grind
theorem v_zero (a : Int64) : a - 1 - a + 1 = 0 := by grind
theorem v_one (a : Int64) : a - a + 1 = 1 := by grind
set_option maxRecDepth 65536 in
set_option maxHeartbeats 40000000 in
theorem c_rec (l : Launch) (Z : State) (a0 : Array Value) (hw : ∀ d ∈ tables_1, d.before a0 Z = true) (ws : List Jvm.Cond) (n0 : Nat) (h0 : Heap) (hn0 : n0 ≤ h0.size) (xa : Addr) :
    OC l Z (⟨"java/lang/Record", "<init>", "()V"⟩ : MethodName) jdk_30_method_1_code 1 none ws ({ frames := 1, cells := 0, slots := 0, locals := 12 } : Room) n0 #[(.ref xa)] h0 (fun r h => r = none ∧ h0 = h) := by
  refine OC.of pn_1 hn0 #[.val (.ref xa)] (fun m => by first | (simp [entryFrame, mkF, argsToLocals, Value.category, maxLocals]; done) | rfl) ?_
  intro p e s m below meth cd0 T0 X0 Q' hQ
  refine o_aloadN X0 d2_0 rfl rfl 1 rfl ?_
  refine o_initO X0 d2_1 (hw _ (List.mem_of_getElem? (i := 11) rfl)) (hw _ (List.mem_of_getElem? (i := 12) rfl)) (hw _ (List.mem_of_getElem? (i := 13) rfl)) rfl (by decide) 0 (Nat.le_of_eq rfl) (by decide) 4 rfl ?_
  intro T1 X1
  exact o_ret X1 d2_4 (by decide) (by decide) (hQ _ _ ⟨rfl, rfl⟩)
set_option maxRecDepth 65536 in
set_option maxHeartbeats 40000000 in
theorem c_init (l : Launch) (Z : State) (a0 : Array Value) (hw : ∀ d ∈ tables_1, d.before a0 Z = true) (ws : List Jvm.Cond) (n0 : Nat) (h0 : Heap) (hn0 : n0 ≤ h0.size) (xa : Addr) (x1 x2 : Int64) (u1 u2 : Value) (L' : List (Addr × (Cell → Prop))) (H0 : OL n0 h0 ((xa, OO Z "com/example/bookstall/bookstall/http/ByteRange" [("com/example/bookstall/bookstall/http/ByteRange", "first", "J", u1), ("com/example/bookstall/bookstall/http/ByteRange", "last", "J", u2)]) :: L')) :
    OC l Z (⟨"com/example/bookstall/bookstall/http/ByteRange", "<init>", "(JJ)V"⟩ : MethodName) prog_114_method_1_code 5 none ws ({ frames := 2, cells := 0, slots := 0, locals := 24 } : Room) n0 #[(.ref xa), (.long x1), (.long x2)] h0 (fun r h => r = none ∧ OL n0 h ((xa, OO Z "com/example/bookstall/bookstall/http/ByteRange" [("com/example/bookstall/bookstall/http/ByteRange", "first", "J", .long x1), ("com/example/bookstall/bookstall/http/ByteRange", "last", "J", .long x2)]) :: L')) := by
  refine OC.of pn_0 hn0 #[.val (.ref xa), .val (.long x1), .second, .val (.long x2), .second] (fun m => by first | (simp [entryFrame, mkF, argsToLocals, Value.category, maxLocals]; done) | rfl) ?_
  intro p e s m below meth cd0 T0 X0 Q' hQ
  refine o_aloadN X0 d1_0 rfl rfl 1 rfl ?_
  refine o_callI X0 d1_1 (rest := []) (c_rec l Z a0 hw [] n0 _ X0.size xa) rfl (hw _ (List.mem_of_getElem? (i := 6) rfl)) (hw _ (List.mem_of_getElem? (i := 7) rfl)) (hw _ (List.mem_of_getElem? (i := 9) rfl)) (hw _ (List.mem_of_getElem? (i := 10) rfl)) (by decide) 0 (by decide) (by decide) rfl [] rfl pd_2 rfl rfl (Nat.le_of_eq rfl) 0 0 rfl rfl (by decide) (by decide) 4 rfl ?_
  rintro _ T1 _ X1 ⟨rfl, rfl⟩
  show OE p e ({ frames := 2, cells := 0, slots := 0, locals := 24 } : Room) below s n0 Q' T1 (mkF m 4 #[.val (.ref xa), .val (.long x1), .second, .val (.long x2), .second] [])
  refine o_aloadN X1 d1_4 rfl rfl 5 rfl ?_
  refine o_lloadN X1 d1_5 rfl 6 rfl ?_
  refine o_putF X1 H0 0 rfl d1_6 0 rfl (hw _ (List.mem_of_getElem? (i := 14) rfl)) (Or.inr ⟨(hw _ (List.mem_of_getElem? (i := 15) rfl)), rfl, rfl⟩) (hw _ (List.mem_of_getElem? (i := 1) rfl)) (ty := .long) (by decide) rfl rfl (oqS (slot_ne (C := "com/example/bookstall/bookstall/http/ByteRange") (Or.inr (hw _ (List.mem_of_getElem? (i := 17) rfl))) (Or.inr (hw _ (List.mem_of_getElem? (i := 15) rfl))) (by show "last" ≠ "first"; decide) (t := .long) (by show parseFieldDescriptor "J" = some .long; decide) (t' := .long) (by show parseFieldDescriptor "J" = some .long; decide)) oq0) 9 rfl ?_
  intro T2 h2 X2 H2
  replace H2 : OL n0 h2 ((xa, OO Z "com/example/bookstall/bookstall/http/ByteRange" [("com/example/bookstall/bookstall/http/ByteRange", "first", "J", .long x1), ("com/example/bookstall/bookstall/http/ByteRange", "last", "J", u2)]) :: L') := H2
  refine o_aloadN X2 d1_9 rfl rfl 10 rfl ?_
  refine o_lloadN X2 d1_10 rfl 11 rfl ?_
  refine o_putF X2 H2 0 rfl d1_11 1 rfl (hw _ (List.mem_of_getElem? (i := 16) rfl)) (Or.inr ⟨(hw _ (List.mem_of_getElem? (i := 17) rfl)), rfl, rfl⟩) (hw _ (List.mem_of_getElem? (i := 1) rfl)) (ty := .long) (by decide) rfl rfl (oqS (slot_ne (C := "com/example/bookstall/bookstall/http/ByteRange") (Or.inr (hw _ (List.mem_of_getElem? (i := 15) rfl))) (Or.inr (hw _ (List.mem_of_getElem? (i := 17) rfl))) (by show "first" ≠ "last"; decide) (t := .long) (by show parseFieldDescriptor "J" = some .long; decide) (t' := .long) (by show parseFieldDescriptor "J" = some .long; decide)) oq0) 14 rfl ?_
  intro T3 h3 X3 H3
  replace H3 : OL n0 h3 ((xa, OO Z "com/example/bookstall/bookstall/http/ByteRange" [("com/example/bookstall/bookstall/http/ByteRange", "first", "J", .long x1), ("com/example/bookstall/bookstall/http/ByteRange", "last", "J", .long x2)]) :: L') := H3
  exact o_ret X3 d1_14 (by decide) (by decide) (hQ _ _ ⟨rfl, H3⟩)
set_option maxRecDepth 65536 in
set_option maxHeartbeats 40000000 in
theorem c_len (l : Launch) (Z : State) (a0 : Array Value) (hw : ∀ d ∈ tables_1, d.before a0 Z = true) (ws : List Jvm.Cond) (n0 : Nat) (h0 : Heap) (hn0 : n0 ≤ h0.size) (xa : Addr) (x1 x2 : Int64) (L' : List (Addr × (Cell → Prop))) (H0 : OL n0 h0 ((xa, OO Z "com/example/bookstall/bookstall/http/ByteRange" [("com/example/bookstall/bookstall/http/ByteRange", "first", "J", .long x1), ("com/example/bookstall/bookstall/http/ByteRange", "last", "J", .long x2)]) :: L')) :
    OC l Z (⟨"com/example/bookstall/bookstall/http/ByteRange", "length", "()J"⟩ : MethodName) prog_114_method_2_code 1 (some .long) ws ({ frames := 0, cells := 0, slots := 0, locals := 0 } : Room) n0 #[(.ref xa)] h0 (fun r h => r = some (.long (x2 - x1 + 1)) ∧ h0 = h) := by
  refine OC.of pn_0 hn0 #[.val (.ref xa)] (fun m => by first | (simp [entryFrame, mkF, argsToLocals, Value.category, maxLocals]; done) | rfl) ?_
  intro p e s m below meth cd0 T0 X0 Q' hQ
  refine o_aloadN X0 d4_0 rfl rfl 1 rfl ?_
  refine o_getF X0 H0 0 rfl d4_1 1 rfl (hw _ (List.mem_of_getElem? (i := 16) rfl)) 4 rfl ?_
  intro T1 X1
  refine o_aloadN X1 d4_4 rfl rfl 5 rfl ?_
  refine o_getF X1 H0 0 rfl d4_5 0 rfl (hw _ (List.mem_of_getElem? (i := 14) rfl)) 8 rfl ?_
  intro T2 X2
  refine o_lsub X2 d4_8 9 rfl ?_
  refine o_lconst (v := (1 : Int64)) X2 d4_9 rfl 10 rfl ?_
  refine o_ladd X2 d4_10 11 rfl ?_
  exact o_retJ X2 d4_11 (by decide) (by decide) (hQ _ _ ⟨rfl, rfl⟩)
set_option maxRecDepth 65536 in
set_option maxHeartbeats 40000000 in
theorem c_law (l : Launch) (Z : State) (a0 : Array Value) (hw : ∀ d ∈ tables_1, d.before a0 Z = true) (ws : List Jvm.Cond) (n0 : Nat) (h0 : Heap) (hn0 : n0 ≤ h0.size) (xa : Int64) (xb : Int64) (xc : Int64) :
    OC l Z x code maxLocals ret ws room_1 n0 #[(.long xa), (.long xb), (.long xc)] h0 (fun r h => r = some (.int 1)) := by
  refine OC.of pn_3 hn0 #[.val (.long xa), .second, .val (.long xb), .second, .val (.long xc), .second, .unset, .unset, .unset, .unset, .unset, .unset, .unset, .unset, .unset, .unset, .unset, .unset, .unset, .unset] (fun m => by first | (simp [entryFrame, mkF, argsToLocals, Value.category, maxLocals]; done) | rfl) ?_
  intro p e s m below meth cd0 T0 X0 Q' hQ
  refine o_lloadN X0 at_0 rfl 1 rfl ?_
  refine o_lstore X0 at_1 #[.val (.long xa), .second, .val (.long xb), .second, .val (.long xc), .second, .val (.long xa), .second, .unset, .unset, .unset, .unset, .unset, .unset, .unset, .unset, .unset, .unset, .unset, .unset] rfl 3 rfl ?_
  refine o_lloadN X0 at_3 rfl 4 rfl ?_
  refine o_lstore X0 at_4 #[.val (.long xa), .second, .val (.long xb), .second, .val (.long xc), .second, .val (.long xa), .second, .val (.long xb), .second, .unset, .unset, .unset, .unset, .unset, .unset, .unset, .unset, .unset, .unset] rfl 6 rfl ?_
  refine o_lload X0 at_6 rfl 8 rfl ?_
  refine o_lstore X0 at_8 #[.val (.long xa), .second, .val (.long xb), .second, .val (.long xc), .second, .val (.long xa), .second, .val (.long xb), .second, .val (.long xc), .second, .unset, .unset, .unset, .unset, .unset, .unset, .unset, .unset] rfl 10 rfl ?_
  refine o_new (L := []) X0 OL.nil at_10 (hw _ (List.mem_of_getElem? (i := 0) rfl)) (hw _ (List.mem_of_getElem? (i := 1) rfl)) (hw _ (List.mem_of_getElem? (i := 2) rfl)) [("com/example/bookstall/bookstall/http/ByteRange", "first", "J", .long (0 : Int64)), ("com/example/bookstall/bookstall/http/ByteRange", "last", "J", .long (0 : Int64))] (oqS ⟨.long, Or.inr (hw _ (List.mem_of_getElem? (i := 15) rfl)), by decide, rfl⟩ (oqS ⟨.long, Or.inr (hw _ (List.mem_of_getElem? (i := 17) rfl)), by decide, rfl⟩ oq0)) 1 2 rfl rfl (by decide) (by decide) 13 rfl ?_
  intro T1 h1 b1 X1 H1
  refine o_dup X1 at_13 rfl 14 rfl ?_
  refine o_lload X1 at_14 rfl 16 rfl ?_
  refine o_lload X1 at_16 rfl 18 rfl ?_
  refine o_callI X1 at_18 (rest := [(.ref b1)]) (c_init l Z a0 hw [] n0 _ X1.size b1 xa xb _ _ [] H1) rfl (hw _ (List.mem_of_getElem? (i := 3) rfl)) (hw _ (List.mem_of_getElem? (i := 4) rfl)) (hw _ (List.mem_of_getElem? (i := 2) rfl)) (hw _ (List.mem_of_getElem? (i := 5) rfl)) (by decide) 1 (by decide) (by decide) rfl [(.long xa), (.long xb)] rfl pd_1 rfl rfl (Nat.le_of_eq rfl) 1 2 rfl rfl (by decide) (by decide) 21 rfl ?_
  rintro _ T2 h2 X2 ⟨rfl, H2⟩
  replace H2 : OL n0 h2 ((b1, OO Z "com/example/bookstall/bookstall/http/ByteRange" [("com/example/bookstall/bookstall/http/ByteRange", "first", "J", .long xa), ("com/example/bookstall/bookstall/http/ByteRange", "last", "J", .long xb)]) :: []) := H2
  show OE p e room_1 below s n0 Q' T2 (mkF m 21 #[.val (.long xa), .second, .val (.long xb), .second, .val (.long xc), .second, .val (.long xa), .second, .val (.long xb), .second, .val (.long xc), .second, .unset, .unset, .unset, .unset, .unset, .unset, .unset, .unset] [(.ref b1)])
  refine o_astore X2 at_21 rfl #[.val (.long xa), .second, .val (.long xb), .second, .val (.long xc), .second, .val (.long xa), .second, .val (.long xb), .second, .val (.long xc), .second, .val (.ref b1), .unset, .unset, .unset, .unset, .unset, .unset, .unset] rfl 23 rfl ?_
  refine o_new (L := ((b1, OO Z "com/example/bookstall/bookstall/http/ByteRange" [("com/example/bookstall/bookstall/http/ByteRange", "first", "J", .long xa), ("com/example/bookstall/bookstall/http/ByteRange", "last", "J", .long xb)]) :: [])) X2 H2 at_23 (hw _ (List.mem_of_getElem? (i := 0) rfl)) (hw _ (List.mem_of_getElem? (i := 1) rfl)) (hw _ (List.mem_of_getElem? (i := 2) rfl)) [("com/example/bookstall/bookstall/http/ByteRange", "first", "J", .long (0 : Int64)), ("com/example/bookstall/bookstall/http/ByteRange", "last", "J", .long (0 : Int64))] (oqS ⟨.long, Or.inr (hw _ (List.mem_of_getElem? (i := 15) rfl)), by decide, rfl⟩ (oqS ⟨.long, Or.inr (hw _ (List.mem_of_getElem? (i := 17) rfl)), by decide, rfl⟩ oq0)) 2 4 rfl rfl (by decide) (by decide) 26 rfl ?_
  intro T3 h3 b3 X3 H3
  refine o_dup X3 at_26 rfl 27 rfl ?_
  refine o_lload X3 at_27 rfl 29 rfl ?_
  refine o_lload X3 at_29 rfl 31 rfl ?_
  refine o_lconst (v := (1 : Int64)) X3 at_31 rfl 32 rfl ?_
  refine o_lsub X3 at_32 33 rfl ?_
  refine o_callI X3 at_33 (rest := [(.ref b3)]) (c_init l Z a0 hw [] n0 _ X3.size b3 xa (xc - (1 : Int64)) _ _ ((b1, OO Z "com/example/bookstall/bookstall/http/ByteRange" [("com/example/bookstall/bookstall/http/ByteRange", "first", "J", .long xa), ("com/example/bookstall/bookstall/http/ByteRange", "last", "J", .long xb)]) :: []) H3) rfl (hw _ (List.mem_of_getElem? (i := 3) rfl)) (hw _ (List.mem_of_getElem? (i := 4) rfl)) (hw _ (List.mem_of_getElem? (i := 2) rfl)) (hw _ (List.mem_of_getElem? (i := 5) rfl)) (by decide) 1 (by decide) (by decide) rfl [(.long xa), (.long (xc - (1 : Int64)))] rfl pd_1 rfl rfl (Nat.le_of_eq rfl) 2 4 rfl rfl (by decide) (by decide) 36 rfl ?_
  rintro _ T4 h4 X4 ⟨rfl, H4⟩
  replace H4 : OL n0 h4 ((b3, OO Z "com/example/bookstall/bookstall/http/ByteRange" [("com/example/bookstall/bookstall/http/ByteRange", "first", "J", .long xa), ("com/example/bookstall/bookstall/http/ByteRange", "last", "J", .long (xc - (1 : Int64)))]) :: (b1, OO Z "com/example/bookstall/bookstall/http/ByteRange" [("com/example/bookstall/bookstall/http/ByteRange", "first", "J", .long xa), ("com/example/bookstall/bookstall/http/ByteRange", "last", "J", .long xb)]) :: []) := H4
  show OE p e room_1 below s n0 Q' T4 (mkF m 36 #[.val (.long xa), .second, .val (.long xb), .second, .val (.long xc), .second, .val (.long xa), .second, .val (.long xb), .second, .val (.long xc), .second, .val (.ref b1), .unset, .unset, .unset, .unset, .unset, .unset, .unset] [(.ref b3)])
  refine o_astore X4 at_36 rfl #[.val (.long xa), .second, .val (.long xb), .second, .val (.long xc), .second, .val (.long xa), .second, .val (.long xb), .second, .val (.long xc), .second, .val (.ref b1), .val (.ref b3), .unset, .unset, .unset, .unset, .unset, .unset] rfl 38 rfl ?_
  refine o_new (L := ((b3, OO Z "com/example/bookstall/bookstall/http/ByteRange" [("com/example/bookstall/bookstall/http/ByteRange", "first", "J", .long xa), ("com/example/bookstall/bookstall/http/ByteRange", "last", "J", .long (xc - (1 : Int64)))]) :: (b1, OO Z "com/example/bookstall/bookstall/http/ByteRange" [("com/example/bookstall/bookstall/http/ByteRange", "first", "J", .long xa), ("com/example/bookstall/bookstall/http/ByteRange", "last", "J", .long xb)]) :: [])) X4 H4 at_38 (hw _ (List.mem_of_getElem? (i := 0) rfl)) (hw _ (List.mem_of_getElem? (i := 1) rfl)) (hw _ (List.mem_of_getElem? (i := 2) rfl)) [("com/example/bookstall/bookstall/http/ByteRange", "first", "J", .long (0 : Int64)), ("com/example/bookstall/bookstall/http/ByteRange", "last", "J", .long (0 : Int64))] (oqS ⟨.long, Or.inr (hw _ (List.mem_of_getElem? (i := 15) rfl)), by decide, rfl⟩ (oqS ⟨.long, Or.inr (hw _ (List.mem_of_getElem? (i := 17) rfl)), by decide, rfl⟩ oq0)) 3 6 rfl rfl (by decide) (by decide) 41 rfl ?_
  intro T5 h5 b5 X5 H5
  refine o_dup X5 at_41 rfl 42 rfl ?_
  refine o_lload X5 at_42 rfl 44 rfl ?_
  refine o_lload X5 at_44 rfl 46 rfl ?_
  refine o_callI X5 at_46 (rest := [(.ref b5)]) (c_init l Z a0 hw [] n0 _ X5.size b5 xc xb _ _ ((b3, OO Z "com/example/bookstall/bookstall/http/ByteRange" [("com/example/bookstall/bookstall/http/ByteRange", "first", "J", .long xa), ("com/example/bookstall/bookstall/http/ByteRange", "last", "J", .long (xc - (1 : Int64)))]) :: (b1, OO Z "com/example/bookstall/bookstall/http/ByteRange" [("com/example/bookstall/bookstall/http/ByteRange", "first", "J", .long xa), ("com/example/bookstall/bookstall/http/ByteRange", "last", "J", .long xb)]) :: []) H5) rfl (hw _ (List.mem_of_getElem? (i := 3) rfl)) (hw _ (List.mem_of_getElem? (i := 4) rfl)) (hw _ (List.mem_of_getElem? (i := 2) rfl)) (hw _ (List.mem_of_getElem? (i := 5) rfl)) (by decide) 1 (by decide) (by decide) rfl [(.long xc), (.long xb)] rfl pd_1 rfl rfl (Nat.le_of_eq rfl) 3 6 rfl rfl (by decide) (by decide) 49 rfl ?_
  rintro _ T6 h6 X6 ⟨rfl, H6⟩
  replace H6 : OL n0 h6 ((b5, OO Z "com/example/bookstall/bookstall/http/ByteRange" [("com/example/bookstall/bookstall/http/ByteRange", "first", "J", .long xc), ("com/example/bookstall/bookstall/http/ByteRange", "last", "J", .long xb)]) :: (b3, OO Z "com/example/bookstall/bookstall/http/ByteRange" [("com/example/bookstall/bookstall/http/ByteRange", "first", "J", .long xa), ("com/example/bookstall/bookstall/http/ByteRange", "last", "J", .long (xc - (1 : Int64)))]) :: (b1, OO Z "com/example/bookstall/bookstall/http/ByteRange" [("com/example/bookstall/bookstall/http/ByteRange", "first", "J", .long xa), ("com/example/bookstall/bookstall/http/ByteRange", "last", "J", .long xb)]) :: []) := H6
  show OE p e room_1 below s n0 Q' T6 (mkF m 49 #[.val (.long xa), .second, .val (.long xb), .second, .val (.long xc), .second, .val (.long xa), .second, .val (.long xb), .second, .val (.long xc), .second, .val (.ref b1), .val (.ref b3), .unset, .unset, .unset, .unset, .unset, .unset] [(.ref b5)])
  refine o_astore X6 at_49 rfl #[.val (.long xa), .second, .val (.long xb), .second, .val (.long xc), .second, .val (.long xa), .second, .val (.long xb), .second, .val (.long xc), .second, .val (.ref b1), .val (.ref b3), .val (.ref b5), .unset, .unset, .unset, .unset, .unset] rfl 51 rfl ?_
  refine o_new (L := ((b5, OO Z "com/example/bookstall/bookstall/http/ByteRange" [("com/example/bookstall/bookstall/http/ByteRange", "first", "J", .long xc), ("com/example/bookstall/bookstall/http/ByteRange", "last", "J", .long xb)]) :: (b3, OO Z "com/example/bookstall/bookstall/http/ByteRange" [("com/example/bookstall/bookstall/http/ByteRange", "first", "J", .long xa), ("com/example/bookstall/bookstall/http/ByteRange", "last", "J", .long (xc - (1 : Int64)))]) :: (b1, OO Z "com/example/bookstall/bookstall/http/ByteRange" [("com/example/bookstall/bookstall/http/ByteRange", "first", "J", .long xa), ("com/example/bookstall/bookstall/http/ByteRange", "last", "J", .long xb)]) :: [])) X6 H6 at_51 (hw _ (List.mem_of_getElem? (i := 0) rfl)) (hw _ (List.mem_of_getElem? (i := 1) rfl)) (hw _ (List.mem_of_getElem? (i := 2) rfl)) [("com/example/bookstall/bookstall/http/ByteRange", "first", "J", .long (0 : Int64)), ("com/example/bookstall/bookstall/http/ByteRange", "last", "J", .long (0 : Int64))] (oqS ⟨.long, Or.inr (hw _ (List.mem_of_getElem? (i := 15) rfl)), by decide, rfl⟩ (oqS ⟨.long, Or.inr (hw _ (List.mem_of_getElem? (i := 17) rfl)), by decide, rfl⟩ oq0)) 4 8 rfl rfl (by decide) (by decide) 54 rfl ?_
  intro T7 h7 b7 X7 H7
  refine o_dup X7 at_54 rfl 55 rfl ?_
  refine o_lload X7 at_55 rfl 57 rfl ?_
  refine o_lload X7 at_57 rfl 59 rfl ?_
  refine o_lconst (v := (1 : Int64)) X7 at_59 rfl 60 rfl ?_
  refine o_lsub X7 at_60 61 rfl ?_
  refine o_callI X7 at_61 (rest := [(.ref b7)]) (c_init l Z a0 hw [] n0 _ X7.size b7 xa (xa - (1 : Int64)) _ _ ((b5, OO Z "com/example/bookstall/bookstall/http/ByteRange" [("com/example/bookstall/bookstall/http/ByteRange", "first", "J", .long xc), ("com/example/bookstall/bookstall/http/ByteRange", "last", "J", .long xb)]) :: (b3, OO Z "com/example/bookstall/bookstall/http/ByteRange" [("com/example/bookstall/bookstall/http/ByteRange", "first", "J", .long xa), ("com/example/bookstall/bookstall/http/ByteRange", "last", "J", .long (xc - (1 : Int64)))]) :: (b1, OO Z "com/example/bookstall/bookstall/http/ByteRange" [("com/example/bookstall/bookstall/http/ByteRange", "first", "J", .long xa), ("com/example/bookstall/bookstall/http/ByteRange", "last", "J", .long xb)]) :: []) H7) rfl (hw _ (List.mem_of_getElem? (i := 3) rfl)) (hw _ (List.mem_of_getElem? (i := 4) rfl)) (hw _ (List.mem_of_getElem? (i := 2) rfl)) (hw _ (List.mem_of_getElem? (i := 5) rfl)) (by decide) 1 (by decide) (by decide) rfl [(.long xa), (.long (xa - (1 : Int64)))] rfl pd_1 rfl rfl (Nat.le_of_eq rfl) 4 8 rfl rfl (by decide) (by decide) 64 rfl ?_
  rintro _ T8 h8 X8 ⟨rfl, H8⟩
  replace H8 : OL n0 h8 ((b7, OO Z "com/example/bookstall/bookstall/http/ByteRange" [("com/example/bookstall/bookstall/http/ByteRange", "first", "J", .long xa), ("com/example/bookstall/bookstall/http/ByteRange", "last", "J", .long (xa - (1 : Int64)))]) :: (b5, OO Z "com/example/bookstall/bookstall/http/ByteRange" [("com/example/bookstall/bookstall/http/ByteRange", "first", "J", .long xc), ("com/example/bookstall/bookstall/http/ByteRange", "last", "J", .long xb)]) :: (b3, OO Z "com/example/bookstall/bookstall/http/ByteRange" [("com/example/bookstall/bookstall/http/ByteRange", "first", "J", .long xa), ("com/example/bookstall/bookstall/http/ByteRange", "last", "J", .long (xc - (1 : Int64)))]) :: (b1, OO Z "com/example/bookstall/bookstall/http/ByteRange" [("com/example/bookstall/bookstall/http/ByteRange", "first", "J", .long xa), ("com/example/bookstall/bookstall/http/ByteRange", "last", "J", .long xb)]) :: []) := H8
  show OE p e room_1 below s n0 Q' T8 (mkF m 64 #[.val (.long xa), .second, .val (.long xb), .second, .val (.long xc), .second, .val (.long xa), .second, .val (.long xb), .second, .val (.long xc), .second, .val (.ref b1), .val (.ref b3), .val (.ref b5), .unset, .unset, .unset, .unset, .unset] [(.ref b7)])
  refine o_astore X8 at_64 rfl #[.val (.long xa), .second, .val (.long xb), .second, .val (.long xc), .second, .val (.long xa), .second, .val (.long xb), .second, .val (.long xc), .second, .val (.ref b1), .val (.ref b3), .val (.ref b5), .val (.ref b7), .unset, .unset, .unset, .unset] rfl 66 rfl ?_
  refine o_new (L := ((b7, OO Z "com/example/bookstall/bookstall/http/ByteRange" [("com/example/bookstall/bookstall/http/ByteRange", "first", "J", .long xa), ("com/example/bookstall/bookstall/http/ByteRange", "last", "J", .long (xa - (1 : Int64)))]) :: (b5, OO Z "com/example/bookstall/bookstall/http/ByteRange" [("com/example/bookstall/bookstall/http/ByteRange", "first", "J", .long xc), ("com/example/bookstall/bookstall/http/ByteRange", "last", "J", .long xb)]) :: (b3, OO Z "com/example/bookstall/bookstall/http/ByteRange" [("com/example/bookstall/bookstall/http/ByteRange", "first", "J", .long xa), ("com/example/bookstall/bookstall/http/ByteRange", "last", "J", .long (xc - (1 : Int64)))]) :: (b1, OO Z "com/example/bookstall/bookstall/http/ByteRange" [("com/example/bookstall/bookstall/http/ByteRange", "first", "J", .long xa), ("com/example/bookstall/bookstall/http/ByteRange", "last", "J", .long xb)]) :: [])) X8 H8 at_66 (hw _ (List.mem_of_getElem? (i := 0) rfl)) (hw _ (List.mem_of_getElem? (i := 1) rfl)) (hw _ (List.mem_of_getElem? (i := 2) rfl)) [("com/example/bookstall/bookstall/http/ByteRange", "first", "J", .long (0 : Int64)), ("com/example/bookstall/bookstall/http/ByteRange", "last", "J", .long (0 : Int64))] (oqS ⟨.long, Or.inr (hw _ (List.mem_of_getElem? (i := 15) rfl)), by decide, rfl⟩ (oqS ⟨.long, Or.inr (hw _ (List.mem_of_getElem? (i := 17) rfl)), by decide, rfl⟩ oq0)) 5 10 rfl rfl (by decide) (by decide) 69 rfl ?_
  intro T9 h9 b9 X9 H9
  refine o_dup X9 at_69 rfl 70 rfl ?_
  refine o_lload X9 at_70 rfl 72 rfl ?_
  refine o_lload X9 at_72 rfl 74 rfl ?_
  refine o_callI X9 at_74 (rest := [(.ref b9)]) (c_init l Z a0 hw [] n0 _ X9.size b9 xa xa _ _ ((b7, OO Z "com/example/bookstall/bookstall/http/ByteRange" [("com/example/bookstall/bookstall/http/ByteRange", "first", "J", .long xa), ("com/example/bookstall/bookstall/http/ByteRange", "last", "J", .long (xa - (1 : Int64)))]) :: (b5, OO Z "com/example/bookstall/bookstall/http/ByteRange" [("com/example/bookstall/bookstall/http/ByteRange", "first", "J", .long xc), ("com/example/bookstall/bookstall/http/ByteRange", "last", "J", .long xb)]) :: (b3, OO Z "com/example/bookstall/bookstall/http/ByteRange" [("com/example/bookstall/bookstall/http/ByteRange", "first", "J", .long xa), ("com/example/bookstall/bookstall/http/ByteRange", "last", "J", .long (xc - (1 : Int64)))]) :: (b1, OO Z "com/example/bookstall/bookstall/http/ByteRange" [("com/example/bookstall/bookstall/http/ByteRange", "first", "J", .long xa), ("com/example/bookstall/bookstall/http/ByteRange", "last", "J", .long xb)]) :: []) H9) rfl (hw _ (List.mem_of_getElem? (i := 3) rfl)) (hw _ (List.mem_of_getElem? (i := 4) rfl)) (hw _ (List.mem_of_getElem? (i := 2) rfl)) (hw _ (List.mem_of_getElem? (i := 5) rfl)) (by decide) 1 (by decide) (by decide) rfl [(.long xa), (.long xa)] rfl pd_1 rfl rfl (Nat.le_of_eq rfl) 5 10 rfl rfl (by decide) (by decide) 77 rfl ?_
  rintro _ T10 h10 X10 ⟨rfl, H10⟩
  replace H10 : OL n0 h10 ((b9, OO Z "com/example/bookstall/bookstall/http/ByteRange" [("com/example/bookstall/bookstall/http/ByteRange", "first", "J", .long xa), ("com/example/bookstall/bookstall/http/ByteRange", "last", "J", .long xa)]) :: (b7, OO Z "com/example/bookstall/bookstall/http/ByteRange" [("com/example/bookstall/bookstall/http/ByteRange", "first", "J", .long xa), ("com/example/bookstall/bookstall/http/ByteRange", "last", "J", .long (xa - (1 : Int64)))]) :: (b5, OO Z "com/example/bookstall/bookstall/http/ByteRange" [("com/example/bookstall/bookstall/http/ByteRange", "first", "J", .long xc), ("com/example/bookstall/bookstall/http/ByteRange", "last", "J", .long xb)]) :: (b3, OO Z "com/example/bookstall/bookstall/http/ByteRange" [("com/example/bookstall/bookstall/http/ByteRange", "first", "J", .long xa), ("com/example/bookstall/bookstall/http/ByteRange", "last", "J", .long (xc - (1 : Int64)))]) :: (b1, OO Z "com/example/bookstall/bookstall/http/ByteRange" [("com/example/bookstall/bookstall/http/ByteRange", "first", "J", .long xa), ("com/example/bookstall/bookstall/http/ByteRange", "last", "J", .long xb)]) :: []) := H10
  show OE p e room_1 below s n0 Q' T10 (mkF m 77 #[.val (.long xa), .second, .val (.long xb), .second, .val (.long xc), .second, .val (.long xa), .second, .val (.long xb), .second, .val (.long xc), .second, .val (.ref b1), .val (.ref b3), .val (.ref b5), .val (.ref b7), .unset, .unset, .unset, .unset] [(.ref b9)])
  refine o_astore X10 at_77 rfl #[.val (.long xa), .second, .val (.long xb), .second, .val (.long xc), .second, .val (.long xa), .second, .val (.long xb), .second, .val (.long xc), .second, .val (.ref b1), .val (.ref b3), .val (.ref b5), .val (.ref b7), .val (.ref b9), .unset, .unset, .unset] rfl 79 rfl ?_
  refine o_aload X10 at_79 rfl rfl 81 rfl ?_
  have H12 : OL n0 h10 ((b3, OO Z "com/example/bookstall/bookstall/http/ByteRange" [("com/example/bookstall/bookstall/http/ByteRange", "first", "J", .long xa), ("com/example/bookstall/bookstall/http/ByteRange", "last", "J", .long (xc - (1 : Int64)))]) :: (b9, OO Z "com/example/bookstall/bookstall/http/ByteRange" [("com/example/bookstall/bookstall/http/ByteRange", "first", "J", .long xa), ("com/example/bookstall/bookstall/http/ByteRange", "last", "J", .long xa)]) :: (b7, OO Z "com/example/bookstall/bookstall/http/ByteRange" [("com/example/bookstall/bookstall/http/ByteRange", "first", "J", .long xa), ("com/example/bookstall/bookstall/http/ByteRange", "last", "J", .long (xa - (1 : Int64)))]) :: (b5, OO Z "com/example/bookstall/bookstall/http/ByteRange" [("com/example/bookstall/bookstall/http/ByteRange", "first", "J", .long xc), ("com/example/bookstall/bookstall/http/ByteRange", "last", "J", .long xb)]) :: (b1, OO Z "com/example/bookstall/bookstall/http/ByteRange" [("com/example/bookstall/bookstall/http/ByteRange", "first", "J", .long xa), ("com/example/bookstall/bookstall/http/ByteRange", "last", "J", .long xb)]) :: []) := H10.front 3 rfl
  refine o_callV X10 H12 0 rfl at_81 (rest := []) (c_len l Z a0 hw [] n0 _ X10.size b3 xa (xc - (1 : Int64)) ((b9, OO Z "com/example/bookstall/bookstall/http/ByteRange" [("com/example/bookstall/bookstall/http/ByteRange", "first", "J", .long xa), ("com/example/bookstall/bookstall/http/ByteRange", "last", "J", .long xa)]) :: (b7, OO Z "com/example/bookstall/bookstall/http/ByteRange" [("com/example/bookstall/bookstall/http/ByteRange", "first", "J", .long xa), ("com/example/bookstall/bookstall/http/ByteRange", "last", "J", .long (xa - (1 : Int64)))]) :: (b5, OO Z "com/example/bookstall/bookstall/http/ByteRange" [("com/example/bookstall/bookstall/http/ByteRange", "first", "J", .long xc), ("com/example/bookstall/bookstall/http/ByteRange", "last", "J", .long xb)]) :: (b1, OO Z "com/example/bookstall/bookstall/http/ByteRange" [("com/example/bookstall/bookstall/http/ByteRange", "first", "J", .long xa), ("com/example/bookstall/bookstall/http/ByteRange", "last", "J", .long xb)]) :: []) H12) (hw _ (List.mem_of_getElem? (i := 18) rfl)) (hw _ (List.mem_of_getElem? (i := 19) rfl)) (hw _ (List.mem_of_getElem? (i := 21) rfl)) (hw _ (List.mem_of_getElem? (i := 20) rfl)) (hw _ (List.mem_of_getElem? (i := 2) rfl)) (hw _ (List.mem_of_getElem? (i := 22) rfl)) (by decide) 0 (by decide) (by decide) rfl [] rfl pd_4 rfl rfl (Nat.le_of_eq rfl) 5 10 rfl rfl (by decide) (by decide) 84 rfl ?_
  rintro _ T11 _ X11 ⟨rfl, rfl⟩
  show OE p e room_1 below s n0 Q' T11 (mkF m 84 #[.val (.long xa), .second, .val (.long xb), .second, .val (.long xc), .second, .val (.long xa), .second, .val (.long xb), .second, .val (.long xc), .second, .val (.ref b1), .val (.ref b3), .val (.ref b5), .val (.ref b7), .val (.ref b9), .unset, .unset, .unset] [(.long (((xc - (1 : Int64)) - xa) + (1 : Int64)))])
  refine o_aload X11 at_84 rfl rfl 86 rfl ?_
  have H14 : OL n0 h10 ((b5, OO Z "com/example/bookstall/bookstall/http/ByteRange" [("com/example/bookstall/bookstall/http/ByteRange", "first", "J", .long xc), ("com/example/bookstall/bookstall/http/ByteRange", "last", "J", .long xb)]) :: (b3, OO Z "com/example/bookstall/bookstall/http/ByteRange" [("com/example/bookstall/bookstall/http/ByteRange", "first", "J", .long xa), ("com/example/bookstall/bookstall/http/ByteRange", "last", "J", .long (xc - (1 : Int64)))]) :: (b9, OO Z "com/example/bookstall/bookstall/http/ByteRange" [("com/example/bookstall/bookstall/http/ByteRange", "first", "J", .long xa), ("com/example/bookstall/bookstall/http/ByteRange", "last", "J", .long xa)]) :: (b7, OO Z "com/example/bookstall/bookstall/http/ByteRange" [("com/example/bookstall/bookstall/http/ByteRange", "first", "J", .long xa), ("com/example/bookstall/bookstall/http/ByteRange", "last", "J", .long (xa - (1 : Int64)))]) :: (b1, OO Z "com/example/bookstall/bookstall/http/ByteRange" [("com/example/bookstall/bookstall/http/ByteRange", "first", "J", .long xa), ("com/example/bookstall/bookstall/http/ByteRange", "last", "J", .long xb)]) :: []) := H12.front 3 rfl
  refine o_callV X11 H14 0 rfl at_86 (rest := [(.long (((xc - (1 : Int64)) - xa) + (1 : Int64)))]) (c_len l Z a0 hw [] n0 _ X11.size b5 xc xb ((b3, OO Z "com/example/bookstall/bookstall/http/ByteRange" [("com/example/bookstall/bookstall/http/ByteRange", "first", "J", .long xa), ("com/example/bookstall/bookstall/http/ByteRange", "last", "J", .long (xc - (1 : Int64)))]) :: (b9, OO Z "com/example/bookstall/bookstall/http/ByteRange" [("com/example/bookstall/bookstall/http/ByteRange", "first", "J", .long xa), ("com/example/bookstall/bookstall/http/ByteRange", "last", "J", .long xa)]) :: (b7, OO Z "com/example/bookstall/bookstall/http/ByteRange" [("com/example/bookstall/bookstall/http/ByteRange", "first", "J", .long xa), ("com/example/bookstall/bookstall/http/ByteRange", "last", "J", .long (xa - (1 : Int64)))]) :: (b1, OO Z "com/example/bookstall/bookstall/http/ByteRange" [("com/example/bookstall/bookstall/http/ByteRange", "first", "J", .long xa), ("com/example/bookstall/bookstall/http/ByteRange", "last", "J", .long xb)]) :: []) H14) (hw _ (List.mem_of_getElem? (i := 18) rfl)) (hw _ (List.mem_of_getElem? (i := 19) rfl)) (hw _ (List.mem_of_getElem? (i := 21) rfl)) (hw _ (List.mem_of_getElem? (i := 20) rfl)) (hw _ (List.mem_of_getElem? (i := 2) rfl)) (hw _ (List.mem_of_getElem? (i := 22) rfl)) (by decide) 2 (by decide) (by decide) rfl [] rfl pd_4 rfl rfl (Nat.le_of_eq rfl) 5 10 rfl rfl (by decide) (by decide) 89 rfl ?_
  rintro _ T13 _ X13 ⟨rfl, rfl⟩
  show OE p e room_1 below s n0 Q' T13 (mkF m 89 #[.val (.long xa), .second, .val (.long xb), .second, .val (.long xc), .second, .val (.long xa), .second, .val (.long xb), .second, .val (.long xc), .second, .val (.ref b1), .val (.ref b3), .val (.ref b5), .val (.ref b7), .val (.ref b9), .unset, .unset, .unset] [(.long ((xb - xc) + (1 : Int64))), (.long (((xc - (1 : Int64)) - xa) + (1 : Int64)))])
  refine o_ladd X13 at_89 90 rfl ?_
  refine o_aload X13 at_90 rfl rfl 92 rfl ?_
  have H16 : OL n0 h10 ((b1, OO Z "com/example/bookstall/bookstall/http/ByteRange" [("com/example/bookstall/bookstall/http/ByteRange", "first", "J", .long xa), ("com/example/bookstall/bookstall/http/ByteRange", "last", "J", .long xb)]) :: (b5, OO Z "com/example/bookstall/bookstall/http/ByteRange" [("com/example/bookstall/bookstall/http/ByteRange", "first", "J", .long xc), ("com/example/bookstall/bookstall/http/ByteRange", "last", "J", .long xb)]) :: (b3, OO Z "com/example/bookstall/bookstall/http/ByteRange" [("com/example/bookstall/bookstall/http/ByteRange", "first", "J", .long xa), ("com/example/bookstall/bookstall/http/ByteRange", "last", "J", .long (xc - (1 : Int64)))]) :: (b9, OO Z "com/example/bookstall/bookstall/http/ByteRange" [("com/example/bookstall/bookstall/http/ByteRange", "first", "J", .long xa), ("com/example/bookstall/bookstall/http/ByteRange", "last", "J", .long xa)]) :: (b7, OO Z "com/example/bookstall/bookstall/http/ByteRange" [("com/example/bookstall/bookstall/http/ByteRange", "first", "J", .long xa), ("com/example/bookstall/bookstall/http/ByteRange", "last", "J", .long (xa - (1 : Int64)))]) :: []) := H14.front 4 rfl
  refine o_callV X13 H16 0 rfl at_92 (rest := [(.long ((((xc - (1 : Int64)) - xa) + (1 : Int64)) + ((xb - xc) + (1 : Int64))))]) (c_len l Z a0 hw [] n0 _ X13.size b1 xa xb ((b5, OO Z "com/example/bookstall/bookstall/http/ByteRange" [("com/example/bookstall/bookstall/http/ByteRange", "first", "J", .long xc), ("com/example/bookstall/bookstall/http/ByteRange", "last", "J", .long xb)]) :: (b3, OO Z "com/example/bookstall/bookstall/http/ByteRange" [("com/example/bookstall/bookstall/http/ByteRange", "first", "J", .long xa), ("com/example/bookstall/bookstall/http/ByteRange", "last", "J", .long (xc - (1 : Int64)))]) :: (b9, OO Z "com/example/bookstall/bookstall/http/ByteRange" [("com/example/bookstall/bookstall/http/ByteRange", "first", "J", .long xa), ("com/example/bookstall/bookstall/http/ByteRange", "last", "J", .long xa)]) :: (b7, OO Z "com/example/bookstall/bookstall/http/ByteRange" [("com/example/bookstall/bookstall/http/ByteRange", "first", "J", .long xa), ("com/example/bookstall/bookstall/http/ByteRange", "last", "J", .long (xa - (1 : Int64)))]) :: []) H16) (hw _ (List.mem_of_getElem? (i := 18) rfl)) (hw _ (List.mem_of_getElem? (i := 19) rfl)) (hw _ (List.mem_of_getElem? (i := 21) rfl)) (hw _ (List.mem_of_getElem? (i := 20) rfl)) (hw _ (List.mem_of_getElem? (i := 2) rfl)) (hw _ (List.mem_of_getElem? (i := 22) rfl)) (by decide) 2 (by decide) (by decide) rfl [] rfl pd_4 rfl rfl (Nat.le_of_eq rfl) 5 10 rfl rfl (by decide) (by decide) 95 rfl ?_
  rintro _ T15 _ X15 ⟨rfl, rfl⟩
  show OE p e room_1 below s n0 Q' T15 (mkF m 95 #[.val (.long xa), .second, .val (.long xb), .second, .val (.long xc), .second, .val (.long xa), .second, .val (.long xb), .second, .val (.long xc), .second, .val (.ref b1), .val (.ref b3), .val (.ref b5), .val (.ref b7), .val (.ref b9), .unset, .unset, .unset] [(.long ((xb - xa) + (1 : Int64))), (.long ((((xc - (1 : Int64)) - xa) + (1 : Int64)) + ((xb - xc) + (1 : Int64))))])
  refine o_lcmp X15 at_95 96 rfl ?_
  refine o_ifNe X15 at_96 103 99 (by decide) (by decide) rfl (fun q => by exfalso; exact q ((v_cmp0 _ _).mpr (v_add _ _ _))) ?_
  intro hc96
  refine o_iconst (v := (1 : Int32)) X15 at_99 rfl 100 rfl ?_
  refine o_goto X15 at_100 104 (by decide) (by decide) ?_
  refine o_istore X15 at_104 #[.val (.long xa), .second, .val (.long xb), .second, .val (.long xc), .second, .val (.long xa), .second, .val (.long xb), .second, .val (.long xc), .second, .val (.ref b1), .val (.ref b3), .val (.ref b5), .val (.ref b7), .val (.ref b9), .val (.int (1 : Int32)), .unset, .unset] rfl 106 rfl ?_
  refine o_aload X15 at_106 rfl rfl 108 rfl ?_
  have H18 : OL n0 h10 ((b7, OO Z "com/example/bookstall/bookstall/http/ByteRange" [("com/example/bookstall/bookstall/http/ByteRange", "first", "J", .long xa), ("com/example/bookstall/bookstall/http/ByteRange", "last", "J", .long (xa - (1 : Int64)))]) :: (b1, OO Z "com/example/bookstall/bookstall/http/ByteRange" [("com/example/bookstall/bookstall/http/ByteRange", "first", "J", .long xa), ("com/example/bookstall/bookstall/http/ByteRange", "last", "J", .long xb)]) :: (b5, OO Z "com/example/bookstall/bookstall/http/ByteRange" [("com/example/bookstall/bookstall/http/ByteRange", "first", "J", .long xc), ("com/example/bookstall/bookstall/http/ByteRange", "last", "J", .long xb)]) :: (b3, OO Z "com/example/bookstall/bookstall/http/ByteRange" [("com/example/bookstall/bookstall/http/ByteRange", "first", "J", .long xa), ("com/example/bookstall/bookstall/http/ByteRange", "last", "J", .long (xc - (1 : Int64)))]) :: (b9, OO Z "com/example/bookstall/bookstall/http/ByteRange" [("com/example/bookstall/bookstall/http/ByteRange", "first", "J", .long xa), ("com/example/bookstall/bookstall/http/ByteRange", "last", "J", .long xa)]) :: []) := H16.front 4 rfl
  refine o_callV X15 H18 0 rfl at_108 (rest := []) (c_len l Z a0 hw [] n0 _ X15.size b7 xa (xa - (1 : Int64)) ((b1, OO Z "com/example/bookstall/bookstall/http/ByteRange" [("com/example/bookstall/bookstall/http/ByteRange", "first", "J", .long xa), ("com/example/bookstall/bookstall/http/ByteRange", "last", "J", .long xb)]) :: (b5, OO Z "com/example/bookstall/bookstall/http/ByteRange" [("com/example/bookstall/bookstall/http/ByteRange", "first", "J", .long xc), ("com/example/bookstall/bookstall/http/ByteRange", "last", "J", .long xb)]) :: (b3, OO Z "com/example/bookstall/bookstall/http/ByteRange" [("com/example/bookstall/bookstall/http/ByteRange", "first", "J", .long xa), ("com/example/bookstall/bookstall/http/ByteRange", "last", "J", .long (xc - (1 : Int64)))]) :: (b9, OO Z "com/example/bookstall/bookstall/http/ByteRange" [("com/example/bookstall/bookstall/http/ByteRange", "first", "J", .long xa), ("com/example/bookstall/bookstall/http/ByteRange", "last", "J", .long xa)]) :: []) H18) (hw _ (List.mem_of_getElem? (i := 18) rfl)) (hw _ (List.mem_of_getElem? (i := 19) rfl)) (hw _ (List.mem_of_getElem? (i := 21) rfl)) (hw _ (List.mem_of_getElem? (i := 20) rfl)) (hw _ (List.mem_of_getElem? (i := 2) rfl)) (hw _ (List.mem_of_getElem? (i := 22) rfl)) (by decide) 0 (by decide) (by decide) rfl [] rfl pd_4 rfl rfl (Nat.le_of_eq rfl) 5 10 rfl rfl (by decide) (by decide) 111 rfl ?_
  rintro _ T17 _ X17 ⟨rfl, rfl⟩
  show OE p e room_1 below s n0 Q' T17 (mkF m 111 #[.val (.long xa), .second, .val (.long xb), .second, .val (.long xc), .second, .val (.long xa), .second, .val (.long xb), .second, .val (.long xc), .second, .val (.ref b1), .val (.ref b3), .val (.ref b5), .val (.ref b7), .val (.ref b9), .val (.int (1 : Int32)), .unset, .unset] [(.long (((xa - (1 : Int64)) - xa) + (1 : Int64)))])
  refine o_lconst (v := (0 : Int64)) X17 at_111 rfl 112 rfl ?_
  refine o_lcmp X17 at_112 113 rfl ?_
  refine o_ifNe X17 at_113 120 116 (by decide) (by decide) rfl (fun q => by exfalso; exact q ((v_cmp0 _ _).mpr (v_zero _))) ?_
  intro hc113
  refine o_iconst (v := (1 : Int32)) X17 at_116 rfl 117 rfl ?_
  refine o_goto X17 at_117 121 (by decide) (by decide) ?_
  refine o_istore X17 at_121 #[.val (.long xa), .second, .val (.long xb), .second, .val (.long xc), .second, .val (.long xa), .second, .val (.long xb), .second, .val (.long xc), .second, .val (.ref b1), .val (.ref b3), .val (.ref b5), .val (.ref b7), .val (.ref b9), .val (.int (1 : Int32)), .val (.int (1 : Int32)), .unset] rfl 123 rfl ?_
  refine o_aload X17 at_123 rfl rfl 125 rfl ?_
  have H20 : OL n0 h10 ((b9, OO Z "com/example/bookstall/bookstall/http/ByteRange" [("com/example/bookstall/bookstall/http/ByteRange", "first", "J", .long xa), ("com/example/bookstall/bookstall/http/ByteRange", "last", "J", .long xa)]) :: (b7, OO Z "com/example/bookstall/bookstall/http/ByteRange" [("com/example/bookstall/bookstall/http/ByteRange", "first", "J", .long xa), ("com/example/bookstall/bookstall/http/ByteRange", "last", "J", .long (xa - (1 : Int64)))]) :: (b1, OO Z "com/example/bookstall/bookstall/http/ByteRange" [("com/example/bookstall/bookstall/http/ByteRange", "first", "J", .long xa), ("com/example/bookstall/bookstall/http/ByteRange", "last", "J", .long xb)]) :: (b5, OO Z "com/example/bookstall/bookstall/http/ByteRange" [("com/example/bookstall/bookstall/http/ByteRange", "first", "J", .long xc), ("com/example/bookstall/bookstall/http/ByteRange", "last", "J", .long xb)]) :: (b3, OO Z "com/example/bookstall/bookstall/http/ByteRange" [("com/example/bookstall/bookstall/http/ByteRange", "first", "J", .long xa), ("com/example/bookstall/bookstall/http/ByteRange", "last", "J", .long (xc - (1 : Int64)))]) :: []) := H18.front 4 rfl
  refine o_callV X17 H20 0 rfl at_125 (rest := []) (c_len l Z a0 hw [] n0 _ X17.size b9 xa xa ((b7, OO Z "com/example/bookstall/bookstall/http/ByteRange" [("com/example/bookstall/bookstall/http/ByteRange", "first", "J", .long xa), ("com/example/bookstall/bookstall/http/ByteRange", "last", "J", .long (xa - (1 : Int64)))]) :: (b1, OO Z "com/example/bookstall/bookstall/http/ByteRange" [("com/example/bookstall/bookstall/http/ByteRange", "first", "J", .long xa), ("com/example/bookstall/bookstall/http/ByteRange", "last", "J", .long xb)]) :: (b5, OO Z "com/example/bookstall/bookstall/http/ByteRange" [("com/example/bookstall/bookstall/http/ByteRange", "first", "J", .long xc), ("com/example/bookstall/bookstall/http/ByteRange", "last", "J", .long xb)]) :: (b3, OO Z "com/example/bookstall/bookstall/http/ByteRange" [("com/example/bookstall/bookstall/http/ByteRange", "first", "J", .long xa), ("com/example/bookstall/bookstall/http/ByteRange", "last", "J", .long (xc - (1 : Int64)))]) :: []) H20) (hw _ (List.mem_of_getElem? (i := 18) rfl)) (hw _ (List.mem_of_getElem? (i := 19) rfl)) (hw _ (List.mem_of_getElem? (i := 21) rfl)) (hw _ (List.mem_of_getElem? (i := 20) rfl)) (hw _ (List.mem_of_getElem? (i := 2) rfl)) (hw _ (List.mem_of_getElem? (i := 22) rfl)) (by decide) 0 (by decide) (by decide) rfl [] rfl pd_4 rfl rfl (Nat.le_of_eq rfl) 5 10 rfl rfl (by decide) (by decide) 128 rfl ?_
  rintro _ T19 _ X19 ⟨rfl, rfl⟩
  show OE p e room_1 below s n0 Q' T19 (mkF m 128 #[.val (.long xa), .second, .val (.long xb), .second, .val (.long xc), .second, .val (.long xa), .second, .val (.long xb), .second, .val (.long xc), .second, .val (.ref b1), .val (.ref b3), .val (.ref b5), .val (.ref b7), .val (.ref b9), .val (.int (1 : Int32)), .val (.int (1 : Int32)), .unset] [(.long ((xa - xa) + (1 : Int64)))])
  refine o_lconst (v := (1 : Int64)) X19 at_128 rfl 129 rfl ?_
  refine o_lcmp X19 at_129 130 rfl ?_
  refine o_ifNe X19 at_130 137 133 (by decide) (by decide) rfl (fun q => by exfalso; exact q ((v_cmp0 _ _).mpr (v_one _))) ?_
  intro hc130
  refine o_iconst (v := (1 : Int32)) X19 at_133 rfl 134 rfl ?_
  refine o_goto X19 at_134 138 (by decide) (by decide) ?_
  refine o_istore X19 at_138 #[.val (.long xa), .second, .val (.long xb), .second, .val (.long xc), .second, .val (.long xa), .second, .val (.long xb), .second, .val (.long xc), .second, .val (.ref b1), .val (.ref b3), .val (.ref b5), .val (.ref b7), .val (.ref b9), .val (.int (1 : Int32)), .val (.int (1 : Int32)), .val (.int (1 : Int32))] rfl 140 rfl ?_
  refine o_iload X19 at_140 rfl 142 rfl ?_
  refine o_ifEq X19 at_142 159 145 (by decide) (by decide) rfl (fun q => by exfalso; exact absurd q (by decide)) ?_
  intro hc142
  refine o_iload X19 at_145 rfl 147 rfl ?_
  refine o_ifEq X19 at_147 159 150 (by decide) (by decide) rfl (fun q => by exfalso; exact absurd q (by decide)) ?_
  intro hc147
  refine o_iload X19 at_150 rfl 152 rfl ?_
  refine o_ifEq X19 at_152 159 155 (by decide) (by decide) rfl (fun q => by exfalso; exact absurd q (by decide)) ?_
  intro hc152
  refine o_iconst (v := (1 : Int32)) X19 at_155 rfl 156 rfl ?_
  refine o_goto X19 at_156 160 (by decide) (by decide) ?_
  exact o_retZ X19 at_160 (by decide) (by decide) (hQ _ _ rfl)
set_option maxRecDepth 65536 in
set_option maxHeartbeats 40000000 in
theorem comes_1 {Post : Tables → Env → Array Value → State → Outcome → State → Prop} (hpost : ∀ tb e args s v u, (limb_1_1.after args s (.returned v) u = true ∧ limb_1_2.after args s (.returned v) u = true ∧ True) → FrameEnd s (.returned v) u (Jvm.fieldLocs frame_1_writes args s ++ Jvm.arrayLocs frame_1_arrays args s ++ Jvm.staticLocs frame_1_statics s) 24 128 → Post tb e args s (.returned v) u) :
    ArmFor flags0 classFile x code maxLocals ret World_1 tables_1 room_1 Calls_1 rest_1 Pre_1 Post := by
  intro l hfl _ _ p e ha hc hk s m args below hf hA hF happ hP
  obtain ⟨hcalls, hrest, hpre⟩ := hP
  obtain ⟨-, -, -, hnamed, -, -, -, hat⟩ := (Spec.applies_iff hf).mp happ
  obtain ⟨hg, hn⟩ := and_e (Cond.before_iff.mp (show (Jvm.Cond.and given_1 narrow_1).before args s = true from hpre))
  obtain ⟨hcnt, hg0⟩ := and_e hg
  obtain ⟨ha0, hg1⟩ := and_e hg0
  obtain ⟨ha1, hg2⟩ := and_e hg1
  have ha2 := hg2
  obtain ⟨w0, w1, w2, rfl⟩ : ∃ w0 w1 w2 : Value, args = #[w0, w1, w2] := by
    have hs : args.size = 3 := by simpa [Cond.value, given_1] using hcnt
    obtain ⟨L⟩ := args
    match L, hs with
    | [w0, w1, w2], _ => exact ⟨w0, w1, w2, rfl⟩
  have hw := fun d (hd : d ∈ tables_1) => atoms_spec (ws := Jvm.Cond.code x code maxLocals ret :: tables_1) hat d (List.mem_cons_of_mem _ hd)
  obtain ⟨i0, ei0⟩ := isL_v ha0
  obtain rfl : w0 = (.long i0) := Option.some.inj ei0
  obtain ⟨i1, ei1⟩ := isL_v ha1
  obtain rfl : w1 = (.long i1) := Option.some.inj ei1
  obtain ⟨i2, ei2⟩ := isL_v ha2
  obtain rfl : w2 = (.long i2) := Option.some.inj ei2
  obtain ⟨n, o, h1, h2, h3, _, L, rfl, ⟨rfl, N⟩, hq⟩ := c_law l s _ hw tables_1 s.heap.size s.heap (Nat.le_refl _) i0 i1 i2 p e ha hc hk s m _ below hf ((Spec.applies_iff_loose hf).mp happ).1 ⟨rfl, State.Warmed39.refl s, rfl⟩ trivial
  refine ⟨n, _, h1, h2, h3, hpost _ _ _ _ _ _ ⟨Cond.after_iff.mpr rfl, Cond.after_iff.mpr (eq_i res_at (Term.int_eval (1)) rfl), trivial⟩ ⟨hq.1, hq.2.1, (hq.2.2.sift fun y hy => Or.inr (N y hy)).mono (by decide) (by decide)⟩⟩
theorem main_1_1 : Claimed_1_1 := comes_1 fun _ _ _ _ _ _ h hF => ⟨h.1, hF⟩
theorem main_1_2 : Claimed_1_2 := comes_1 fun _ _ _ _ _ _ h hF => ⟨h.2.1, hF⟩
end Jvm.Pilot.@@N@@
namespace Jvm.Pilot.@@N@@
open Jvm Jvm.ClassFile Sem Op Lib Jvm.Free Jvm.Stand Jvm.Pilot.@@N@@.Jvm.D
/-! MADE BY PROGRAM (witnessworld.py) out of the Statement's table words and the real class files: 10 classes; the members and pool entries that the words name. The judged class is class 1, her method 1. -/
namespace start1
open Jvm.ClassFile
def u (s : String) : CpInfo := .utf8 (stringToUtf16 s)
/-- a pool by its gaps: so many unusable entries, then the entry; so many at the end -/
def gap : Nat → List CpInfo → List CpInfo
  | 0, r => r
  | n + 1, r => .unusable :: gap n r
def poolList (es : List (Nat × CpInfo)) (last : Nat) : List CpInfo := es.foldr (fun e r => gap e.1 (e.2 :: r)) (gap last [])
def pool (es : List (Nat × CpInfo)) (last : Nat) : Array CpInfo := ⟨poolList es last⟩
def fileOf (pool : Array CpInfo) (this : Nat) (attrs : Array Attribute := #[]) (ms : Array MethodInfo := #[]) (fl : Nat := 33) (sup : Nat := 0) (ifs : Array Nat := #[]) (fds : Array FieldInfo := #[]) : ClassFile where
  minorVersion := 0
  majorVersion := 65
  constantPool := pool
  accessFlags := fl
  thisClass := this
  superClass := sup
  interfaces := ifs
  fields := fds
  methods := ms
  attributes := attrs
def plain (name : String) (sup : Option ClassId) : Class where
  name := name
  kind := .ordinary
  loader := none
  accessFlags := 33
  super := sup
  interfaces := #[]
  cf := none
  fields := #[]
  methods := #[]
  instanceTypes := #[]
  staticTypes := #[]
  resolved := #[]
  callSites := []
  init := .initialized
  statics := none
  mirror := none

def pool0 : Array CpInfo := pool [(5, u "<init>"), (0, u "()V"), (1, .class_ 10), (1, u "java/lang/Object")] 113

def k0c0 : Code := { maxStack := 0, maxLocals := 1, code := object_method_1_code, exceptionTable := #[], attributes := #[] }
def k0m0 : Method := { name := "<init>", desc := "()V", sig := { parameters := [], returnType := none }, accessFlags := 1, code := some k0c0 }
/-- java/lang/Object -/
def k0 : Class := { plain "java/lang/Object" none with
  accessFlags := 33
  interfaces := #[]
  cf := some (fileOf pool0 8 #[] #[{ accessFlags := 1, nameIndex := 5, descriptorIndex := 6, attributes := #[] }] 33 0 #[] #[])
  fields := #[]
  methods := #[k0m0]
  instanceTypes := #[]
  staticTypes := #[]
  resolved := Array.replicate 124 none
  statics := none }

def pool1 : Array CpInfo := pool [(2, .class_ 4), (1, u "java/lang/Object"), (0, u "<init>"), (0, u "()V"), (0, .class_ 8), (0, u "com/example/bookstall/bookstall/http/ByteRange"), (0, .methodref 7 10), (0, .nameAndType 5 11), (0, u "(JJ)V"), (0, .methodref 7 13), (0, .nameAndType 14 15), (0, u "length"), (0, u "()J"), (0, .class_ 17), (0, u "com/example/bookstall/bookstall/http/ByteRangeLengthPinLaw"), (2, u "law"), (0, u "(JJJ)Z")] 3

def k1m0 : Method := { name := "<init>", desc := "()V", sig := { parameters := [], returnType := none }, accessFlags := 1, code := none }
def k1c1 : Code := { maxStack := 8, maxLocals := 20, code := code, exceptionTable := #[], attributes := #[] }
def k1m1 : Method := { name := "law", desc := "(JJJ)Z", sig := { parameters := [.long, .long, .long], returnType := some .boolean }, accessFlags := 9, code := some k1c1 }
/-- com/example/bookstall/bookstall/http/ByteRangeLengthPinLaw -/
def k1 : Class := { plain "com/example/bookstall/bookstall/http/ByteRangeLengthPinLaw" (some 0) with
  accessFlags := 49
  interfaces := #[]
  cf := some (fileOf pool1 16 #[] #[{ accessFlags := 1, nameIndex := 5, descriptorIndex := 6, attributes := #[] }, { accessFlags := 9, nameIndex := 20, descriptorIndex := 21, attributes := #[] }] 49 2 #[] #[])
  fields := #[]
  methods := #[k1m0, k1m1]
  instanceTypes := #[]
  staticTypes := #[]
  resolved := Array.replicate 25 none
  statics := none }

def pool2 : Array CpInfo := pool [(1, .methodref 2 3), (0, .class_ 4), (0, .nameAndType 5 6), (0, u "java/lang/Object"), (0, u "<init>"), (0, u "()V"), (0, .class_ 8), (0, u "java/lang/Record")] 13

def k2c0 : Code := { maxStack := 1, maxLocals := 1, code := jdk_30_method_1_code, exceptionTable := #[], attributes := #[] }
def k2m0 : Method := { name := "<init>", desc := "()V", sig := { parameters := [], returnType := none }, accessFlags := 4, code := some k2c0 }
/-- java/lang/Record -/
def k2 : Class := { plain "java/lang/Record" (some 0) with
  accessFlags := 1057
  interfaces := #[]
  cf := some (fileOf pool2 7 #[] #[{ accessFlags := 4, nameIndex := 5, descriptorIndex := 6, attributes := #[] }] 1057 2 #[] #[])
  fields := #[]
  methods := #[k2m0]
  instanceTypes := #[]
  staticTypes := #[]
  resolved := Array.replicate 22 none
  statics := none }

def pool3 : Array CpInfo := pool [(1, .methodref 2 3), (0, .class_ 4), (0, .nameAndType 5 6), (0, u "java/lang/Record"), (0, u "<init>"), (0, u "()V"), (0, .fieldref 8 9), (0, .class_ 10), (0, .nameAndType 11 12), (0, u "com/example/bookstall/bookstall/http/ByteRange"), (0, u "first"), (0, u "J"), (0, .fieldref 8 14), (0, .nameAndType 15 12), (0, u "last"), (12, u "(JJ)V"), (3, u "length"), (0, u "()J")] 24

def k3c0 : Code := { maxStack := 3, maxLocals := 5, code := prog_114_method_1_code, exceptionTable := #[], attributes := #[] }
def k3m0 : Method := { name := "<init>", desc := "(JJ)V", sig := { parameters := [.long, .long], returnType := none }, accessFlags := 1, code := some k3c0 }
def k3c1 : Code := { maxStack := 4, maxLocals := 1, code := prog_114_method_2_code, exceptionTable := #[], attributes := #[] }
def k3m1 : Method := { name := "length", desc := "()J", sig := { parameters := [], returnType := some .long }, accessFlags := 1, code := some k3c1 }
/-- com/example/bookstall/bookstall/http/ByteRange -/
def k3 : Class := { plain "com/example/bookstall/bookstall/http/ByteRange" (some 2) with
  accessFlags := 49
  interfaces := #[]
  cf := some (fileOf pool3 8 #[] #[{ accessFlags := 1, nameIndex := 5, descriptorIndex := 28, attributes := #[] }, { accessFlags := 1, nameIndex := 32, descriptorIndex := 33, attributes := #[] }] 49 2 #[] #[{ accessFlags := 18, nameIndex := 11, descriptorIndex := 12, attributes := #[] }, { accessFlags := 18, nameIndex := 15, descriptorIndex := 12, attributes := #[] }])
  fields := #[{ name := "first", type := .long, accessFlags := 18, slot := 0, constantValue := 0 }, { name := "last", type := .long, accessFlags := 18, slot := 1, constantValue := 0 }]
  methods := #[k3m0, k3m1]
  instanceTypes := #[.long, .long]
  staticTypes := #[]
  resolved := Array.replicate 58 none
  statics := none }

def pool4 : Array CpInfo := pool [(1, u "java/lang/Cloneable"), (0, .class_ 1), (0, u "java/lang/Object"), (0, .class_ 3)] 3

/-- java/lang/Cloneable -/
def k4 : Class := { plain "java/lang/Cloneable" (some 0) with
  accessFlags := 1537
  interfaces := #[]
  cf := some (fileOf pool4 2 #[] #[] 1537 4 #[] #[])
  fields := #[]
  methods := #[]
  instanceTypes := #[]
  staticTypes := #[]
  resolved := Array.replicate 8 none
  statics := none }

def pool5 : Array CpInfo := pool [(1, u "java/io/Serializable"), (0, .class_ 1), (0, u "java/lang/Object"), (0, .class_ 3)] 3

/-- java/io/Serializable -/
def k5 : Class := { plain "java/io/Serializable" (some 0) with
  accessFlags := 1537
  interfaces := #[]
  cf := some (fileOf pool5 2 #[] #[] 1537 4 #[] #[])
  fields := #[]
  methods := #[]
  instanceTypes := #[]
  staticTypes := #[]
  resolved := Array.replicate 8 none
  statics := none }

/-- the primitive byte -/
def k6 : Class := { plain "byte" none with kind := .primitive 'B', accessFlags := 0x411 }
/-- [B -/
def k7 : Class := { plain "[B" (some 0) with kind := .array 6 .byte, interfaces := #[4, 5], accessFlags := 1041 }

/-- the primitive int -/
def k8 : Class := { plain "int" none with kind := .primitive 'I', accessFlags := 0x411 }
/-- [I -/
def k9 : Class := { plain "[I" (some 0) with kind := .array 8 .int, interfaces := #[4, 5], accessFlags := 1041 }

def heap : Heap := #[]
def classes : Array Class := #[k0, k1, k2, k3, k4, k5, k6, k7, k8, k9]
def interned : List (Array UInt16 × Addr) := []
def slotsUsed : Nat := 0
def theMethod : MethodId := ⟨1, 1⟩
def args0 : Array Value := #[.long 5, .long 9, .long 7]
def aboutOver (below : List Frame) : State where
  vm := { classes := classes, interned := interned.toArray }
  heap := heap
  slotsUsed := slotsUsed
  threads := #[{ frames := .invoking theMethod args0 :: below }]
def below0 : List Frame := [.native { method := ⟨0, 0⟩, args := #[] }]
def about1 : State := aboutOver below0
def p0 : Program := .bare "" "" ""
def e0 : Env := launch0.env 0 0 0
theorem w_frames : about1.frames = Frame.invoking theMethod args0 :: below0 := rfl
set_option maxRecDepth 65536 in
theorem w_args : argsFit about1.vm theMethod args0 = true := by decide +kernel
set_option maxRecDepth 65536 in
theorem w_heap : heapFits about1 = true := by decide +kernel
set_option maxRecDepth 65536 in
theorem w_runnable : about1.curStatus? = some .runnable := by decide +kernel
set_option maxRecDepth 65536 in
theorem w_alone : about1.alone = true := by decide +kernel
set_option maxRecDepth 65536 in
theorem w_named : about1.methodNamed? x = some theMethod := by decide +kernel
set_option maxRecDepth 65536 in
theorem w_hears : about1.hears theMethod below0 = true := by decide +kernel
set_option maxRecDepth 65536 in
theorem w_ripe : about1.ripe theMethod args0 below0 = true := by decide +kernel
theorem w_running : about1.status = .running := rfl
set_option maxRecDepth 65536 in
theorem w_room : about1.hasRoom e0.platform room_1 = true :=
  launch0.hasRoom_least _ room_1 (by decide +kernel) (by decide +kernel) (by decide +kernel) (by decide +kernel) (by decide +kernel) (by decide +kernel)
theorem allAtoms_all (ts : List Jvm.Cond) (a : Array Jvm.Value) (st : Jvm.State) : (allAtoms ts).before a st = ts.all (fun c => c.before a st) := by
  induction ts with
  | nil => rfl
  | cons c t ih =>
    show (Jvm.Cond.and c (allAtoms t)).before a st = _
    rw [Jvm.Cond.before_and, ih, List.all_cons]
def words1 : List Jvm.Cond := Jvm.Cond.code x code maxLocals ret :: tables_1
/-- a 'code' word, met by the world's own term for the bytes: nothing is compared byte by byte -/
theorem code_word {y : MethodName} {bytes : ByteArray} {mx : Nat} {rt : Option FieldType} {a : Array Value} {s : State} {m : MethodId} {meth : Method} {c : Code} (h1 : s.methodNamed? y = some m) (h2 : s.vm.method? m = some meth) (h3 : meth.code = some c) (h4 : c.code = bytes)
    (h5 : (c.maxLocals == mx && c.exceptionTable.isEmpty && decide (c.maxStack ≤ mostOperands) && decide (meth.sig.returnType = rt) && !meth.locks && decide (parseMethodDescriptor y.desc = some meth.sig)) = true) : (Jvm.Cond.code y bytes mx rt).before a s = true := by
  simp only [Bool.and_eq_true, beq_iff_eq, Bool.not_eq_true', decide_eq_true_eq] at h5
  obtain ⟨⟨⟨⟨⟨g1, g2⟩, g3⟩, g4⟩, g5⟩, g6⟩ := h5
  simp [Cond.before, Cond.holds, Cond.value, h1, h2, h3, h4, g1, g2, g3, g4, g5, g6]
def isCode : Jvm.Cond → Bool
  | .code _ _ _ _ => true
  | _ => false
theorem all_split {L : List Jvm.Cond} {P : Jvm.Cond → Bool} (h1 : L.all (fun c => isCode c || P c) = true) (h2 : ∀ c ∈ L.filter isCode, P c = true) : L.all P = true := by
  refine List.all_eq_true.mpr fun c hc => ?_
  have h := List.all_eq_true.mp h1 c hc
  rcases Bool.eq_false_or_eq_true (isCode c) with hi | hi
  · exact h2 c (List.mem_filter.mpr ⟨hc, hi⟩)
  · simpa [hi] using h
set_option maxRecDepth 65536 in
theorem w_c0 : (Jvm.Cond.code x code maxLocals ret).before args0 about1 = true := code_word (m := ⟨1, 1⟩) (meth := k1m1) (c := k1c1) (by decide +kernel) rfl rfl rfl (by decide +kernel)
set_option maxRecDepth 65536 in
theorem w_c1 : (Jvm.Cond.code ({ cls := "com/example/bookstall/bookstall/http/ByteRange", name := "<init>", desc := "(JJ)V" } : Jvm.MethodName) prog_114_method_1_code (5 : Nat) (Option.none : Option Jvm.ClassFile.FieldType)).before args0 about1 = true := code_word (m := ⟨3, 0⟩) (meth := k3m0) (c := k3c0) (by decide +kernel) rfl rfl rfl (by decide +kernel)
set_option maxRecDepth 65536 in
theorem w_c2 : (Jvm.Cond.code ({ cls := "java/lang/Record", name := "<init>", desc := "()V" } : Jvm.MethodName) jdk_30_method_1_code (1 : Nat) (Option.none : Option Jvm.ClassFile.FieldType)).before args0 about1 = true := code_word (m := ⟨2, 0⟩) (meth := k2m0) (c := k2c0) (by decide +kernel) rfl rfl rfl (by decide +kernel)
set_option maxRecDepth 65536 in
theorem w_c3 : (Jvm.Cond.code ({ cls := "java/lang/Object", name := "<init>", desc := "()V" } : Jvm.MethodName) object_method_1_code (1 : Nat) (Option.none : Option Jvm.ClassFile.FieldType)).before args0 about1 = true := code_word (m := ⟨0, 0⟩) (meth := k0m0) (c := k0c0) (by decide +kernel) rfl rfl rfl (by decide +kernel)
set_option maxRecDepth 65536 in
theorem w_c4 : (Jvm.Cond.code ({ cls := "com/example/bookstall/bookstall/http/ByteRange", name := "length", desc := "()J" } : Jvm.MethodName) prog_114_method_2_code (1 : Nat) (Option.some Jvm.ClassFile.FieldType.long)).before args0 about1 = true := code_word (m := ⟨3, 1⟩) (meth := k3m1) (c := k3c1) (by decide +kernel) rfl rfl rfl (by decide +kernel)
def codes1 : List Jvm.Cond := [Jvm.Cond.code x code maxLocals ret, Jvm.Cond.code ({ cls := "com/example/bookstall/bookstall/http/ByteRange", name := "<init>", desc := "(JJ)V" } : Jvm.MethodName) prog_114_method_1_code (5 : Nat) (Option.none : Option Jvm.ClassFile.FieldType), Jvm.Cond.code ({ cls := "java/lang/Record", name := "<init>", desc := "()V" } : Jvm.MethodName) jdk_30_method_1_code (1 : Nat) (Option.none : Option Jvm.ClassFile.FieldType), Jvm.Cond.code ({ cls := "java/lang/Object", name := "<init>", desc := "()V" } : Jvm.MethodName) object_method_1_code (1 : Nat) (Option.none : Option Jvm.ClassFile.FieldType), Jvm.Cond.code ({ cls := "com/example/bookstall/bookstall/http/ByteRange", name := "length", desc := "()J" } : Jvm.MethodName) prog_114_method_2_code (1 : Nat) (Option.some Jvm.ClassFile.FieldType.long)]
set_option maxRecDepth 65536 in
theorem codes_eq : words1.filter isCode = codes1 := rfl
theorem w_codes : ∀ c ∈ words1.filter isCode, c.before args0 about1 = true := by
  rw [codes_eq]
  intro c hc
  simp only [codes1, List.mem_cons, List.not_mem_nil, or_false] at hc
  rcases hc with rfl | rfl | rfl | rfl | rfl
  · exact w_c0
  · exact w_c1
  · exact w_c2
  · exact w_c3
  · exact w_c4
set_option maxRecDepth 65536 in
theorem w_t1 : words1.all (fun c => isCode c || c.before args0 about1) = true := by decide +kernel
theorem w_tables : (allAtoms (Jvm.Cond.code x code maxLocals ret :: tables_1)).before args0 about1 = true := by
  rw [allAtoms_all]
  show words1.all (fun c => c.before args0 about1) = true
  refine all_split ?_ w_codes
  rw [w_t1]
set_option maxRecDepth 65536 in
theorem w_case : (Jvm.Cond.and given_1 narrow_1).before args0 about1 = true := by decide +kernel
theorem w_applies : (headSpec (Jvm.Cond.code x code maxLocals ret :: tables_1) room_1).applies x e0.platform about1 = true :=
  (Spec.applies_iff w_frames).mpr ⟨w_running, w_runnable, w_alone, w_named, w_hears, w_ripe, w_room, w_tables⟩
theorem atStart : AtStart classFile x code maxLocals ret World_1 tables_1 room_1 Calls_1 rest_1 Pre_1 launch0 p0 e0 about1 theMethod args0 below0 :=
  ⟨lists_1, trivial, launch0.admits_env _ _ _, launch0.least_env, fairChoices_fair.cas, fairChoices_fair.clock, w_frames, w_args, w_heap, w_applies, trivial, trivial, w_case⟩
end start1
theorem witness_1 : WitnessClaimed_1 := ⟨start1.p0, start1.e0, start1.about1, start1.theMethod, start1.args0, start1.below0, start1.atStart⟩
end Jvm.Pilot.@@N@@
