import JvmDerived
import JvmDerived.Pilot.@@N@@Statement
import JvmDerived.Pilot.@@N@@Code
set_option linter.unusedVariables false
set_option linter.unusedSimpArgs false
@@BLOCK:NumsL.lean.txt@@
namespace Jvm.Pilot.@@N@@
open Jvm Jvm.ClassFile Sem Op Lib Jvm.Free Jvm.Stand Jvm.LawKit Jvm.RoadKit Bundle Jvm.Pilot.@@N@@.Jvm.D
section OwnKit
variable {p : Program} {l : Launch} {e : Env} {R : Room} {s : State} {m : MethodId} {args : Array Value} {below : List Frame} {meth : Method} {c : Code} {T T' : State} {Z : State} {h : Heap} {n0 k n mx : Nat} {y : MethodName} {bytes : ByteArray} {ret : Option FieldType} {Q : Option Value → Heap → Prop} {pc : Nat} {Ls : Array Slot} {st rest : List Value} {a0 : Array Value} {g g' : JFrame}
/-- where a body's walk stands: all that its steps ask, bundled -/
def OW (p : Program) (l : Launch) (e : Env) (R : Room) (s : State) (m : MethodId) (args : Array Value) (below : List Frame) (meth : Method) (c : Code) (Z : State) (y : MethodName) (bytes : ByteArray) (mx : Nat) (ret : Option FieldType) (n0 : Nat) (T : State) (h : Heap) (k n : Nat) : Prop :=
  p.tables.exec = Jvm.exec ∧ Z.Warmed39 s.vm ∧ s.vm.findClass y.cls = some m.cls ∧ c.code = bytes ∧ c.maxLocals = mx ∧ meth.sig.returnType = ret ∧ meth.name = y.name ∧ meth.locks = false ∧ n0 ≤ s.heap.size ∧ T.heap = h ∧ ∃ locs, Stand p l e R s m args below meth c T locs k n ∧ Fr n0 locs
/-- what a body owes from the frame g on: it returns, and Q holds of what it returns and of the heap -/
def OE (p : Program) (e : Env) (R : Room) (below : List Frame) (s : State) (n0 : Nat) (Q : Option Value → Heap → Prop) (T : State) (g : JFrame) : Prop :=
  ∃ t o, Steps p.tables e below (T.setTop g) t ∧ t.status = .running ∧ Ended t below o ∧ ∃ v L, o = .returned v ∧ (Q v t.heap ∧ Fr n0 L) ∧ FrameEnd s o t L R.cells R.slots
theorem OE.by (hs : ∀ t, Steps p.tables e below (T'.setTop g') t → Steps p.tables e below (T.setTop g) t) (K : OE p e R below s n0 Q T' g') : OE p e R below s n0 Q T g := by
  obtain ⟨t, o, h1, r⟩ := K; exact ⟨t, o, hs t h1, r⟩
theorem OW.size (X : OW p l e R s m args below meth c Z y bytes mx ret n0 T h k n) : n0 ≤ h.size := by
  obtain ⟨-, -, -, -, -, -, -, -, h0, rfl, locs, S, -⟩ := X
  exact Nat.le_trans h0 S.same.2.1
theorem OW.more (X : OW p l e R s m args below meth c Z y bytes mx ret n0 T h k n) {k' n' : Nat} (hk : k ≤ k') (hn : n ≤ n') : OW p l e R s m args below meth c Z y bytes mx ret n0 T h k' n' := by
  obtain ⟨h1, h2, h3, h4, h5, h6, h7, h8, h9, h10, locs, S, N⟩ := X
  exact ⟨h1, h2, h3, h4, h5, h6, h7, h8, h9, h10, locs, S.more hk hn, N⟩
theorem o_iloadN (X : OW p l e R s m args below meth c Z y bytes mx ret n0 T h k n) {j : Fin 4} {v : Int32} (hd : decode bytes pc = .ok (.iload_n j, 1)) (hl : Ls[j.val]? = some (.val (.int v))) (pc' : Nat) (hp : pc + 1 = pc') (K : OE p e R below s n0 Q T (mkF m pc' Ls (.int v :: st))) : OE p e R below s n0 Q T (mkF m pc Ls st) := by
  obtain ⟨hx, hZ, hown, hby, hmx, hret, hnm, hlk, h0, hT, locs, S, N⟩ := X; subst hp
  exact OE.by (fun t q => XS.iloadN S.here hx rfl (hb hby hd) hl q) K
theorem o_iload (X : OW p l e R s m args below meth c Z y bytes mx ret n0 T h k n) {j : Nat} {v : Int32} (hd : decode bytes pc = .ok (.iload j, 2)) (hl : Ls[j]? = some (.val (.int v))) (pc' : Nat) (hp : pc + 2 = pc') (K : OE p e R below s n0 Q T (mkF m pc' Ls (.int v :: st))) : OE p e R below s n0 Q T (mkF m pc Ls st) := by
  obtain ⟨hx, hZ, hown, hby, hmx, hret, hnm, hlk, h0, hT, locs, S, N⟩ := X; subst hp
  exact OE.by (fun t q => XS.iload S.here hx rfl (hb hby hd) hl q) K
theorem o_aloadN (X : OW p l e R s m args below meth c Z y bytes mx ret n0 T h k n) {j : Fin 4} {v : Value} (hd : decode bytes pc = .ok (.aload_n j, 1)) (hl : Ls[j.val]? = some (.val v)) (hv : v.isRef = true) (pc' : Nat) (hp : pc + 1 = pc') (K : OE p e R below s n0 Q T (mkF m pc' Ls (v :: st))) : OE p e R below s n0 Q T (mkF m pc Ls st) := by
  obtain ⟨hx, hZ, hown, hby, hmx, hret, hnm, hlk, h0, hT, locs, S, N⟩ := X; subst hp
  exact OE.by (fun t q => XS.aloadN S.here hx rfl (hb hby hd) hl hv q) K
theorem o_aload (X : OW p l e R s m args below meth c Z y bytes mx ret n0 T h k n) {j : Nat} {v : Value} (hd : decode bytes pc = .ok (.aload j, 2)) (hl : Ls[j]? = some (.val v)) (hv : v.isRef = true) (pc' : Nat) (hp : pc + 2 = pc') (K : OE p e R below s n0 Q T (mkF m pc' Ls (v :: st))) : OE p e R below s n0 Q T (mkF m pc Ls st) := by
  obtain ⟨hx, hZ, hown, hby, hmx, hret, hnm, hlk, h0, hT, locs, S, N⟩ := X; subst hp
  exact OE.by (fun t q => XS.aload S.here hx rfl (hb hby hd) hl hv q) K
theorem o_lloadN (X : OW p l e R s m args below meth c Z y bytes mx ret n0 T h k n) {j : Fin 4} {v : Int64} (hd : decode bytes pc = .ok (.lload_n j, 1)) (hl : Ls[j.val]? = some (.val (.long v))) (pc' : Nat) (hp : pc + 1 = pc') (K : OE p e R below s n0 Q T (mkF m pc' Ls (.long v :: st))) : OE p e R below s n0 Q T (mkF m pc Ls st) := by
  obtain ⟨hx, hZ, hown, hby, hmx, hret, hnm, hlk, h0, hT, locs, S, N⟩ := X; subst hp
  exact OE.by (fun t q => XT.lloadN S.here hx rfl (hb hby hd) hl q) K
theorem o_lload (X : OW p l e R s m args below meth c Z y bytes mx ret n0 T h k n) {j : Nat} {v : Int64} (hd : decode bytes pc = .ok (.lload j, 2)) (hl : Ls[j]? = some (.val (.long v))) (pc' : Nat) (hp : pc + 2 = pc') (K : OE p e R below s n0 Q T (mkF m pc' Ls (.long v :: st))) : OE p e R below s n0 Q T (mkF m pc Ls st) := by
  obtain ⟨hx, hZ, hown, hby, hmx, hret, hnm, hlk, h0, hT, locs, S, N⟩ := X; subst hp
  exact OE.by (fun t q => XT.lload S.here hx rfl (hb hby hd) hl q) K
theorem o_iconst (X : OW p l e R s m args below meth c Z y bytes mx ret n0 T h k n) {i : Int} {v : Int32} (hd : decode bytes pc = .ok (.iconst i, 1)) (hv : Int32.ofInt i = v) (pc' : Nat) (hp : pc + 1 = pc') (K : OE p e R below s n0 Q T (mkF m pc' Ls (.int v :: st))) : OE p e R below s n0 Q T (mkF m pc Ls st) := by
  obtain ⟨hx, hZ, hown, hby, hmx, hret, hnm, hlk, h0, hT, locs, S, N⟩ := X; subst hp hv
  exact OE.by (fun t q => XS.iconst S.here hx rfl (hb hby hd) q) K
theorem o_bipush (X : OW p l e R s m args below meth c Z y bytes mx ret n0 T h k n) {i : Int} {v : Int32} (hd : decode bytes pc = .ok (.bipush i, 2)) (hv : (Int8.ofInt i).toInt32 = v) (pc' : Nat) (hp : pc + 2 = pc') (K : OE p e R below s n0 Q T (mkF m pc' Ls (.int v :: st))) : OE p e R below s n0 Q T (mkF m pc Ls st) := by
  obtain ⟨hx, hZ, hown, hby, hmx, hret, hnm, hlk, h0, hT, locs, S, N⟩ := X; subst hp hv
  exact OE.by (fun t q => XS.bipush S.here hx rfl (hb hby hd) q) K
theorem o_sipush (X : OW p l e R s m args below meth c Z y bytes mx ret n0 T h k n) {i : Int} {v : Int32} (hd : decode bytes pc = .ok (.sipush i, 3)) (hv : (Int16.ofInt i).toInt32 = v) (pc' : Nat) (hp : pc + 3 = pc') (K : OE p e R below s n0 Q T (mkF m pc' Ls (.int v :: st))) : OE p e R below s n0 Q T (mkF m pc Ls st) := by
  obtain ⟨hx, hZ, hown, hby, hmx, hret, hnm, hlk, h0, hT, locs, S, N⟩ := X; subst hp hv
  exact OE.by (fun t q => XS.sipush S.here hx rfl (hb hby hd) q) K
theorem o_lconst (X : OW p l e R s m args below meth c Z y bytes mx ret n0 T h k n) {i : Fin 2} {v : Int64} (hd : decode bytes pc = .ok (.lconst i, 1)) (hv : Int64.ofNat i = v) (pc' : Nat) (hp : pc + 1 = pc') (K : OE p e R below s n0 Q T (mkF m pc' Ls (.long v :: st))) : OE p e R below s n0 Q T (mkF m pc Ls st) := by
  obtain ⟨hx, hZ, hown, hby, hmx, hret, hnm, hlk, h0, hT, locs, S, N⟩ := X; subst hp hv
  exact OE.by (fun t q => XT.lconst S.here hx rfl (hb hby hd) q) K
theorem o_iadd (X : OW p l e R s m args below meth c Z y bytes mx ret n0 T h k n) {x z : Int32} (hd : decode bytes pc = .ok (.iadd, 1))  (pc' : Nat) (hp : pc + 1 = pc') (K : OE p e R below s n0 Q T (mkF m pc' Ls (.int (x + z) :: st))) : OE p e R below s n0 Q T (mkF m pc Ls (.int z :: .int x :: st)) := by
  obtain ⟨hx, hZ, hown, hby, hmx, hret, hnm, hlk, h0, hT, locs, S, N⟩ := X; subst hp
  exact OE.by (fun t q => XS.iadd S.here hx rfl (hb hby hd) rfl q) K
theorem o_isub (X : OW p l e R s m args below meth c Z y bytes mx ret n0 T h k n) {x z : Int32} (hd : decode bytes pc = .ok (.isub, 1))  (pc' : Nat) (hp : pc + 1 = pc') (K : OE p e R below s n0 Q T (mkF m pc' Ls (.int (x - z) :: st))) : OE p e R below s n0 Q T (mkF m pc Ls (.int z :: .int x :: st)) := by
  obtain ⟨hx, hZ, hown, hby, hmx, hret, hnm, hlk, h0, hT, locs, S, N⟩ := X; subst hp
  exact OE.by (fun t q => XS.isub S.here hx rfl (hb hby hd) rfl q) K
theorem o_imul (X : OW p l e R s m args below meth c Z y bytes mx ret n0 T h k n) {x z : Int32} (hd : decode bytes pc = .ok (.imul, 1))  (pc' : Nat) (hp : pc + 1 = pc') (K : OE p e R below s n0 Q T (mkF m pc' Ls (.int (x * z) :: st))) : OE p e R below s n0 Q T (mkF m pc Ls (.int z :: .int x :: st)) := by
  obtain ⟨hx, hZ, hown, hby, hmx, hret, hnm, hlk, h0, hT, locs, S, N⟩ := X; subst hp
  exact OE.by (fun t q => XS.imul S.here hx rfl (hb hby hd) rfl q) K
theorem o_iand (X : OW p l e R s m args below meth c Z y bytes mx ret n0 T h k n) {x z : Int32} (hd : decode bytes pc = .ok (.iand, 1))  (pc' : Nat) (hp : pc + 1 = pc') (K : OE p e R below s n0 Q T (mkF m pc' Ls (.int (x &&& z) :: st))) : OE p e R below s n0 Q T (mkF m pc Ls (.int z :: .int x :: st)) := by
  obtain ⟨hx, hZ, hown, hby, hmx, hret, hnm, hlk, h0, hT, locs, S, N⟩ := X; subst hp
  exact OE.by (fun t q => XS.iand S.here hx rfl (hb hby hd) rfl q) K
theorem o_ior (X : OW p l e R s m args below meth c Z y bytes mx ret n0 T h k n) {x z : Int32} (hd : decode bytes pc = .ok (.ior, 1))  (pc' : Nat) (hp : pc + 1 = pc') (K : OE p e R below s n0 Q T (mkF m pc' Ls (.int (x ||| z) :: st))) : OE p e R below s n0 Q T (mkF m pc Ls (.int z :: .int x :: st)) := by
  obtain ⟨hx, hZ, hown, hby, hmx, hret, hnm, hlk, h0, hT, locs, S, N⟩ := X; subst hp
  exact OE.by (fun t q => XT.ior S.here hx rfl (hb hby hd) rfl q) K
theorem o_ixor (X : OW p l e R s m args below meth c Z y bytes mx ret n0 T h k n) {x z : Int32} (hd : decode bytes pc = .ok (.ixor, 1))  (pc' : Nat) (hp : pc + 1 = pc') (K : OE p e R below s n0 Q T (mkF m pc' Ls (.int (x ^^^ z) :: st))) : OE p e R below s n0 Q T (mkF m pc Ls (.int z :: .int x :: st)) := by
  obtain ⟨hx, hZ, hown, hby, hmx, hret, hnm, hlk, h0, hT, locs, S, N⟩ := X; subst hp
  exact OE.by (fun t q => XT.ixor S.here hx rfl (hb hby hd) rfl q) K
theorem o_ishl (X : OW p l e R s m args below meth c Z y bytes mx ret n0 T h k n) {x z : Int32} (hd : decode bytes pc = .ok (.ishl, 1))  (pc' : Nat) (hp : pc + 1 = pc') (K : OE p e R below s n0 Q T (mkF m pc' Ls (.int (x <<< (z &&& 31)) :: st))) : OE p e R below s n0 Q T (mkF m pc Ls (.int z :: .int x :: st)) := by
  obtain ⟨hx, hZ, hown, hby, hmx, hret, hnm, hlk, h0, hT, locs, S, N⟩ := X; subst hp
  exact OE.by (fun t q => XT.ishl S.here hx rfl (hb hby hd) rfl q) K
theorem o_ishr (X : OW p l e R s m args below meth c Z y bytes mx ret n0 T h k n) {x z : Int32} (hd : decode bytes pc = .ok (.ishr, 1))  (pc' : Nat) (hp : pc + 1 = pc') (K : OE p e R below s n0 Q T (mkF m pc' Ls (.int (x >>> (z &&& 31)) :: st))) : OE p e R below s n0 Q T (mkF m pc Ls (.int z :: .int x :: st)) := by
  obtain ⟨hx, hZ, hown, hby, hmx, hret, hnm, hlk, h0, hT, locs, S, N⟩ := X; subst hp
  exact OE.by (fun t q => XT.ishr S.here hx rfl (hb hby hd) rfl q) K
theorem o_iushr (X : OW p l e R s m args below meth c Z y bytes mx ret n0 T h k n) {x z : Int32} (hd : decode bytes pc = .ok (.iushr, 1))  (pc' : Nat) (hp : pc + 1 = pc') (K : OE p e R below s n0 Q T (mkF m pc' Ls (.int (XT.ushr x z) :: st))) : OE p e R below s n0 Q T (mkF m pc Ls (.int z :: .int x :: st)) := by
  obtain ⟨hx, hZ, hown, hby, hmx, hret, hnm, hlk, h0, hT, locs, S, N⟩ := X; subst hp
  exact OE.by (fun t q => XT.iushr S.here hx rfl (hb hby hd) rfl q) K
theorem o_idiv (X : OW p l e R s m args below meth c Z y bytes mx ret n0 T h k n) {x z : Int32} (hd : decode bytes pc = .ok (.idiv, 1)) (hz : z ≠ 0) (pc' : Nat) (hp : pc + 1 = pc') (K : OE p e R below s n0 Q T (mkF m pc' Ls (.int (x / z) :: st))) : OE p e R below s n0 Q T (mkF m pc Ls (.int z :: .int x :: st)) := by
  obtain ⟨hx, hZ, hown, hby, hmx, hret, hnm, hlk, h0, hT, locs, S, N⟩ := X; subst hp
  exact OE.by (fun t q => XS.idiv S.here hx rfl (hb hby hd) rfl hz q) K
theorem o_irem (X : OW p l e R s m args below meth c Z y bytes mx ret n0 T h k n) {x z : Int32} (hd : decode bytes pc = .ok (.irem, 1)) (hz : z ≠ 0) (pc' : Nat) (hp : pc + 1 = pc') (K : OE p e R below s n0 Q T (mkF m pc' Ls (.int (x % z) :: st))) : OE p e R below s n0 Q T (mkF m pc Ls (.int z :: .int x :: st)) := by
  obtain ⟨hx, hZ, hown, hby, hmx, hret, hnm, hlk, h0, hT, locs, S, N⟩ := X; subst hp
  exact OE.by (fun t q => iremM S hx rfl (hb hby hd) rfl hz q) K
theorem o_ladd (X : OW p l e R s m args below meth c Z y bytes mx ret n0 T h k n) {x z : Int64} (hd : decode bytes pc = .ok (.ladd, 1))  (pc' : Nat) (hp : pc + 1 = pc') (K : OE p e R below s n0 Q T (mkF m pc' Ls (.long (x + z) :: st))) : OE p e R below s n0 Q T (mkF m pc Ls (.long z :: .long x :: st)) := by
  obtain ⟨hx, hZ, hown, hby, hmx, hret, hnm, hlk, h0, hT, locs, S, N⟩ := X; subst hp
  exact OE.by (fun t q => XT.ladd S.here hx rfl (hb hby hd) rfl q) K
theorem o_lsub (X : OW p l e R s m args below meth c Z y bytes mx ret n0 T h k n) {x z : Int64} (hd : decode bytes pc = .ok (.lsub, 1))  (pc' : Nat) (hp : pc + 1 = pc') (K : OE p e R below s n0 Q T (mkF m pc' Ls (.long (x - z) :: st))) : OE p e R below s n0 Q T (mkF m pc Ls (.long z :: .long x :: st)) := by
  obtain ⟨hx, hZ, hown, hby, hmx, hret, hnm, hlk, h0, hT, locs, S, N⟩ := X; subst hp
  exact OE.by (fun t q => XT.lsub S.here hx rfl (hb hby hd) rfl q) K
theorem o_lor (X : OW p l e R s m args below meth c Z y bytes mx ret n0 T h k n) {x z : Int64} (hd : decode bytes pc = .ok (.lor, 1))  (pc' : Nat) (hp : pc + 1 = pc') (K : OE p e R below s n0 Q T (mkF m pc' Ls (.long (x ||| z) :: st))) : OE p e R below s n0 Q T (mkF m pc Ls (.long z :: .long x :: st)) := by
  obtain ⟨hx, hZ, hown, hby, hmx, hret, hnm, hlk, h0, hT, locs, S, N⟩ := X; subst hp
  exact OE.by (fun t q => XT.lor S.here hx rfl (hb hby hd) rfl q) K
theorem o_land (X : OW p l e R s m args below meth c Z y bytes mx ret n0 T h k n) {x z : Int64} (hd : decode bytes pc = .ok (.land, 1))  (pc' : Nat) (hp : pc + 1 = pc') (K : OE p e R below s n0 Q T (mkF m pc' Ls (.long (x &&& z) :: st))) : OE p e R below s n0 Q T (mkF m pc Ls (.long z :: .long x :: st)) := by
  obtain ⟨hx, hZ, hown, hby, hmx, hret, hnm, hlk, h0, hT, locs, S, N⟩ := X; subst hp
  exact OE.by (fun t q => XT.land S.here hx rfl (hb hby hd) rfl q) K
theorem o_lmul (X : OW p l e R s m args below meth c Z y bytes mx ret n0 T h k n) {x z : Int64} (hd : decode bytes pc = .ok (.lmul, 1))  (pc' : Nat) (hp : pc + 1 = pc') (K : OE p e R below s n0 Q T (mkF m pc' Ls (.long (x * z) :: st))) : OE p e R below s n0 Q T (mkF m pc Ls (.long z :: .long x :: st)) := by
  obtain ⟨hx, hZ, hown, hby, hmx, hret, hnm, hlk, h0, hT, locs, S, N⟩ := X; subst hp
  exact OE.by (fun t q => XT.lmul S.here hx rfl (hb hby hd) rfl q) K
theorem o_lshl (X : OW p l e R s m args below meth c Z y bytes mx ret n0 T h k n) {x : Int64} {z : Int32} (hd : decode bytes pc = .ok (.lshl, 1))  (pc' : Nat) (hp : pc + 1 = pc') (K : OE p e R below s n0 Q T (mkF m pc' Ls (.long (x <<< (z.toInt64 &&& 63)) :: st))) : OE p e R below s n0 Q T (mkF m pc Ls (.int z :: .long x :: st)) := by
  obtain ⟨hx, hZ, hown, hby, hmx, hret, hnm, hlk, h0, hT, locs, S, N⟩ := X; subst hp
  exact OE.by (fun t q => XT.lshl S.here hx rfl (hb hby hd) rfl q) K
theorem o_lushr (X : OW p l e R s m args below meth c Z y bytes mx ret n0 T h k n) {x : Int64} {z : Int32} (hd : decode bytes pc = .ok (.lushr, 1))  (pc' : Nat) (hp : pc + 1 = pc') (K : OE p e R below s n0 Q T (mkF m pc' Ls (.long (XT.ushrL x z) :: st))) : OE p e R below s n0 Q T (mkF m pc Ls (.int z :: .long x :: st)) := by
  obtain ⟨hx, hZ, hown, hby, hmx, hret, hnm, hlk, h0, hT, locs, S, N⟩ := X; subst hp
  exact OE.by (fun t q => XT.lushr S.here hx rfl (hb hby hd) rfl q) K
theorem o_lcmp (X : OW p l e R s m args below meth c Z y bytes mx ret n0 T h k n) {x z : Int64} (hd : decode bytes pc = .ok (.lcmp, 1))  (pc' : Nat) (hp : pc + 1 = pc') (K : OE p e R below s n0 Q T (mkF m pc' Ls (.int (XT.cmpL x z) :: st))) : OE p e R below s n0 Q T (mkF m pc Ls (.long z :: .long x :: st)) := by
  obtain ⟨hx, hZ, hown, hby, hmx, hret, hnm, hlk, h0, hT, locs, S, N⟩ := X; subst hp
  exact OE.by (fun t q => XT.lcmp S.here hx rfl (hb hby hd) rfl q) K
theorem o_i2l (X : OW p l e R s m args below meth c Z y bytes mx ret n0 T h k n) {x : Int32} (hd : decode bytes pc = .ok (.i2l, 1))  (pc' : Nat) (hp : pc + 1 = pc') (K : OE p e R below s n0 Q T (mkF m pc' Ls (.long x.toInt64 :: st))) : OE p e R below s n0 Q T (mkF m pc Ls (.int x :: st)) := by
  obtain ⟨hx, hZ, hown, hby, hmx, hret, hnm, hlk, h0, hT, locs, S, N⟩ := X; subst hp
  exact OE.by (fun t q => XT.i2l S.here hx rfl (hb hby hd) rfl q) K
theorem o_l2i (X : OW p l e R s m args below meth c Z y bytes mx ret n0 T h k n) {x : Int64} (hd : decode bytes pc = .ok (.l2i, 1))  (pc' : Nat) (hp : pc + 1 = pc') (K : OE p e R below s n0 Q T (mkF m pc' Ls (.int x.toInt32 :: st))) : OE p e R below s n0 Q T (mkF m pc Ls (.long x :: st)) := by
  obtain ⟨hx, hZ, hown, hby, hmx, hret, hnm, hlk, h0, hT, locs, S, N⟩ := X; subst hp
  exact OE.by (fun t q => XT.l2i S.here hx rfl (hb hby hd) rfl q) K
theorem o_i2b (X : OW p l e R s m args below meth c Z y bytes mx ret n0 T h k n) {x : Int32} (hd : decode bytes pc = .ok (.i2b, 1))  (pc' : Nat) (hp : pc + 1 = pc') (K : OE p e R below s n0 Q T (mkF m pc' Ls (.int x.toInt8.toInt32 :: st))) : OE p e R below s n0 Q T (mkF m pc Ls (.int x :: st)) := by
  obtain ⟨hx, hZ, hown, hby, hmx, hret, hnm, hlk, h0, hT, locs, S, N⟩ := X; subst hp
  exact OE.by (fun t q => XT.i2b S.here hx rfl (hb hby hd) rfl q) K
theorem o_i2c (X : OW p l e R s m args below meth c Z y bytes mx ret n0 T h k n) {x : Int32} (hd : decode bytes pc = .ok (.i2c, 1))  (pc' : Nat) (hp : pc + 1 = pc') (K : OE p e R below s n0 Q T (mkF m pc' Ls (.int x.toUInt32.toUInt16.toUInt32.toInt32 :: st))) : OE p e R below s n0 Q T (mkF m pc Ls (.int x :: st)) := by
  obtain ⟨hx, hZ, hown, hby, hmx, hret, hnm, hlk, h0, hT, locs, S, N⟩ := X; subst hp
  exact OE.by (fun t q => XT.i2c S.here hx rfl (hb hby hd) rfl q) K
theorem o_dup (X : OW p l e R s m args below meth c Z y bytes mx ret n0 T h k n) {v : Value} (hd : decode bytes pc = .ok (.dup, 1)) (hc : v.category = 1) (pc' : Nat) (hp : pc + 1 = pc') (K : OE p e R below s n0 Q T (mkF m pc' Ls (v :: v :: st))) : OE p e R below s n0 Q T (mkF m pc Ls (v :: st)) := by
  obtain ⟨hx, hZ, hown, hby, hmx, hret, hnm, hlk, h0, hT, locs, S, N⟩ := X; subst hp
  exact OE.by (fun t q => XS.dup S.here hx rfl (hb hby hd) rfl hc q) K
theorem o_pop (X : OW p l e R s m args below meth c Z y bytes mx ret n0 T h k n) {v : Value} (hd : decode bytes pc = .ok (.pop, 1)) (hc : v.category = 1) (pc' : Nat) (hp : pc + 1 = pc') (K : OE p e R below s n0 Q T (mkF m pc' Ls st)) : OE p e R below s n0 Q T (mkF m pc Ls (v :: st)) := by
  obtain ⟨hx, hZ, hown, hby, hmx, hret, hnm, hlk, h0, hT, locs, S, N⟩ := X; subst hp
  exact OE.by (fun t q => XT.pop S.here hx rfl (hb hby hd) rfl hc q) K
theorem o_dupX1 (X : OW p l e R s m args below meth c Z y bytes mx ret n0 T h k n) {v w : Value} (hd : decode bytes pc = .ok (.dup_x1, 1)) (hc : v.category = 1) (hc' : w.category = 1) (pc' : Nat) (hp : pc + 1 = pc') (K : OE p e R below s n0 Q T (mkF m pc' Ls (v :: w :: v :: st))) : OE p e R below s n0 Q T (mkF m pc Ls (v :: w :: st)) := by
  obtain ⟨hx, hZ, hown, hby, hmx, hret, hnm, hlk, h0, hT, locs, S, N⟩ := X; subst hp
  exact OE.by (fun t q => XT.dupX1 S.here hx rfl (hb hby hd) rfl hc hc' q) K
theorem o_dup2 (X : OW p l e R s m args below meth c Z y bytes mx ret n0 T h k n) {v w : Value} (hd : decode bytes pc = .ok (.dup2, 1)) (hc : v.category = 1) (hc' : w.category = 1) (pc' : Nat) (hp : pc + 1 = pc') (K : OE p e R below s n0 Q T (mkF m pc' Ls (v :: w :: v :: w :: st))) : OE p e R below s n0 Q T (mkF m pc Ls (v :: w :: st)) := by
  obtain ⟨hx, hZ, hown, hby, hmx, hret, hnm, hlk, h0, hT, locs, S, N⟩ := X; subst hp
  exact OE.by (fun t q => XT.dup2 S.here hx rfl (hb hby hd) rfl hc hc' q) K
theorem o_istoreN (X : OW p l e R s m args below meth c Z y bytes mx ret n0 T h k n) {j : Fin 4} {v : Int32} (hd : decode bytes pc = .ok (.istore_n j, 1)) (Ls' : Array Slot) (hl : storeLocals Ls j.val (.int v) = some Ls') (pc' : Nat) (hp : pc + 1 = pc') (K : OE p e R below s n0 Q T (mkF m pc' Ls' st)) : OE p e R below s n0 Q T (mkF m pc Ls (.int v :: st)) := by
  obtain ⟨hx, hZ, hown, hby, hmx, hret, hnm, hlk, h0, hT, locs, S, N⟩ := X; subst hp
  exact OE.by (fun t q => XS.istoreN S.here hx rfl (hb hby hd) rfl hl q) K
theorem o_istore (X : OW p l e R s m args below meth c Z y bytes mx ret n0 T h k n) {j : Nat} {v : Int32} (hd : decode bytes pc = .ok (.istore j, 2)) (Ls' : Array Slot) (hl : storeLocals Ls j (.int v) = some Ls') (pc' : Nat) (hp : pc + 2 = pc') (K : OE p e R below s n0 Q T (mkF m pc' Ls' st)) : OE p e R below s n0 Q T (mkF m pc Ls (.int v :: st)) := by
  obtain ⟨hx, hZ, hown, hby, hmx, hret, hnm, hlk, h0, hT, locs, S, N⟩ := X; subst hp
  exact OE.by (fun t q => XS.istore S.here hx rfl (hb hby hd) rfl hl q) K
theorem o_lstoreN (X : OW p l e R s m args below meth c Z y bytes mx ret n0 T h k n) {j : Fin 4} {v : Int64} (hd : decode bytes pc = .ok (.lstore_n j, 1)) (Ls' : Array Slot) (hl : storeLocals Ls j.val (.long v) = some Ls') (pc' : Nat) (hp : pc + 1 = pc') (K : OE p e R below s n0 Q T (mkF m pc' Ls' st)) : OE p e R below s n0 Q T (mkF m pc Ls (.long v :: st)) := by
  obtain ⟨hx, hZ, hown, hby, hmx, hret, hnm, hlk, h0, hT, locs, S, N⟩ := X; subst hp
  exact OE.by (fun t q => XT.lstoreN S.here hx rfl (hb hby hd) rfl hl q) K
theorem o_lstore (X : OW p l e R s m args below meth c Z y bytes mx ret n0 T h k n) {j : Nat} {v : Int64} (hd : decode bytes pc = .ok (.lstore j, 2)) (Ls' : Array Slot) (hl : storeLocals Ls j (.long v) = some Ls') (pc' : Nat) (hp : pc + 2 = pc') (K : OE p e R below s n0 Q T (mkF m pc' Ls' st)) : OE p e R below s n0 Q T (mkF m pc Ls (.long v :: st)) := by
  obtain ⟨hx, hZ, hown, hby, hmx, hret, hnm, hlk, h0, hT, locs, S, N⟩ := X; subst hp
  exact OE.by (fun t q => XT.lstore S.here hx rfl (hb hby hd) rfl hl q) K
theorem o_astoreN (X : OW p l e R s m args below meth c Z y bytes mx ret n0 T h k n) {j : Fin 4} {v : Value} (hd : decode bytes pc = .ok (.astore_n j, 1)) (hv : v.isRef = true) (Ls' : Array Slot) (hl : storeLocals Ls j.val v = some Ls') (pc' : Nat) (hp : pc + 1 = pc') (K : OE p e R below s n0 Q T (mkF m pc' Ls' st)) : OE p e R below s n0 Q T (mkF m pc Ls (v :: st)) := by
  obtain ⟨hx, hZ, hown, hby, hmx, hret, hnm, hlk, h0, hT, locs, S, N⟩ := X; subst hp
  exact OE.by (fun t q => XS.astoreN S.here hx rfl (hb hby hd) rfl hv hl q) K
theorem o_astore (X : OW p l e R s m args below meth c Z y bytes mx ret n0 T h k n) {j : Nat} {v : Value} (hd : decode bytes pc = .ok (.astore j, 2)) (hv : v.isRef = true) (Ls' : Array Slot) (hl : storeLocals Ls j v = some Ls') (pc' : Nat) (hp : pc + 2 = pc') (K : OE p e R below s n0 Q T (mkF m pc' Ls' st)) : OE p e R below s n0 Q T (mkF m pc Ls (v :: st)) := by
  obtain ⟨hx, hZ, hown, hby, hmx, hret, hnm, hlk, h0, hT, locs, S, N⟩ := X; subst hp
  exact OE.by (fun t q => XS.astore S.here hx rfl (hb hby hd) rfl hv hl q) K
theorem o_iinc (X : OW p l e R s m args below meth c Z y bytes mx ret n0 T h k n) {j : Nat} {i : Int} {v w : Int32} (hd : decode bytes pc = .ok (.iinc j i, 3)) (hg : Ls[j]? = some (.val (.int v))) (hw : v + Int32.ofInt i = w) (Ls' : Array Slot) (hl : storeLocals Ls j (.int w) = some Ls') (pc' : Nat) (hp : pc + 3 = pc') (K : OE p e R below s n0 Q T (mkF m pc' Ls' st)) : OE p e R below s n0 Q T (mkF m pc Ls st) := by
  obtain ⟨hx, hZ, hown, hby, hmx, hret, hnm, hlk, h0, hT, locs, S, N⟩ := X; subst hp hw
  exact OE.by (fun t q => XS.iinc S.here hx rfl (hb hby hd) hg hl q) K
theorem o_goto (X : OW p l e R s m args below meth c Z y bytes mx ret n0 T h k n) {o : Int} (hd : decode bytes pc = .ok (.goto o, 3)) (pc' : Nat) (ho : 0 ≤ (pc : Int) + o) (hp : ((pc : Int) + o).toNat = pc') (K : OE p e R below s n0 Q T (mkF m pc' Ls st)) : OE p e R below s n0 Q T (mkF m pc Ls st) := by
  obtain ⟨hx, hZ, hown, hby, hmx, hret, hnm, hlk, h0, hT, locs, S, N⟩ := X
  exact OE.by (fun t q => XS.goto S.here hx rfl rfl (hb hby hd) ho hp q) K
theorem o_icmpEq (X : OW p l e R s m args below meth c Z y bytes mx ret n0 T h k n) {o : Int} {x z : Int32} (hd : decode bytes pc = .ok (.if_icmp .eq o, 3)) (pcT pcF : Nat) (ho : 0 ≤ (pc : Int) + o) (hT : ((pc : Int) + o).toNat = pcT) (hF : pc + 3 = pcF) (KT : x = z → OE p e R below s n0 Q T (mkF m pcT Ls st)) (KF : ¬ x = z → OE p e R below s n0 Q T (mkF m pcF Ls st)) : OE p e R below s n0 Q T (mkF m pc Ls (.int z :: .int x :: st)) := by
  obtain ⟨hx, hZ, hown, hby, hmx, hret, hnm, hlk, h0, hT', locs, S, N⟩ := X; subst hF
  by_cases q : x = z
  · exact OE.by (fun t r => XS.icmpYes S.here hx rfl rfl (hb hby hd) rfl ((teq q).1) ho hT r) (KT q)
  · exact OE.by (fun t r => XS.icmpNo S.here hx rfl (hb hby hd) rfl ((feq q).1) r) (KF q)
theorem o_ifEq (X : OW p l e R s m args below meth c Z y bytes mx ret n0 T h k n) {o : Int} {x : Int32} (hd : decode bytes pc = .ok (.ifCond .eq o, 3)) (pcT pcF : Nat) (ho : 0 ≤ (pc : Int) + o) (hT : ((pc : Int) + o).toNat = pcT) (hF : pc + 3 = pcF) (KT : x = 0 → OE p e R below s n0 Q T (mkF m pcT Ls st)) (KF : ¬ x = 0 → OE p e R below s n0 Q T (mkF m pcF Ls st)) : OE p e R below s n0 Q T (mkF m pc Ls (.int x :: st)) := by
  obtain ⟨hx, hZ, hown, hby, hmx, hret, hnm, hlk, h0, hT', locs, S, N⟩ := X; subst hF
  by_cases q : x = 0
  · exact OE.by (fun t r => XS.ifYes S.here hx rfl rfl (hb hby hd) rfl ((if0 _ _).trans (teq q).1) ho hT r) (KT q)
  · exact OE.by (fun t r => XS.ifNo S.here hx rfl (hb hby hd) rfl ((if0 _ _).trans (feq q).1) r) (KF q)
theorem o_icmpNe (X : OW p l e R s m args below meth c Z y bytes mx ret n0 T h k n) {o : Int} {x z : Int32} (hd : decode bytes pc = .ok (.if_icmp .ne o, 3)) (pcT pcF : Nat) (ho : 0 ≤ (pc : Int) + o) (hT : ((pc : Int) + o).toNat = pcT) (hF : pc + 3 = pcF) (KT : ¬ x = z → OE p e R below s n0 Q T (mkF m pcT Ls st)) (KF : x = z → OE p e R below s n0 Q T (mkF m pcF Ls st)) : OE p e R below s n0 Q T (mkF m pc Ls (.int z :: .int x :: st)) := by
  obtain ⟨hx, hZ, hown, hby, hmx, hret, hnm, hlk, h0, hT', locs, S, N⟩ := X; subst hF
  by_cases q : x = z
  · exact OE.by (fun t r => XS.icmpNo S.here hx rfl (hb hby hd) rfl ((teq q).2) r) (KF q)
  · exact OE.by (fun t r => XS.icmpYes S.here hx rfl rfl (hb hby hd) rfl ((feq q).2) ho hT r) (KT q)
theorem o_ifNe (X : OW p l e R s m args below meth c Z y bytes mx ret n0 T h k n) {o : Int} {x : Int32} (hd : decode bytes pc = .ok (.ifCond .ne o, 3)) (pcT pcF : Nat) (ho : 0 ≤ (pc : Int) + o) (hT : ((pc : Int) + o).toNat = pcT) (hF : pc + 3 = pcF) (KT : ¬ x = 0 → OE p e R below s n0 Q T (mkF m pcT Ls st)) (KF : x = 0 → OE p e R below s n0 Q T (mkF m pcF Ls st)) : OE p e R below s n0 Q T (mkF m pc Ls (.int x :: st)) := by
  obtain ⟨hx, hZ, hown, hby, hmx, hret, hnm, hlk, h0, hT', locs, S, N⟩ := X; subst hF
  by_cases q : x = 0
  · exact OE.by (fun t r => XS.ifNo S.here hx rfl (hb hby hd) rfl ((if0 _ _).trans (teq q).2) r) (KF q)
  · exact OE.by (fun t r => XS.ifYes S.here hx rfl rfl (hb hby hd) rfl ((if0 _ _).trans (feq q).2) ho hT r) (KT q)
theorem o_icmpLt (X : OW p l e R s m args below meth c Z y bytes mx ret n0 T h k n) {o : Int} {x z : Int32} (hd : decode bytes pc = .ok (.if_icmp .lt o, 3)) (pcT pcF : Nat) (ho : 0 ≤ (pc : Int) + o) (hT : ((pc : Int) + o).toNat = pcT) (hF : pc + 3 = pcF) (KT : x < z → OE p e R below s n0 Q T (mkF m pcT Ls st)) (KF : ¬ x < z → OE p e R below s n0 Q T (mkF m pcF Ls st)) : OE p e R below s n0 Q T (mkF m pc Ls (.int z :: .int x :: st)) := by
  obtain ⟨hx, hZ, hown, hby, hmx, hret, hnm, hlk, h0, hT', locs, S, N⟩ := X; subst hF
  by_cases q : x < z
  · exact OE.by (fun t r => XS.icmpYes S.here hx rfl rfl (hb hby hd) rfl ((tlt q).1) ho hT r) (KT q)
  · exact OE.by (fun t r => XS.icmpNo S.here hx rfl (hb hby hd) rfl ((flt q).1) r) (KF q)
theorem o_ifLt (X : OW p l e R s m args below meth c Z y bytes mx ret n0 T h k n) {o : Int} {x : Int32} (hd : decode bytes pc = .ok (.ifCond .lt o, 3)) (pcT pcF : Nat) (ho : 0 ≤ (pc : Int) + o) (hT : ((pc : Int) + o).toNat = pcT) (hF : pc + 3 = pcF) (KT : x < 0 → OE p e R below s n0 Q T (mkF m pcT Ls st)) (KF : ¬ x < 0 → OE p e R below s n0 Q T (mkF m pcF Ls st)) : OE p e R below s n0 Q T (mkF m pc Ls (.int x :: st)) := by
  obtain ⟨hx, hZ, hown, hby, hmx, hret, hnm, hlk, h0, hT', locs, S, N⟩ := X; subst hF
  by_cases q : x < 0
  · exact OE.by (fun t r => XS.ifYes S.here hx rfl rfl (hb hby hd) rfl ((if0 _ _).trans (tlt q).1) ho hT r) (KT q)
  · exact OE.by (fun t r => XS.ifNo S.here hx rfl (hb hby hd) rfl ((if0 _ _).trans (flt q).1) r) (KF q)
theorem o_icmpGe (X : OW p l e R s m args below meth c Z y bytes mx ret n0 T h k n) {o : Int} {x z : Int32} (hd : decode bytes pc = .ok (.if_icmp .ge o, 3)) (pcT pcF : Nat) (ho : 0 ≤ (pc : Int) + o) (hT : ((pc : Int) + o).toNat = pcT) (hF : pc + 3 = pcF) (KT : ¬ x < z → OE p e R below s n0 Q T (mkF m pcT Ls st)) (KF : x < z → OE p e R below s n0 Q T (mkF m pcF Ls st)) : OE p e R below s n0 Q T (mkF m pc Ls (.int z :: .int x :: st)) := by
  obtain ⟨hx, hZ, hown, hby, hmx, hret, hnm, hlk, h0, hT', locs, S, N⟩ := X; subst hF
  by_cases q : x < z
  · exact OE.by (fun t r => XS.icmpNo S.here hx rfl (hb hby hd) rfl ((tlt q).2.1) r) (KF q)
  · exact OE.by (fun t r => XS.icmpYes S.here hx rfl rfl (hb hby hd) rfl ((flt q).2.1) ho hT r) (KT q)
theorem o_ifGe (X : OW p l e R s m args below meth c Z y bytes mx ret n0 T h k n) {o : Int} {x : Int32} (hd : decode bytes pc = .ok (.ifCond .ge o, 3)) (pcT pcF : Nat) (ho : 0 ≤ (pc : Int) + o) (hT : ((pc : Int) + o).toNat = pcT) (hF : pc + 3 = pcF) (KT : ¬ x < 0 → OE p e R below s n0 Q T (mkF m pcT Ls st)) (KF : x < 0 → OE p e R below s n0 Q T (mkF m pcF Ls st)) : OE p e R below s n0 Q T (mkF m pc Ls (.int x :: st)) := by
  obtain ⟨hx, hZ, hown, hby, hmx, hret, hnm, hlk, h0, hT', locs, S, N⟩ := X; subst hF
  by_cases q : x < 0
  · exact OE.by (fun t r => XS.ifNo S.here hx rfl (hb hby hd) rfl ((if0 _ _).trans (tlt q).2.1) r) (KF q)
  · exact OE.by (fun t r => XS.ifYes S.here hx rfl rfl (hb hby hd) rfl ((if0 _ _).trans (flt q).2.1) ho hT r) (KT q)
theorem o_icmpGt (X : OW p l e R s m args below meth c Z y bytes mx ret n0 T h k n) {o : Int} {x z : Int32} (hd : decode bytes pc = .ok (.if_icmp .gt o, 3)) (pcT pcF : Nat) (ho : 0 ≤ (pc : Int) + o) (hT : ((pc : Int) + o).toNat = pcT) (hF : pc + 3 = pcF) (KT : z < x → OE p e R below s n0 Q T (mkF m pcT Ls st)) (KF : ¬ z < x → OE p e R below s n0 Q T (mkF m pcF Ls st)) : OE p e R below s n0 Q T (mkF m pc Ls (.int z :: .int x :: st)) := by
  obtain ⟨hx, hZ, hown, hby, hmx, hret, hnm, hlk, h0, hT', locs, S, N⟩ := X; subst hF
  by_cases q : z < x
  · exact OE.by (fun t r => XS.icmpYes S.here hx rfl rfl (hb hby hd) rfl ((tlt q).2.2.1) ho hT r) (KT q)
  · exact OE.by (fun t r => XS.icmpNo S.here hx rfl (hb hby hd) rfl ((flt q).2.2.1) r) (KF q)
theorem o_ifGt (X : OW p l e R s m args below meth c Z y bytes mx ret n0 T h k n) {o : Int} {x : Int32} (hd : decode bytes pc = .ok (.ifCond .gt o, 3)) (pcT pcF : Nat) (ho : 0 ≤ (pc : Int) + o) (hT : ((pc : Int) + o).toNat = pcT) (hF : pc + 3 = pcF) (KT : 0 < x → OE p e R below s n0 Q T (mkF m pcT Ls st)) (KF : ¬ 0 < x → OE p e R below s n0 Q T (mkF m pcF Ls st)) : OE p e R below s n0 Q T (mkF m pc Ls (.int x :: st)) := by
  obtain ⟨hx, hZ, hown, hby, hmx, hret, hnm, hlk, h0, hT', locs, S, N⟩ := X; subst hF
  by_cases q : 0 < x
  · exact OE.by (fun t r => XS.ifYes S.here hx rfl rfl (hb hby hd) rfl ((if0 _ _).trans (tlt q).2.2.1) ho hT r) (KT q)
  · exact OE.by (fun t r => XS.ifNo S.here hx rfl (hb hby hd) rfl ((if0 _ _).trans (flt q).2.2.1) r) (KF q)
theorem o_icmpLe (X : OW p l e R s m args below meth c Z y bytes mx ret n0 T h k n) {o : Int} {x z : Int32} (hd : decode bytes pc = .ok (.if_icmp .le o, 3)) (pcT pcF : Nat) (ho : 0 ≤ (pc : Int) + o) (hT : ((pc : Int) + o).toNat = pcT) (hF : pc + 3 = pcF) (KT : ¬ z < x → OE p e R below s n0 Q T (mkF m pcT Ls st)) (KF : z < x → OE p e R below s n0 Q T (mkF m pcF Ls st)) : OE p e R below s n0 Q T (mkF m pc Ls (.int z :: .int x :: st)) := by
  obtain ⟨hx, hZ, hown, hby, hmx, hret, hnm, hlk, h0, hT', locs, S, N⟩ := X; subst hF
  by_cases q : z < x
  · exact OE.by (fun t r => XS.icmpNo S.here hx rfl (hb hby hd) rfl ((tlt q).2.2.2) r) (KF q)
  · exact OE.by (fun t r => XS.icmpYes S.here hx rfl rfl (hb hby hd) rfl ((flt q).2.2.2) ho hT r) (KT q)
theorem o_ifLe (X : OW p l e R s m args below meth c Z y bytes mx ret n0 T h k n) {o : Int} {x : Int32} (hd : decode bytes pc = .ok (.ifCond .le o, 3)) (pcT pcF : Nat) (ho : 0 ≤ (pc : Int) + o) (hT : ((pc : Int) + o).toNat = pcT) (hF : pc + 3 = pcF) (KT : ¬ 0 < x → OE p e R below s n0 Q T (mkF m pcT Ls st)) (KF : 0 < x → OE p e R below s n0 Q T (mkF m pcF Ls st)) : OE p e R below s n0 Q T (mkF m pc Ls (.int x :: st)) := by
  obtain ⟨hx, hZ, hown, hby, hmx, hret, hnm, hlk, h0, hT', locs, S, N⟩ := X; subst hF
  by_cases q : 0 < x
  · exact OE.by (fun t r => XS.ifNo S.here hx rfl (hb hby hd) rfl ((if0 _ _).trans (tlt q).2.2.2) r) (KF q)
  · exact OE.by (fun t r => XS.ifYes S.here hx rfl rfl (hb hby hd) rfl ((if0 _ _).trans (flt q).2.2.2) ho hT r) (KT q)
theorem o_ifnullR (X : OW p l e R s m args below meth c Z y bytes mx ret n0 T h k n) {o : Int} {a : Addr} (hd : decode bytes pc = .ok (.ifnull o, 3)) (pc' : Nat) (hp : pc + 3 = pc') (K : OE p e R below s n0 Q T (mkF m pc' Ls st)) : OE p e R below s n0 Q T (mkF m pc Ls (.ref a :: st)) := by
  obtain ⟨hx, hZ, hown, hby, hmx, hret, hnm, hlk, h0, hT, locs, S, N⟩ := X; subst hp
  exact OE.by (fun t q => XS.ifnullNo S.here hx rfl (hb hby hd) rfl q) K
theorem o_ifnonnullR (X : OW p l e R s m args below meth c Z y bytes mx ret n0 T h k n) {o : Int} {a : Addr} (hd : decode bytes pc = .ok (.ifnonnull o, 3)) (pc' : Nat) (ho : 0 ≤ (pc : Int) + o) (hp : ((pc : Int) + o).toNat = pc') (K : OE p e R below s n0 Q T (mkF m pc' Ls st)) : OE p e R below s n0 Q T (mkF m pc Ls (.ref a :: st)) := by
  obtain ⟨hx, hZ, hown, hby, hmx, hret, hnm, hlk, h0, hT, locs, S, N⟩ := X
  exact OE.by (fun t q => XT.ifnonnullYes S.here hx rfl rfl (hb hby hd) rfl ho hp q) K
theorem o_acmpEqN (X : OW p l e R s m args below meth c Z y bytes mx ret n0 T h k n) {o : Int} {a b : Addr} (hd : decode bytes pc = .ok (.if_acmp .eq o, 3)) (hab : a ≠ b) (pc' : Nat) (hp : pc + 3 = pc') (K : OE p e R below s n0 Q T (mkF m pc' Ls st)) : OE p e R below s n0 Q T (mkF m pc Ls (.ref b :: .ref a :: st)) := by
  obtain ⟨hx, hZ, hown, hby, hmx, hret, hnm, hlk, h0, hT, locs, S, N⟩ := X; subst hp
  exact OE.by (fun t q => XT.acmpNo S.here hx rfl (hb hby hd) rfl rfl rfl (decide_eq_false fun r => hab (Value.ref.inj r)) q) K
theorem o_acmpNeY (X : OW p l e R s m args below meth c Z y bytes mx ret n0 T h k n) {o : Int} {a b : Addr} (hd : decode bytes pc = .ok (.if_acmp .ne o, 3)) (hab : a ≠ b) (pc' : Nat) (ho : 0 ≤ (pc : Int) + o) (hp : ((pc : Int) + o).toNat = pc') (K : OE p e R below s n0 Q T (mkF m pc' Ls st)) : OE p e R below s n0 Q T (mkF m pc Ls (.ref b :: .ref a :: st)) := by
  obtain ⟨hx, hZ, hown, hby, hmx, hret, hnm, hlk, h0, hT, locs, S, N⟩ := X
  exact OE.by (fun t q => XT.acmpYes S.here hx rfl rfl (hb hby hd) rfl rfl rfl (decide_eq_true fun r => hab (Value.ref.inj r)) ho hp q) K
theorem o_ldc (X : OW p l e R s m args below meth c Z y bytes mx ret n0 T h k n) {i : Nat} {v : Int32} (hd : decode bytes pc = .ok (.ldc i, 2)) (w : (Cond.constant y.cls i v).before a0 Z = true) (pc' : Nat) (hp : pc + 2 = pc') (K : OE p e R below s n0 Q T (mkF m pc' Ls (.int v :: st))) : OE p e R below s n0 Q T (mkF m pc Ls st) := by
  obtain ⟨hx, hZ, hown, hby, hmx, hret, hnm, hlk, h0, hT, locs, S, N⟩ := X; subst hp
  exact OE.by (fun t q => S.ldcInt hx hown (mvT hZ w) (g := mkF m pc Ls st) rfl (hb hby hd) t q) K
theorem o_ldc2L (X : OW p l e R s m args below meth c Z y bytes mx ret n0 T h k n) {i : Nat} {v : Int64} (hd : decode bytes pc = .ok (.ldc2_w i, 3)) (w : (Cond.constantLong y.cls i v).before a0 Z = true) (pc' : Nat) (hp : pc + 3 = pc') (K : OE p e R below s n0 Q T (mkF m pc' Ls (.long v :: st))) : OE p e R below s n0 Q T (mkF m pc Ls st) := by
  obtain ⟨hx, hZ, hown, hby, hmx, hret, hnm, hlk, h0, hT, locs, S, N⟩ := X; subst hp
  exact OE.by (fun t q => S.ldc2Long hx hown (mvT hZ w) (g := mkF m pc Ls st) rfl (hb hby hd) t q) K
theorem o_retZ (X : OW p l e R s m args below meth c Z y bytes mx (some .boolean) n0 T h k n) {z : Int32} (hd : decode bytes pc = .ok (.ireturn, 1)) (hk : k ≤ R.cells) (hn : n ≤ R.slots) (hq : Q (some (.int (nar .boolean z))) h) : OE p e R below s n0 Q T (mkF m pc Ls (.int z :: st)) := by
  obtain ⟨hx, hZ, hown, hby, hmx, hret, hnm, hlk, h0, hT, locs, S, N⟩ := X
  obtain ⟨fs, hr, hrun, hended, hW, hsame⟩ := S.leave (v := some (.int (nar .boolean z))) (fun q => by rw [hret] at q; cases q) hlk
  exact ⟨_, _, retN S hx (t := .boolean) hret (by simp) (hb hby hd) hr, hrun, hended, _, _, rfl, ⟨by show Q _ T.heap; rw [hT]; exact hq, N⟩, ⟨_, rfl⟩, hW, hsame.mono hk hn⟩
theorem o_retB (X : OW p l e R s m args below meth c Z y bytes mx (some .byte) n0 T h k n) {z : Int32} (hd : decode bytes pc = .ok (.ireturn, 1)) (hk : k ≤ R.cells) (hn : n ≤ R.slots) (hq : Q (some (.int (nar .byte z))) h) : OE p e R below s n0 Q T (mkF m pc Ls (.int z :: st)) := by
  obtain ⟨hx, hZ, hown, hby, hmx, hret, hnm, hlk, h0, hT, locs, S, N⟩ := X
  obtain ⟨fs, hr, hrun, hended, hW, hsame⟩ := S.leave (v := some (.int (nar .byte z))) (fun q => by rw [hret] at q; cases q) hlk
  exact ⟨_, _, retN S hx (t := .byte) hret (by simp) (hb hby hd) hr, hrun, hended, _, _, rfl, ⟨by show Q _ T.heap; rw [hT]; exact hq, N⟩, ⟨_, rfl⟩, hW, hsame.mono hk hn⟩
theorem o_retC (X : OW p l e R s m args below meth c Z y bytes mx (some .char) n0 T h k n) {z : Int32} (hd : decode bytes pc = .ok (.ireturn, 1)) (hk : k ≤ R.cells) (hn : n ≤ R.slots) (hq : Q (some (.int (nar .char z))) h) : OE p e R below s n0 Q T (mkF m pc Ls (.int z :: st)) := by
  obtain ⟨hx, hZ, hown, hby, hmx, hret, hnm, hlk, h0, hT, locs, S, N⟩ := X
  obtain ⟨fs, hr, hrun, hended, hW, hsame⟩ := S.leave (v := some (.int (nar .char z))) (fun q => by rw [hret] at q; cases q) hlk
  exact ⟨_, _, retN S hx (t := .char) hret (by simp) (hb hby hd) hr, hrun, hended, _, _, rfl, ⟨by show Q _ T.heap; rw [hT]; exact hq, N⟩, ⟨_, rfl⟩, hW, hsame.mono hk hn⟩
theorem o_retI (X : OW p l e R s m args below meth c Z y bytes mx (some .int) n0 T h k n) {z : Int32} (hd : decode bytes pc = .ok (.ireturn, 1)) (hk : k ≤ R.cells) (hn : n ≤ R.slots) (hq : Q (some (.int z)) h) : OE p e R below s n0 Q T (mkF m pc Ls (.int z :: st)) := by
  obtain ⟨hx, hZ, hown, hby, hmx, hret, hnm, hlk, h0, hT, locs, S, N⟩ := X
  obtain ⟨fs, hr, hrun, hended, hW, hsame⟩ := S.leave (v := some (.int z)) (fun q => by rw [hret] at q; cases q) hlk
  exact ⟨_, _, retOut S hx hret rfl (Or.inl ⟨rfl, Or.inl rfl, z, rfl⟩) (hb hby hd) hr, hrun, hended, _, _, rfl, ⟨by show Q _ T.heap; rw [hT]; exact hq, N⟩, ⟨_, rfl⟩, hW, hsame.mono hk hn⟩
theorem o_retJ (X : OW p l e R s m args below meth c Z y bytes mx (some .long) n0 T h k n) {z : Int64} (hd : decode bytes pc = .ok (.lreturn, 1)) (hk : k ≤ R.cells) (hn : n ≤ R.slots) (hq : Q (some (.long z)) h) : OE p e R below s n0 Q T (mkF m pc Ls (.long z :: st)) := by
  obtain ⟨hx, hZ, hown, hby, hmx, hret, hnm, hlk, h0, hT, locs, S, N⟩ := X
  obtain ⟨fs, hr, hrun, hended, hW, hsame⟩ := S.leave (v := some (.long z)) (fun q => by rw [hret] at q; cases q) hlk
  exact ⟨_, _, retOut S hx hret rfl (Or.inr (Or.inl ⟨rfl, rfl, z, rfl⟩)) (hb hby hd) hr, hrun, hended, _, _, rfl, ⟨by show Q _ T.heap; rw [hT]; exact hq, N⟩, ⟨_, rfl⟩, hW, hsame.mono hk hn⟩
theorem o_retA {ty : FieldType} (X : OW p l e R s m args below meth c Z y bytes mx (some ty) n0 T h k n) (hty : ty.isReference = true) {a : Addr} (hnar : narrow ty (.ref a) = .ref a) (hd : decode bytes pc = .ok (.areturn, 1)) (hk : k ≤ R.cells) (hn : n ≤ R.slots) (hq : Q (some (.ref a)) h) : OE p e R below s n0 Q T (mkF m pc Ls (.ref a :: st)) := by
  obtain ⟨hx, hZ, hown, hby, hmx, hret, hnm, hlk, h0, hT, locs, S, N⟩ := X
  obtain ⟨fs, hr, hrun, hended, hW, hsame⟩ := S.leave (v := some (.ref a)) (fun q => by rw [hret] at q; cases q) hlk
  exact ⟨_, _, retOut S hx hret hnar (Or.inr (Or.inr (Or.inr (Or.inr ⟨rfl, hty, rfl⟩)))) (hb hby hd) hr, hrun, hended, _, _, rfl, ⟨by show Q _ T.heap; rw [hT]; exact hq, N⟩, ⟨_, rfl⟩, hW, hsame.mono hk hn⟩
theorem o_ret (X : OW p l e R s m args below meth c Z y bytes mx none n0 T h k n) (hd : decode bytes pc = .ok (.return_, 1)) (hk : k ≤ R.cells) (hn : n ≤ R.slots) (hq : Q none h) : OE p e R below s n0 Q T (mkF m pc Ls []) := by
  obtain ⟨hx, hZ, hown, hby, hmx, hret, hnm, hlk, h0, hT, locs, S, N⟩ := X
  obtain ⟨fs, hr, hrun, hended, hW, hsame⟩ := S.leave (v := none) (fun _ => rfl) hlk
  exact ⟨_, _, S.returnOut hx hret (hb hby hd) hr, hrun, hended, _, _, rfl, ⟨by show Q _ T.heap; rw [hT]; exact hq, N⟩, ⟨_, rfl⟩, hW, hsame.mono hk hn⟩
/-! the heap: a list of places, each with what its cell says -/
def OA (Z : State) (ty : FieldType) (vs : List Int32) (c : Cell) : Prop := Z.isArrayOf c ty ∧ c.vm ≠ .unknown ∧ c.slots = (vs.map Value.int).toArray ∧ (∀ x ∈ vs, fits ty (.int x) = true) ∧ Z.vm.findClass ("[" ++ ty.toString) = some c.cls
def OL (n0 : Nat) (h : Heap) (L : List (Addr × (Cell → Prop))) : Prop := (L.map (·.1)).Nodup ∧ ∀ q ∈ L, n0 ≤ q.1 ∧ ∃ c : Cell, h[q.1]? = some c ∧ q.2 c
variable {L : List (Addr × (Cell → Prop))} {h' : Heap} {a : Addr} {ty : FieldType} {vs : List Int32} {PP : Cell → Prop}
theorem OL.nil : OL n0 h [] := ⟨List.nodup_nil, fun _ q => nomatch q⟩
theorem OL.ext (H : OL n0 h L) (E : Ext h h') : OL n0 h' L := ⟨H.1, fun q hq => by obtain ⟨h1, c, h2, h3⟩ := H.2 q hq; exact ⟨h1, c, E.2 _ _ h2, h3⟩⟩
theorem OL.lt (H : OL n0 h L) {q : Addr × (Cell → Prop)} (hq : q ∈ L) : q.1 < h.size := by obtain ⟨-, c, h2, -⟩ := H.2 q hq; exact (Array.getElem?_eq_some_iff.mp h2).1
theorem OL.push (H : OL n0 h L) (E : Ext h h') (h0 : n0 ≤ h.size) {c : Cell} (hc : h'[h.size]? = some c) (hp : PP c) : OL n0 h' ((h.size, PP) :: L) := by
  refine ⟨?_, fun q hq => ?_⟩
  · rw [List.map_cons, List.nodup_cons]
    refine ⟨fun hx => ?_, H.1⟩
    obtain ⟨q, hq, e⟩ := List.mem_map.mp hx
    have e' : q.1 = h.size := e
    exact absurd (H.lt hq) (by rw [e']; exact Nat.lt_irrefl _)
  · rcases List.mem_cons.mp hq with hq | hq
    · cases hq; exact ⟨h0, c, hc, hp⟩
    · exact (H.ext E).2 q hq
theorem OL.perm {L' : List (Addr × (Cell → Prop))} (H : OL n0 h L) (q : L.Perm L') : OL n0 h L' := ⟨(q.map (·.1)).nodup_iff.mp H.1, fun z hz => H.2 z (q.mem_iff.mpr hz)⟩
/-- the i-th place comes to the front -/
theorem OL.front (H : OL n0 h L) (i : Nat) {q : Addr × (Cell → Prop)} (hi : L[i]? = some q) : OL n0 h (q :: L.eraseIdx i) := by
  obtain ⟨hl, e⟩ := List.getElem?_eq_some_iff.mp hi
  refine H.perm ?_
  have e1 : L = L.take i ++ q :: L.drop (i + 1) := by rw [← e, List.getElem_cons_drop]; exact (List.take_append_drop i L).symm
  have e2 : L.eraseIdx i = L.take i ++ L.drop (i + 1) := List.eraseIdx_eq_take_drop_succ L i
  rw [e2]
  exact (List.Perm.of_eq e1).trans List.perm_middle
theorem OL.get (H : OL n0 h L) {i : Nat} (hi : L[i]? = some (a, PP)) : n0 ≤ a ∧ ∃ c : Cell, h[a]? = some c ∧ PP c := H.2 (a, PP) (List.mem_of_getElem? hi)
theorem OL.ne (H : OL n0 h L) {i j : Nat} {b : Addr} {PB : Cell → Prop} (hi : L[i]? = some (a, PP)) (hj : L[j]? = some (b, PB)) (hij : i ≠ j) : a ≠ b := by
  intro e; subst e
  have h1 : (L.map (·.1))[i]? = some a := by simp [hi]
  have h2 : (L.map (·.1))[j]? = some a := by simp [hj]
  obtain ⟨l1, -⟩ := List.getElem?_eq_some_iff.mp h1
  exact hij ((List.getElem?_inj l1 H.1).mp (h1.trans h2.symm))
theorem OL.wr (H : OL n0 h L) {i sl : Nat} {v : Value} {P' : Cell → Prop} (hi : L[i]? = some (a, PP)) (W : Wr h h' a sl v) (hP : ∀ c : Cell, h[a]? = some c → PP c → P' (c.setSlot sl v)) : OL n0 h' (L.set i (a, P')) := by
  have hmap : (L.set i (a, P')).map (·.1) = L.map (·.1) := by
    apply List.ext_getElem?
    intro j
    simp only [List.getElem?_map, List.getElem?_set]
    split
    · rename_i e; subst e; rw [if_pos (List.getElem?_eq_some_iff.mp hi).1, hi]; rfl
    · rfl
  refine ⟨by rw [hmap]; exact H.1, fun q hq => ?_⟩
  obtain ⟨j, hj⟩ := List.getElem?_of_mem hq
  rw [List.getElem?_set] at hj
  split at hj
  · rename_i e; subst e
    split at hj
    · cases hj
      obtain ⟨h1, c, h2, h3⟩ := H.get hi
      obtain ⟨c', e1, -, -, -, -, -, e7⟩ := wr_at W h2
      exact ⟨h1, c', e1, by rw [(e7 rfl).1]; exact hP c h2 h3⟩
    · cases hj
  · rename_i e
    obtain ⟨b, PB⟩ := q
    obtain ⟨h1, c, h2, h3⟩ := H.get hj
    obtain ⟨c', e1, -, -, -, e5, -⟩ := wr_at W h2
    have := e5 (H.ne hj hi (fun r => e r.symm))
    subst this
    exact ⟨h1, c', e1, h3⟩
theorem OA.set {c : Cell} {j : Nat} {x : Int32} (A : OA Z ty vs c) (hf : fits ty (.int x) = true) : OA Z ty (vs.set j x) (c.setSlot j (.int x)) := by
  obtain ⟨h1, h2, h3, h4, h5⟩ := A
  refine ⟨h1, h2, ?_, fun z hz => ?_, h5⟩
  · show c.slots.setIfInBounds j (.int x) = _
    rw [h3]; simp [List.map_set]
  · rcases List.mem_or_eq_of_mem_set hz with q | q
    · exact h4 z q
    · rw [q]; exact hf
theorem OA.new {k : ClassId} {z : Int32} {N : Nat} (hN : z.toInt = N) (hd : defaultValue ty = .int 0) (hf : fits ty (.int 0) = true) (A : Arr Z h a (newA k ty z) ty) (E : Exa Z h a ("[" ++ ty.toString)) : OA Z ty (List.replicate N 0) (newA k ty z) := by
  obtain ⟨c, kk, e1, e2, -⟩ := E
  cases A.1.symm.trans e1
  refine ⟨A.2.1, A.2.2, ?_, fun x hx => by rw [List.eq_of_mem_replicate hx]; exact hf, e2⟩
  have e : z.toNatClampNeg = N := by simp only [Int32.toNatClampNeg, hN]; rfl
  show Array.replicate z.toNatClampNeg (defaultValue ty) = _
  rw [e, hd]; simp
theorem o_idx {j : Int32} {i N : Nat} (hj : j.toInt = i) (hi : i < N) : ¬ (j < 0 ∨ N ≤ j.toNatClampNeg) ∧ j.toNatClampNeg = i := by
  have e : j.toNatClampNeg = i := by simp only [Int32.toNatClampNeg, hj]; rfl
  refine ⟨?_, e⟩
  rw [e, Int32.lt_iff_toInt_lt, hj, show (0 : Int32).toInt = 0 from rfl]; omega
theorem OA.size {c : Cell} (A : OA Z ty vs c) : c.slots.size = vs.length := by rw [A.2.2.1]; simp
theorem o_newarray (X : OW p l e R s m args below meth c Z y bytes mx ret n0 T h k n) (H : OL n0 h L) {aty : ArrayType} (hd : decode bytes pc = .ok (.newarray aty, 2)) (w : (Cond.arrayClass (newarray.typeOf aty)).before a0 Z = true) (hdv : defaultValue (newarray.typeOf aty) = .int 0) (hfv : fits (newarray.typeOf aty) (.int 0) = true) {z : Int32} (N cap : Nat) (hN : z.toInt = N) (hcap : N ≤ cap) (hb8 : cap * 8 ≤ 536870912) (k2 n2 : Nat) (hk2 : k + 1 = k2) (hn2 : n + cap = n2) (hc : k2 ≤ R.cells) (hl : n2 ≤ R.slots) (pc' : Nat) (hp : pc + 2 = pc')
    (K : ∀ T' h' a, OW p l e R s m args below meth c Z y bytes mx ret n0 T' h' k2 n2 → OL n0 h' ((a, OA Z (newarray.typeOf aty) (List.replicate N 0)) :: L) → OE p e R below s n0 Q T' (mkF m pc' Ls (.ref a :: st))) : OE p e R below s n0 Q T (mkF m pc Ls (.int z :: st)) := by
  have h0 := X.size
  obtain ⟨hx, hZ, hown, hby, hmx, hret, hnm, hlk, hn0, hT, locs, S, N0⟩ := X; subst hp hk2 hn2
  obtain ⟨T', h', cA, S', hT', E, A, EX, stp⟩ := newPE S hx hZ w hT (g := mkF m pc Ls (.int z :: st)) rfl (hb hby hd) rfl (by rw [Int32.lt_iff_toInt_lt, hN, show (0 : Int32).toInt = 0 from rfl]; omega) (cap := cap) (by simp only [Int32.toNatClampNeg, hN]; exact hcap) hb8 hc hl rfl
  exact OE.by stp (K T' h' h.size ⟨hx, hZ, hown, hby, hmx, hret, hnm, hlk, hn0, hT', locs, S', N0⟩ (H.push E h0 A.1 (OA.new hN hdv hfv A EX)))
theorem o_arraylength (X : OW p l e R s m args below meth c Z y bytes mx ret n0 T h k n) (H : OL n0 h L) (i : Nat) (hi : L[i]? = some (a, OA Z ty vs)) (hd : decode bytes pc = .ok (.arraylength, 1)) (z : Int32) (hz : Int32.ofNat vs.length = z) (pc' : Nat) (hp : pc + 1 = pc')
    (K : OE p e R below s n0 Q T (mkF m pc' Ls (.int z :: st))) : OE p e R below s n0 Q T (mkF m pc Ls (.ref a :: st)) := by
  obtain ⟨hx, hZ, hown, hby, hmx, hret, hnm, hlk, hn0, hT, locs, S, N0⟩ := X; subst hp
  obtain ⟨h1, c', h2, A⟩ := H.get hi
  refine OE.by (fun t q => S.arraylength hx (by rw [hT]; exact h2) (State.isArrayOf_alike hZ.alike A.1) (g := mkF m pc Ls (.ref a :: st)) rfl rfl (hb hby hd) t ?_) K
  have e1 : c'.slots.size.toInt32 = z := by rw [A.size]; exact hz
  rw [e1]; exact q
theorem o_iaload (X : OW p l e R s m args below meth c Z y bytes mx ret n0 T h k n) (H : OL n0 h L) (i : Nat) (hi : L[i]? = some (a, OA Z .int vs)) (hd : decode bytes pc = .ok (.iaload, 1)) {j : Int32} (jn : Nat) (hj : j.toInt = jn) (v : Int32) (hv : vs[jn]? = some v) (pc' : Nat) (hp : pc + 1 = pc')
    (K : OE p e R below s n0 Q T (mkF m pc' Ls (.int v :: st))) : OE p e R below s n0 Q T (mkF m pc Ls (.int j :: .ref a :: st)) := by
  obtain ⟨hx, hZ, hown, hby, hmx, hret, hnm, hlk, hn0, hT, locs, S, N0⟩ := X; subst hp
  obtain ⟨h1, c', h2, A⟩ := H.get hi
  have hlt := (List.getElem?_eq_some_iff.mp hv).1
  obtain ⟨q1, q2⟩ := o_idx hj (N := c'.slots.size) (by rw [A.size]; exact hlt)
  exact OE.by (fun t q => S.iaload hx (by rw [hT]; exact h2) (State.isArrayOf_alike hZ.alike A.1) A.2.1 q1 (v := .int v) (by rw [q2, A.2.2.1]; simp [hv]) (g := mkF m pc Ls (.int j :: .ref a :: st)) rfl rfl (hb hby hd) t q) K
theorem o_baloadB (X : OW p l e R s m args below meth c Z y bytes mx ret n0 T h k n) (H : OL n0 h L) (i : Nat) (hi : L[i]? = some (a, OA Z .byte vs)) (hd : decode bytes pc = .ok (.baload, 1)) {j : Int32} (jn : Nat) (hj : j.toInt = jn) (v : Int32) (hv : vs[jn]? = some v) (pc' : Nat) (hp : pc + 1 = pc')
    (K : OE p e R below s n0 Q T (mkF m pc' Ls (.int v :: st))) : OE p e R below s n0 Q T (mkF m pc Ls (.int j :: .ref a :: st)) := by
  obtain ⟨hx, hZ, hown, hby, hmx, hret, hnm, hlk, hn0, hT, locs, S, N0⟩ := X; subst hp
  obtain ⟨h1, c', h2, A⟩ := H.get hi
  have hlt := (List.getElem?_eq_some_iff.mp hv).1
  obtain ⟨q1, q2⟩ := o_idx hj (N := c'.slots.size) (by rw [A.size]; exact hlt)
  exact OE.by (fun t q => S.baloadBytes hx (by rw [hT]; exact h2) (State.isArrayOf_alike hZ.alike A.1) A.2.1 q1 (v := .int v) (by rw [q2, A.2.2.1]; simp [hv]) (g := mkF m pc Ls (.int j :: .ref a :: st)) rfl rfl (hb hby hd) t q) K
theorem o_baloadZ (X : OW p l e R s m args below meth c Z y bytes mx ret n0 T h k n) (H : OL n0 h L) (i : Nat) (hi : L[i]? = some (a, OA Z .boolean vs)) (hd : decode bytes pc = .ok (.baload, 1)) {j : Int32} (jn : Nat) (hj : j.toInt = jn) (v : Int32) (hv : vs[jn]? = some v) (pc' : Nat) (hp : pc + 1 = pc')
    (K : OE p e R below s n0 Q T (mkF m pc' Ls (.int v :: st))) : OE p e R below s n0 Q T (mkF m pc Ls (.int j :: .ref a :: st)) := by
  obtain ⟨hx, hZ, hown, hby, hmx, hret, hnm, hlk, hn0, hT, locs, S, N0⟩ := X; subst hp
  obtain ⟨h1, c', h2, A⟩ := H.get hi
  have hlt := (List.getElem?_eq_some_iff.mp hv).1
  obtain ⟨q1, q2⟩ := o_idx hj (N := c'.slots.size) (by rw [A.size]; exact hlt)
  exact OE.by (fun t q => S.baloadBooleans hx (by rw [hT]; exact h2) (State.isArrayOf_alike hZ.alike A.1) A.2.1 q1 (v := .int v) (by rw [q2, A.2.2.1]; simp [hv]) (g := mkF m pc Ls (.int j :: .ref a :: st)) rfl rfl (hb hby hd) t q) K
theorem o_iastore (X : OW p l e R s m args below meth c Z y bytes mx ret n0 T h k n) (H : OL n0 h L) (i : Nat) (hi : L[i]? = some (a, OA Z .int vs)) (hd : decode bytes pc = .ok (.iastore, 1)) {j x : Int32} (jn : Nat) (hj : j.toInt = jn) (hlt : jn < vs.length) (pc' : Nat) (hp : pc + 1 = pc')
    (K : ∀ T' h', OW p l e R s m args below meth c Z y bytes mx ret n0 T' h' k n → OL n0 h' (L.set i (a, OA Z .int (vs.set jn x))) → OE p e R below s n0 Q T' (mkF m pc' Ls st)) : OE p e R below s n0 Q T (mkF m pc Ls (.int x :: .int j :: .ref a :: st)) := by
  obtain ⟨hx, hZ, hown, hby, hmx, hret, hnm, hlk, hn0, hT, locs, S, N0⟩ := X; subst hp
  obtain ⟨h1, c', h2, A⟩ := H.get hi
  obtain ⟨q1, q2⟩ := o_idx hj (N := c'.slots.size) (by rw [A.size]; exact hlt)
  obtain ⟨T', h', S', hT', W, stp⟩ := stI S hx hZ hT ⟨h2, A.1, A.2.1⟩ q1 (x := x) (g := mkF m pc Ls (.int x :: .int j :: .ref a :: st)) rfl rfl (hb hby hd)
  rw [q2] at W S'
  exact OE.by stp (K T' h' ⟨hx, hZ, hown, hby, hmx, hret, hnm, hlk, hn0, hT', _, S', N0.app fun z hz => by cases List.mem_singleton.mp hz; exact h1⟩ (H.wr hi W fun c _ B => B.set rfl))
theorem o_bastoreB (X : OW p l e R s m args below meth c Z y bytes mx ret n0 T h k n) (H : OL n0 h L) (i : Nat) (hi : L[i]? = some (a, OA Z .byte vs)) (hd : decode bytes pc = .ok (.bastore, 1)) {j x : Int32} (jn : Nat) (hj : j.toInt = jn) (hlt : jn < vs.length) (v : Int32) (hv : x.toInt8.toInt32 = v) (pc' : Nat) (hp : pc + 1 = pc')
    (K : ∀ T' h', OW p l e R s m args below meth c Z y bytes mx ret n0 T' h' k n → OL n0 h' (L.set i (a, OA Z .byte (vs.set jn v))) → OE p e R below s n0 Q T' (mkF m pc' Ls st)) : OE p e R below s n0 Q T (mkF m pc Ls (.int x :: .int j :: .ref a :: st)) := by
  obtain ⟨hx, hZ, hown, hby, hmx, hret, hnm, hlk, hn0, hT, locs, S, N0⟩ := X; subst hp hv
  obtain ⟨h1, c', h2, A⟩ := H.get hi
  obtain ⟨q1, q2⟩ := o_idx hj (N := c'.slots.size) (by rw [A.size]; exact hlt)
  obtain ⟨T', h', S', hT', W, stp⟩ := stB S hx hZ hT ⟨h2, A.1, A.2.1⟩ q1 (x := x) (g := mkF m pc Ls (.int x :: .int j :: .ref a :: st)) rfl rfl (hb hby hd)
  rw [q2] at W S'
  exact OE.by stp (K T' h' ⟨hx, hZ, hown, hby, hmx, hret, hnm, hlk, hn0, hT', _, S', N0.app fun z hz => by cases List.mem_singleton.mp hz; exact h1⟩ (H.wr hi W fun c _ B => B.set (fits_nar_byte x)))
theorem o_bastoreZ (X : OW p l e R s m args below meth c Z y bytes mx ret n0 T h k n) (H : OL n0 h L) (i : Nat) (hi : L[i]? = some (a, OA Z .boolean vs)) (hd : decode bytes pc = .ok (.bastore, 1)) {j x : Int32} (jn : Nat) (hj : j.toInt = jn) (hlt : jn < vs.length) (v : Int32) (hv : nar .boolean x = v) (pc' : Nat) (hp : pc + 1 = pc')
    (K : ∀ T' h', OW p l e R s m args below meth c Z y bytes mx ret n0 T' h' k n → OL n0 h' (L.set i (a, OA Z .boolean (vs.set jn v))) → OE p e R below s n0 Q T' (mkF m pc' Ls st)) : OE p e R below s n0 Q T (mkF m pc Ls (.int x :: .int j :: .ref a :: st)) := by
  obtain ⟨hx, hZ, hown, hby, hmx, hret, hnm, hlk, hn0, hT, locs, S, N0⟩ := X; subst hp hv
  obtain ⟨h1, c', h2, A⟩ := H.get hi
  obtain ⟨q1, q2⟩ := o_idx hj (N := c'.slots.size) (by rw [A.size]; exact hlt)
  obtain ⟨T', h', S', hT', W, stp⟩ := stZ S hx hZ hT ⟨h2, A.1, A.2.1⟩ q1 (x := x) (g := mkF m pc Ls (.int x :: .int j :: .ref a :: st)) rfl rfl (hb hby hd)
  rw [q2] at W S'
  exact OE.by stp (K T' h' ⟨hx, hZ, hown, hby, hmx, hret, hnm, hlk, hn0, hT', _, S', N0.app fun z hz => by cases List.mem_singleton.mp hz; exact h1⟩ (H.wr hi W fun c _ B => B.set (fits_nar_bool x)))
theorem o_b8 (x : Int32) : x.toInt8.toInt32.toInt8.toInt32 = x.toInt8.toInt32 := by simp
/-! contracts and calls -/
def OC (l : Launch) (Z : State) (y : MethodName) (bytes : ByteArray) (mx : Nat) (ret : Option FieldType) (ws : List Jvm.Cond) (rm : Room) (n0 : Nat) (as' : Array Value) (h0 : Heap) (Q : Option Value → Heap → Prop) : Prop :=
  MetFree l y (head1 (Jvm.Cond.code y bytes mx ret :: ws) rm) (fun a U => a = as' ∧ Z.Warmed39 U.vm ∧ U.heap = h0) (fun _ _ _ _ _ => True) (fun _ U o U' => ∃ v L, o = .returned v ∧ (Q v U'.heap ∧ Fr n0 L) ∧ FrameEnd U o U' L rm.cells rm.slots)
theorem OC.of {ws : List Jvm.Cond} {rm : Room} {as' : Array Value} {h0 : Heap} (hp : plainName y.cls = true) (hn : n0 ≤ h0.size) (Ls : Array Slot) (hef : ∀ m : MethodId, entryFrame m as' mx = mkF m 0 Ls [])
    (B : ∀ p e s m below meth c T, OW p l e rm s m as' below meth c Z y bytes mx ret n0 T h0 0 0 → ∀ Q' : Option Value → Heap → Prop, (∀ r h, Q r h → Q' r h) → OE p e rm below s n0 Q' T (mkF m 0 Ls [])) : OC l Z y bytes mx ret ws rm n0 as' h0 Q := by
  refine MetFree.of_bodySF (plainFor_of_name hp) hisR ?_
  intro p e s m args below meth c s₁ Bd hml0 hP hK
  obtain ⟨rfl, hZ, hh⟩ := hP
  have hnm := (name_of_methodNamed Bd.named Bd.method).1
  have X0 : Stand p l e rm s m args below meth c s₁ [] 0 0 := Stand.of_body Bd
  have e0 : s₁.heap = h0 := by rw [← hh, Bd.state]; rfl
  rw [hef m]
  exact B p e s m below meth c s₁ ⟨Bd.exec, hZ, findClass_of_methodNamed Bd.named, Bd.bytes, hml0, Bd.returns, hnm, Bd.notSynchronized, by rw [hh]; exact hn, e0, [], X0, Fr.nil n0⟩ Q (fun _ _ q => q)
theorem o_callS (X : OW p l e R s m args below meth c Z y bytes mx ret n0 T h k n) {i : Nat} (hd : decode bytes pc = .ok (.invokestatic i, 3)) {y' : MethodName} {bytes' : ByteArray} {mx' : Nat} {ret' : Option FieldType} {rm : Room} {as' : Array Value} {Q' : Option Value → Heap → Prop} (C : OC l Z y' bytes' mx' ret' [] rm n0 as' h Q')
    (w1 : (Cond.methodLink y.cls i y').before a0 Z = true) (w2 : (Cond.static y').before a0 Z = true) (w3 : (Cond.initialized y'.cls).before a0 Z = true) (w4 : (Cond.code y' bytes' mx' ret').before a0 Z = true) (hy : y'.cls ≠ "java/lang/invoke/MethodHandle" ∧ y'.cls ≠ "java/lang/invoke/VarHandle")
    (Wd : Nat) (hf : rm.frames + 1 ≤ R.frames) (hlo : Wd + (mx' + 11) + rm.locals ≤ R.locals) (hls : Ls.size = mx) (argsL : List Value) (has : as' = argsL.toArray) {ps : List FieldType} {r' : Option FieldType} (hpd : parseMethodDescriptor y'.desc = some ⟨ps, r'⟩) (hlen : argsL.length = ps.length) (hst : st = argsL.reverse ++ rest) (hW : (rest.map fun v => v.category).sum ≤ Wd) (k2 n2 : Nat) (hk2 : k + rm.cells = k2) (hn2 : n + rm.slots = n2) (hk : k2 ≤ R.cells) (hn : n2 ≤ R.slots) (pc' : Nat) (hp : pc + 3 = pc')
    (K : ∀ v T' h', OW p l e R s m args below meth c Z y bytes mx ret n0 T' h' k2 n2 → Q' v h' → OE p e R below s n0 Q T' (mkF m pc' Ls (v.toList ++ rest))) : OE p e R below s n0 Q T (mkF m pc Ls st) := by
  obtain ⟨hx, hZ, hown, hby, hmx, hret, hnm, hlk, hn0, hT, locs, S, N0⟩ := X; subst hp has hk2 hn2
  obtain ⟨v, _, ⟨T2, L2, k2, n2⟩, -, X2, ⟨Lc, hQ, l2, y2, z2⟩, stp⟩ := Jvm.LawKit.callS S hx (y := y') hown (mvT hZ w1) (mvT hZ w2) (mvT hZ w3) (mvT hZ w4) hy (backOf (W := Wd) (Q := fun v hh LL => Q' v hh ∧ Fr n0 LL) C hZ w4 w3 hf hlo) (g := mkF m pc Ls st) rfl (by rw [hmx]; exact hls) (argsL := argsL) (rest := rest) (lenOf hpd hlen) hst (by show 2 * 0 + _ ≤ _; omega) (hb hby hd) (fun _ _ => ⟨rfl, hT, hk, hn⟩)
  dsimp only [Pt.U, Pt.locs, Pt.cells, Pt.slots] at X2 l2 y2 z2 stp hQ
  subst l2 y2 z2
  exact OE.by stp (K v T2 T2.heap ⟨hx, hZ, hown, hby, hmx, hret, hnm, hlk, hn0, rfl, _, X2, N0.app hQ.2⟩ hQ.1)
end OwnKit
theorem d1_0 : decode method_4_code 0 = .ok (.aload_n 0, 1) := by decide +kernel
theorem d1_1 : decode method_4_code 1 = .ok (.arraylength, 1) := by decide +kernel
theorem d1_2 : decode method_4_code 2 = .ok (.ifCond .le 11, 3) := by decide +kernel
theorem d1_5 : decode method_4_code 5 = .ok (.aload_n 0, 1) := by decide +kernel
theorem d1_6 : decode method_4_code 6 = .ok (.iconst 0, 1) := by decide +kernel
theorem d1_7 : decode method_4_code 7 = .ok (.iload_n 1, 1) := by decide +kernel
theorem d1_8 : decode method_4_code 8 = .ok (.iconst 0, 1) := by decide +kernel
theorem d1_9 : decode method_4_code 9 = .ok (.invokestatic 7, 3) := by decide +kernel
theorem d1_12 : decode method_4_code 12 = .ok (.bastore, 1) := by decide +kernel
theorem d1_13 : decode method_4_code 13 = .ok (.aload_n 0, 1) := by decide +kernel
theorem d1_14 : decode method_4_code 14 = .ok (.arraylength, 1) := by decide +kernel
theorem d1_15 : decode method_4_code 15 = .ok (.iconst 1, 1) := by decide +kernel
theorem d1_16 : decode method_4_code 16 = .ok (.if_icmp .le 11, 3) := by decide +kernel
theorem d1_19 : decode method_4_code 19 = .ok (.aload_n 0, 1) := by decide +kernel
theorem d1_20 : decode method_4_code 20 = .ok (.iconst 1, 1) := by decide +kernel
theorem d1_21 : decode method_4_code 21 = .ok (.iload_n 1, 1) := by decide +kernel
theorem d1_22 : decode method_4_code 22 = .ok (.iconst 1, 1) := by decide +kernel
theorem d1_23 : decode method_4_code 23 = .ok (.invokestatic 7, 3) := by decide +kernel
theorem d1_26 : decode method_4_code 26 = .ok (.bastore, 1) := by decide +kernel
theorem d1_27 : decode method_4_code 27 = .ok (.aload_n 0, 1) := by decide +kernel
theorem d1_28 : decode method_4_code 28 = .ok (.arraylength, 1) := by decide +kernel
theorem d1_29 : decode method_4_code 29 = .ok (.iconst 2, 1) := by decide +kernel
theorem d1_30 : decode method_4_code 30 = .ok (.if_icmp .le 11, 3) := by decide +kernel
theorem d1_33 : decode method_4_code 33 = .ok (.aload_n 0, 1) := by decide +kernel
theorem d1_34 : decode method_4_code 34 = .ok (.iconst 2, 1) := by decide +kernel
theorem d1_35 : decode method_4_code 35 = .ok (.iload_n 1, 1) := by decide +kernel
theorem d1_36 : decode method_4_code 36 = .ok (.iconst 2, 1) := by decide +kernel
theorem d1_37 : decode method_4_code 37 = .ok (.invokestatic 7, 3) := by decide +kernel
theorem d1_40 : decode method_4_code 40 = .ok (.bastore, 1) := by decide +kernel
theorem d1_41 : decode method_4_code 41 = .ok (.aload_n 0, 1) := by decide +kernel
theorem d1_42 : decode method_4_code 42 = .ok (.arraylength, 1) := by decide +kernel
theorem d1_43 : decode method_4_code 43 = .ok (.iconst 3, 1) := by decide +kernel
theorem d1_44 : decode method_4_code 44 = .ok (.if_icmp .le 11, 3) := by decide +kernel
theorem d1_47 : decode method_4_code 47 = .ok (.aload_n 0, 1) := by decide +kernel
theorem d1_48 : decode method_4_code 48 = .ok (.iconst 3, 1) := by decide +kernel
theorem d1_49 : decode method_4_code 49 = .ok (.iload_n 1, 1) := by decide +kernel
theorem d1_50 : decode method_4_code 50 = .ok (.iconst 3, 1) := by decide +kernel
theorem d1_51 : decode method_4_code 51 = .ok (.invokestatic 7, 3) := by decide +kernel
theorem d1_54 : decode method_4_code 54 = .ok (.bastore, 1) := by decide +kernel
theorem d1_55 : decode method_4_code 55 = .ok (.aload_n 0, 1) := by decide +kernel
theorem d1_56 : decode method_4_code 56 = .ok (.arraylength, 1) := by decide +kernel
theorem d1_57 : decode method_4_code 57 = .ok (.iconst 4, 1) := by decide +kernel
theorem d1_58 : decode method_4_code 58 = .ok (.if_icmp .le 11, 3) := by decide +kernel
theorem d1_61 : decode method_4_code 61 = .ok (.aload_n 0, 1) := by decide +kernel
theorem d1_62 : decode method_4_code 62 = .ok (.iconst 4, 1) := by decide +kernel
theorem d1_63 : decode method_4_code 63 = .ok (.iload_n 1, 1) := by decide +kernel
theorem d1_64 : decode method_4_code 64 = .ok (.iconst 4, 1) := by decide +kernel
theorem d1_65 : decode method_4_code 65 = .ok (.invokestatic 7, 3) := by decide +kernel
theorem d1_68 : decode method_4_code 68 = .ok (.bastore, 1) := by decide +kernel
theorem d1_69 : decode method_4_code 69 = .ok (.aload_n 0, 1) := by decide +kernel
theorem d1_70 : decode method_4_code 70 = .ok (.arraylength, 1) := by decide +kernel
theorem d1_71 : decode method_4_code 71 = .ok (.iconst 5, 1) := by decide +kernel
theorem d1_72 : decode method_4_code 72 = .ok (.if_icmp .le 11, 3) := by decide +kernel
theorem d1_75 : decode method_4_code 75 = .ok (.aload_n 0, 1) := by decide +kernel
theorem d1_76 : decode method_4_code 76 = .ok (.iconst 5, 1) := by decide +kernel
theorem d1_77 : decode method_4_code 77 = .ok (.iload_n 1, 1) := by decide +kernel
theorem d1_78 : decode method_4_code 78 = .ok (.iconst 5, 1) := by decide +kernel
theorem d1_79 : decode method_4_code 79 = .ok (.invokestatic 7, 3) := by decide +kernel
theorem d1_82 : decode method_4_code 82 = .ok (.bastore, 1) := by decide +kernel
theorem d1_83 : decode method_4_code 83 = .ok (.aload_n 0, 1) := by decide +kernel
theorem d1_84 : decode method_4_code 84 = .ok (.arraylength, 1) := by decide +kernel
theorem d1_85 : decode method_4_code 85 = .ok (.bipush 6, 2) := by decide +kernel
theorem d1_87 : decode method_4_code 87 = .ok (.if_icmp .le 13, 3) := by decide +kernel
theorem d1_90 : decode method_4_code 90 = .ok (.aload_n 0, 1) := by decide +kernel
theorem d1_91 : decode method_4_code 91 = .ok (.bipush 6, 2) := by decide +kernel
theorem d1_93 : decode method_4_code 93 = .ok (.iload_n 1, 1) := by decide +kernel
theorem d1_94 : decode method_4_code 94 = .ok (.bipush 6, 2) := by decide +kernel
theorem d1_96 : decode method_4_code 96 = .ok (.invokestatic 7, 3) := by decide +kernel
theorem d1_99 : decode method_4_code 99 = .ok (.bastore, 1) := by decide +kernel
theorem d1_100 : decode method_4_code 100 = .ok (.return_, 1) := by decide +kernel
theorem d2_0 : decode prog_27_method_3_code 0 = .ok (.aload_n 0, 1) := by decide +kernel
theorem d2_1 : decode prog_27_method_3_code 1 = .ok (.arraylength, 1) := by decide +kernel
theorem d2_2 : decode prog_27_method_3_code 2 = .ok (.newarray .boolean, 2) := by decide +kernel
theorem d2_4 : decode prog_27_method_3_code 4 = .ok (.astore_n 2, 1) := by decide +kernel
theorem d2_5 : decode prog_27_method_3_code 5 = .ok (.iconst 0, 1) := by decide +kernel
theorem d2_6 : decode prog_27_method_3_code 6 = .ok (.istore_n 3, 1) := by decide +kernel
theorem d2_7 : decode prog_27_method_3_code 7 = .ok (.iload_n 3, 1) := by decide +kernel
theorem d2_8 : decode prog_27_method_3_code 8 = .ok (.aload_n 2, 1) := by decide +kernel
theorem d2_9 : decode prog_27_method_3_code 9 = .ok (.arraylength, 1) := by decide +kernel
theorem d2_10 : decode prog_27_method_3_code 10 = .ok (.if_icmp .ge 27, 3) := by decide +kernel
theorem d2_13 : decode prog_27_method_3_code 13 = .ok (.aload_n 2, 1) := by decide +kernel
theorem d2_14 : decode prog_27_method_3_code 14 = .ok (.iload_n 3, 1) := by decide +kernel
theorem d2_15 : decode prog_27_method_3_code 15 = .ok (.iload_n 3, 1) := by decide +kernel
theorem d2_16 : decode prog_27_method_3_code 16 = .ok (.iconst 2, 1) := by decide +kernel
theorem d2_17 : decode prog_27_method_3_code 17 = .ok (.irem, 1) := by decide +kernel
theorem d2_18 : decode prog_27_method_3_code 18 = .ok (.ifCond .ne 9, 3) := by decide +kernel
theorem d2_21 : decode prog_27_method_3_code 21 = .ok (.aload_n 0, 1) := by decide +kernel
theorem d2_22 : decode prog_27_method_3_code 22 = .ok (.iload_n 3, 1) := by decide +kernel
theorem d2_23 : decode prog_27_method_3_code 23 = .ok (.baload, 1) := by decide +kernel
theorem d2_24 : decode prog_27_method_3_code 24 = .ok (.goto 6, 3) := by decide +kernel
theorem d2_27 : decode prog_27_method_3_code 27 = .ok (.aload_n 1, 1) := by decide +kernel
theorem d2_28 : decode prog_27_method_3_code 28 = .ok (.iload_n 3, 1) := by decide +kernel
theorem d2_29 : decode prog_27_method_3_code 29 = .ok (.baload, 1) := by decide +kernel
theorem d2_30 : decode prog_27_method_3_code 30 = .ok (.bastore, 1) := by decide +kernel
theorem d2_31 : decode prog_27_method_3_code 31 = .ok (.iinc 3 1, 3) := by decide +kernel
theorem d2_34 : decode prog_27_method_3_code 34 = .ok (.goto (-27), 3) := by decide +kernel
theorem d2_37 : decode prog_27_method_3_code 37 = .ok (.aload_n 2, 1) := by decide +kernel
theorem d2_38 : decode prog_27_method_3_code 38 = .ok (.areturn, 1) := by decide +kernel
theorem d3_0 : decode method_2_code 0 = .ok (.iload_n 0, 1) := by decide +kernel
theorem d3_1 : decode method_2_code 1 = .ok (.iload_n 1, 1) := by decide +kernel
theorem d3_2 : decode method_2_code 2 = .ok (.iushr, 1) := by decide +kernel
theorem d3_3 : decode method_2_code 3 = .ok (.iconst 1, 1) := by decide +kernel
theorem d3_4 : decode method_2_code 4 = .ok (.iand, 1) := by decide +kernel
theorem d3_5 : decode method_2_code 5 = .ok (.ifCond .eq 7, 3) := by decide +kernel
theorem d3_8 : decode method_2_code 8 = .ok (.iconst 1, 1) := by decide +kernel
theorem d3_9 : decode method_2_code 9 = .ok (.goto 4, 3) := by decide +kernel
theorem d3_12 : decode method_2_code 12 = .ok (.iconst 0, 1) := by decide +kernel
theorem d3_13 : decode method_2_code 13 = .ok (.ireturn, 1) := by decide +kernel
theorem d4_0 : decode method_3_code 0 = .ok (.iload_n 1, 1) := by decide +kernel
theorem d4_1 : decode method_3_code 1 = .ok (.aload_n 0, 1) := by decide +kernel
theorem d4_2 : decode method_3_code 2 = .ok (.arraylength, 1) := by decide +kernel
theorem d4_3 : decode method_3_code 3 = .ok (.if_icmp .ge 10, 3) := by decide +kernel
theorem d4_6 : decode method_3_code 6 = .ok (.aload_n 0, 1) := by decide +kernel
theorem d4_7 : decode method_3_code 7 = .ok (.iload_n 1, 1) := by decide +kernel
theorem d4_8 : decode method_3_code 8 = .ok (.baload, 1) := by decide +kernel
theorem d4_9 : decode method_3_code 9 = .ok (.iload_n 2, 1) := by decide +kernel
theorem d4_10 : decode method_3_code 10 = .ok (.if_icmp .ne 7, 3) := by decide +kernel
theorem d4_13 : decode method_3_code 13 = .ok (.iconst 1, 1) := by decide +kernel
theorem d4_14 : decode method_3_code 14 = .ok (.goto 4, 3) := by decide +kernel
theorem d4_17 : decode method_3_code 17 = .ok (.iconst 0, 1) := by decide +kernel
theorem d4_18 : decode method_3_code 18 = .ok (.ireturn, 1) := by decide +kernel
theorem d5_0 : decode method_5_code 0 = .ok (.aload_n 0, 1) := by decide +kernel
theorem d5_1 : decode method_5_code 1 = .ok (.iconst 0, 1) := by decide +kernel
theorem d5_2 : decode method_5_code 2 = .ok (.iload_n 1, 1) := by decide +kernel
theorem d5_3 : decode method_5_code 3 = .ok (.iconst 0, 1) := by decide +kernel
theorem d5_4 : decode method_5_code 4 = .ok (.invokestatic 7, 3) := by decide +kernel
theorem d5_7 : decode method_5_code 7 = .ok (.invokestatic 13, 3) := by decide +kernel
theorem d5_10 : decode method_5_code 10 = .ok (.ifCond .eq 87, 3) := by decide +kernel
theorem d5_13 : decode method_5_code 13 = .ok (.aload_n 0, 1) := by decide +kernel
theorem d5_14 : decode method_5_code 14 = .ok (.iconst 1, 1) := by decide +kernel
theorem d5_15 : decode method_5_code 15 = .ok (.iload_n 1, 1) := by decide +kernel
theorem d5_16 : decode method_5_code 16 = .ok (.iconst 1, 1) := by decide +kernel
theorem d5_17 : decode method_5_code 17 = .ok (.invokestatic 7, 3) := by decide +kernel
theorem d5_20 : decode method_5_code 20 = .ok (.invokestatic 13, 3) := by decide +kernel
theorem d5_23 : decode method_5_code 23 = .ok (.ifCond .eq 74, 3) := by decide +kernel
theorem d5_26 : decode method_5_code 26 = .ok (.aload_n 0, 1) := by decide +kernel
theorem d5_27 : decode method_5_code 27 = .ok (.iconst 2, 1) := by decide +kernel
theorem d5_28 : decode method_5_code 28 = .ok (.iload_n 1, 1) := by decide +kernel
theorem d5_29 : decode method_5_code 29 = .ok (.iconst 2, 1) := by decide +kernel
theorem d5_30 : decode method_5_code 30 = .ok (.invokestatic 7, 3) := by decide +kernel
theorem d5_33 : decode method_5_code 33 = .ok (.invokestatic 13, 3) := by decide +kernel
theorem d5_36 : decode method_5_code 36 = .ok (.ifCond .eq 61, 3) := by decide +kernel
theorem d5_39 : decode method_5_code 39 = .ok (.aload_n 0, 1) := by decide +kernel
theorem d5_40 : decode method_5_code 40 = .ok (.iconst 3, 1) := by decide +kernel
theorem d5_41 : decode method_5_code 41 = .ok (.iload_n 1, 1) := by decide +kernel
theorem d5_42 : decode method_5_code 42 = .ok (.iconst 3, 1) := by decide +kernel
theorem d5_43 : decode method_5_code 43 = .ok (.invokestatic 7, 3) := by decide +kernel
theorem d5_46 : decode method_5_code 46 = .ok (.invokestatic 13, 3) := by decide +kernel
theorem d5_49 : decode method_5_code 49 = .ok (.ifCond .eq 48, 3) := by decide +kernel
theorem d5_52 : decode method_5_code 52 = .ok (.aload_n 0, 1) := by decide +kernel
theorem d5_53 : decode method_5_code 53 = .ok (.iconst 4, 1) := by decide +kernel
theorem d5_54 : decode method_5_code 54 = .ok (.iload_n 1, 1) := by decide +kernel
theorem d5_55 : decode method_5_code 55 = .ok (.iconst 4, 1) := by decide +kernel
theorem d5_56 : decode method_5_code 56 = .ok (.invokestatic 7, 3) := by decide +kernel
theorem d5_59 : decode method_5_code 59 = .ok (.invokestatic 13, 3) := by decide +kernel
theorem d5_62 : decode method_5_code 62 = .ok (.ifCond .eq 35, 3) := by decide +kernel
theorem d5_65 : decode method_5_code 65 = .ok (.aload_n 0, 1) := by decide +kernel
theorem d5_66 : decode method_5_code 66 = .ok (.iconst 5, 1) := by decide +kernel
theorem d5_67 : decode method_5_code 67 = .ok (.iload_n 1, 1) := by decide +kernel
theorem d5_68 : decode method_5_code 68 = .ok (.iconst 5, 1) := by decide +kernel
theorem d5_69 : decode method_5_code 69 = .ok (.invokestatic 7, 3) := by decide +kernel
theorem d5_72 : decode method_5_code 72 = .ok (.invokestatic 13, 3) := by decide +kernel
theorem d5_75 : decode method_5_code 75 = .ok (.ifCond .eq 22, 3) := by decide +kernel
theorem d5_78 : decode method_5_code 78 = .ok (.aload_n 0, 1) := by decide +kernel
theorem d5_79 : decode method_5_code 79 = .ok (.bipush 6, 2) := by decide +kernel
theorem d5_81 : decode method_5_code 81 = .ok (.iload_n 1, 1) := by decide +kernel
theorem d5_82 : decode method_5_code 82 = .ok (.bipush 6, 2) := by decide +kernel
theorem d5_84 : decode method_5_code 84 = .ok (.invokestatic 7, 3) := by decide +kernel
theorem d5_87 : decode method_5_code 87 = .ok (.invokestatic 13, 3) := by decide +kernel
theorem d5_90 : decode method_5_code 90 = .ok (.ifCond .eq 7, 3) := by decide +kernel
theorem d5_93 : decode method_5_code 93 = .ok (.iconst 1, 1) := by decide +kernel
theorem d5_94 : decode method_5_code 94 = .ok (.goto 4, 3) := by decide +kernel
theorem d5_97 : decode method_5_code 97 = .ok (.iconst 0, 1) := by decide +kernel
theorem d5_98 : decode method_5_code 98 = .ok (.ireturn, 1) := by decide +kernel
theorem pn_0 : plainName "com/example/eratosthenes/eratosthenes/tune/GeneticSearchCombPinLaw" = true := by first | (simp [plainName, overriddenIn]; done) | decide +kernel
theorem pn_1 : plainName "com/example/eratosthenes/eratosthenes/tune/GeneticSearch" = true := by first | (simp [plainName, overriddenIn]; done) | decide +kernel
theorem pd_1 : parseMethodDescriptor "([ZI)V" = some ⟨[(.array .boolean), .int], none⟩ := by decide +kernel
theorem pd_2 : parseMethodDescriptor "([Z[Z)[Z" = some ⟨[(.array .boolean), (.array .boolean)], (some (.array .boolean))⟩ := by decide +kernel
theorem pd_3 : parseMethodDescriptor "(II)Z" = some ⟨[.int, .int], (some .boolean)⟩ := by decide +kernel
theorem pd_4 : parseMethodDescriptor "([ZIZ)Z" = some ⟨[(.array .boolean), .int, .boolean], (some .boolean)⟩ := by decide +kernel
theorem pd_5 : parseMethodDescriptor "([ZI)Z" = some ⟨[(.array .boolean), .int], (some .boolean)⟩ := by decide +kernel
def f_bit (v i : Int32) : Int32 := if (XT.ushr v i) &&& 1 = 0 then 0 else 1
theorem v_nar (v i : Int32) : nar .boolean (f_bit v i) = f_bit v i := by unfold f_bit; split <;> rfl
theorem v_n (x : Int32) : x &&& 7 = 0 ∨ x &&& 7 = 1 ∨ x &&& 7 = 2 ∨ x &&& 7 = 3 ∨ x &&& 7 = 4 ∨ x &&& 7 = 5 ∨ x &&& 7 = 6 ∨ x &&& 7 = 7 := by
  have := Jvm.Kit.i32_mask x 7 (k := 3) (by decide) (by decide)
  simp only [← Int32.toInt_inj, Int32.reduceToInt]; omega
set_option maxRecDepth 65536 in
set_option maxHeartbeats 40000000 in
theorem c_bit (l : Launch) (Z : State) (a0 : Array Value) (hw : ∀ d ∈ tables_1, d.before a0 Z = true) (ws : List Jvm.Cond) (n0 : Nat) (h0 : Heap) (hn0 : n0 ≤ h0.size) (xv : Int32) (xi : Int32) :
    OC l Z (⟨"com/example/eratosthenes/eratosthenes/tune/GeneticSearchCombPinLaw", "bit", "(II)Z"⟩ : MethodName) method_2_code 2 (some .boolean) ws ({ frames := 0, cells := 0, slots := 0, locals := 0 } : Room) n0 #[(.int xv), (.int xi)] h0 (fun r h => r = some (.int (f_bit xv xi)) ∧ h0 = h) := by
  refine OC.of pn_0 hn0 #[.val (.int xv), .val (.int xi)] (fun m => by first | (simp [entryFrame, mkF, argsToLocals, Value.category, maxLocals]; done) | rfl) ?_
  intro p e s m below meth cd0 T0 X0 Q' hQ
  refine o_iloadN X0 d3_0 rfl 1 rfl ?_
  refine o_iloadN X0 d3_1 rfl 2 rfl ?_
  refine o_iushr X0 d3_2 3 rfl ?_
  refine o_iconst (v := (1 : Int32)) X0 d3_3 rfl 4 rfl ?_
  refine o_iand X0 d3_4 5 rfl ?_
  refine o_ifEq X0 d3_5 12 8 (by decide) (by decide) rfl ?_ ?_
  · intro hc5
    refine o_iconst (v := (0 : Int32)) X0 d3_12 rfl 13 rfl ?_
    exact o_retZ X0 d3_13 (by decide) (by decide) (hQ _ _ ⟨by show some (Value.int (0 : Int32)) = some (Value.int (f_bit xv xi)); simp [f_bit, hc5], rfl⟩)
  · intro hc5
    refine o_iconst (v := (1 : Int32)) X0 d3_8 rfl 9 rfl ?_
    refine o_goto X0 d3_9 13 (by decide) (by decide) ?_
    exact o_retZ X0 d3_13 (by decide) (by decide) (hQ _ _ ⟨by show some (Value.int (1 : Int32)) = some (Value.int (f_bit xv xi)); simp [f_bit, hc5], rfl⟩)
theorem v_lt {xi : Int32} {i N : Nat} (hi : xi.toInt = i) (h : N ≤ i) : ¬ xi < Int32.ofNat N := by
  have := Int32.toInt_lt xi
  rw [Int32.lt_iff_toInt_lt, Int32.toInt_ofNat_of_lt (by omega)]; omega
set_option maxRecDepth 65536 in
set_option maxHeartbeats 40000000 in
theorem c_at (l : Launch) (Z : State) (a0 : Array Value) (hw : ∀ d ∈ tables_1, d.before a0 Z = true) (ws : List Jvm.Cond) (n0 : Nat) (h0 : Heap) (hn0 : n0 ≤ h0.size) (xa : Addr) (xi xw : Int32) (vs : List Int32) (L' : List (Addr × (Cell → Prop))) (H0 : OL n0 h0 ((xa, OA Z .boolean vs) :: L')) (i : Nat) (hi : xi.toInt = i) (h : vs.length ≤ i ∨ vs[i]? = some xw) :
    OC l Z (⟨"com/example/eratosthenes/eratosthenes/tune/GeneticSearchCombPinLaw", "at", "([ZIZ)Z"⟩ : MethodName) method_3_code 3 (some .boolean) ws ({ frames := 0, cells := 0, slots := 0, locals := 0 } : Room) n0 #[(.ref xa), (.int xi), (.int xw)] h0 (fun r h => r = some (.int 1) ∧ h0 = h) := by
  refine OC.of pn_0 hn0 #[.val (.ref xa), .val (.int xi), .val (.int xw)] (fun m => by first | (simp [entryFrame, mkF, argsToLocals, Value.category, maxLocals]; done) | rfl) ?_
  intro p e s m below meth cd0 T0 X0 Q' hQ
  refine o_iloadN X0 d4_0 rfl 1 rfl ?_
  refine o_aloadN X0 d4_1 rfl rfl 2 rfl ?_
  refine o_arraylength X0 H0 0 rfl d4_2 (Int32.ofNat vs.length) rfl 3 rfl ?_
  refine o_icmpGe X0 d4_3 13 6 (by decide) (by decide) rfl ?_ ?_
  · intro hc3
    refine o_iconst (v := (1 : Int32)) X0 d4_13 rfl 14 rfl ?_
    refine o_goto X0 d4_14 18 (by decide) (by decide) ?_
    exact o_retZ X0 d4_18 (by decide) (by decide) (hQ _ _ ⟨rfl, rfl⟩)
  · intro hc3
    refine o_aloadN X0 d4_6 rfl rfl 7 rfl ?_
    refine o_iloadN X0 d4_7 rfl 8 rfl ?_
    refine o_baloadZ X0 H0 0 rfl d4_8 i hi xw (h.resolve_left (fun z => v_lt hi z hc3)) 9 rfl ?_
    refine o_iloadN X0 d4_9 rfl 10 rfl ?_
    refine o_icmpNe X0 d4_10 17 13 (by decide) (by decide) rfl (fun q => by exfalso; exact q rfl) ?_
    intro hc10
    refine o_iconst (v := (1 : Int32)) X0 d4_13 rfl 14 rfl ?_
    refine o_goto X0 d4_14 18 (by decide) (by decide) ?_
    exact o_retZ X0 d4_18 (by decide) (by decide) (hQ _ _ ⟨rfl, rfl⟩)
set_option maxRecDepth 65536 in
set_option maxHeartbeats 40000000 in
theorem c_fill0 (l : Launch) (Z : State) (a0 : Array Value) (hw : ∀ d ∈ tables_1, d.before a0 Z = true) (ws : List Jvm.Cond) (n0 : Nat) (h0 : Heap) (hn0 : n0 ≤ h0.size) (xa : Addr) (xv : Int32) (L' : List (Addr × (Cell → Prop))) (H0 : OL n0 h0 ((xa, OA Z .boolean []) :: L')) :
    OC l Z (⟨"com/example/eratosthenes/eratosthenes/tune/GeneticSearchCombPinLaw", "fill", "([ZI)V"⟩ : MethodName) method_4_code 2 none ws ({ frames := 1, cells := 0, slots := 0, locals := 15 } : Room) n0 #[(.ref xa), (.int xv)] h0 (fun r h => r = none ∧ OL n0 h ((xa, OA Z .boolean []) :: L')) := by
  refine OC.of pn_0 hn0 #[.val (.ref xa), .val (.int xv)] (fun m => by first | (simp [entryFrame, mkF, argsToLocals, Value.category, maxLocals]; done) | rfl) ?_
  intro p e s m below meth cd0 T0 X0 Q' hQ
  refine o_aloadN X0 d1_0 rfl rfl 1 rfl ?_
  refine o_arraylength X0 H0 0 rfl d1_1 (0 : Int32) rfl 2 rfl ?_
  refine o_ifLe X0 d1_2 13 5 (by decide) (by decide) rfl ?_ (fun q => by exfalso; exact absurd q (by decide))
  intro hc2
  refine o_aloadN X0 d1_13 rfl rfl 14 rfl ?_
  refine o_arraylength X0 H0 0 rfl d1_14 (0 : Int32) rfl 15 rfl ?_
  refine o_iconst (v := (1 : Int32)) X0 d1_15 rfl 16 rfl ?_
  refine o_icmpLe X0 d1_16 27 19 (by decide) (by decide) rfl ?_ (fun q => by exfalso; exact absurd q (by decide))
  intro hc16
  refine o_aloadN X0 d1_27 rfl rfl 28 rfl ?_
  refine o_arraylength X0 H0 0 rfl d1_28 (0 : Int32) rfl 29 rfl ?_
  refine o_iconst (v := (2 : Int32)) X0 d1_29 rfl 30 rfl ?_
  refine o_icmpLe X0 d1_30 41 33 (by decide) (by decide) rfl ?_ (fun q => by exfalso; exact absurd q (by decide))
  intro hc30
  refine o_aloadN X0 d1_41 rfl rfl 42 rfl ?_
  refine o_arraylength X0 H0 0 rfl d1_42 (0 : Int32) rfl 43 rfl ?_
  refine o_iconst (v := (3 : Int32)) X0 d1_43 rfl 44 rfl ?_
  refine o_icmpLe X0 d1_44 55 47 (by decide) (by decide) rfl ?_ (fun q => by exfalso; exact absurd q (by decide))
  intro hc44
  refine o_aloadN X0 d1_55 rfl rfl 56 rfl ?_
  refine o_arraylength X0 H0 0 rfl d1_56 (0 : Int32) rfl 57 rfl ?_
  refine o_iconst (v := (4 : Int32)) X0 d1_57 rfl 58 rfl ?_
  refine o_icmpLe X0 d1_58 69 61 (by decide) (by decide) rfl ?_ (fun q => by exfalso; exact absurd q (by decide))
  intro hc58
  refine o_aloadN X0 d1_69 rfl rfl 70 rfl ?_
  refine o_arraylength X0 H0 0 rfl d1_70 (0 : Int32) rfl 71 rfl ?_
  refine o_iconst (v := (5 : Int32)) X0 d1_71 rfl 72 rfl ?_
  refine o_icmpLe X0 d1_72 83 75 (by decide) (by decide) rfl ?_ (fun q => by exfalso; exact absurd q (by decide))
  intro hc72
  refine o_aloadN X0 d1_83 rfl rfl 84 rfl ?_
  refine o_arraylength X0 H0 0 rfl d1_84 (0 : Int32) rfl 85 rfl ?_
  refine o_bipush (v := (6 : Int32)) X0 d1_85 rfl 87 rfl ?_
  refine o_icmpLe X0 d1_87 100 90 (by decide) (by decide) rfl ?_ (fun q => by exfalso; exact absurd q (by decide))
  intro hc87
  exact o_ret X0 d1_100 (by decide) (by decide) (hQ _ _ ⟨rfl, H0⟩)
set_option maxRecDepth 65536 in
set_option maxHeartbeats 40000000 in
theorem c_comb0 (l : Launch) (Z : State) (a0 : Array Value) (hw : ∀ d ∈ tables_1, d.before a0 Z = true) (ws : List Jvm.Cond) (n0 : Nat) (h0 : Heap) (hn0 : n0 ≤ h0.size) (xa xb : Addr) (xx xy : Int32) (L' : List (Addr × (Cell → Prop))) (H0 : OL n0 h0 ((xa, OA Z .boolean []) :: (xb, OA Z .boolean []) :: L')) :
    OC l Z (⟨"com/example/eratosthenes/eratosthenes/tune/GeneticSearch", "comb", "([Z[Z)[Z"⟩ : MethodName) prog_27_method_3_code 4 (some (.array .boolean)) ws ({ frames := 0, cells := 1, slots := 0, locals := 0 } : Room) n0 #[(.ref xa), (.ref xb)] h0 (fun r h => ∃ a, r = some (.ref a) ∧ OL n0 h ((a, OA Z .boolean []) :: (xa, OA Z .boolean []) :: (xb, OA Z .boolean []) :: L')) := by
  refine OC.of pn_1 hn0 #[.val (.ref xa), .val (.ref xb), .unset, .unset] (fun m => by first | (simp [entryFrame, mkF, argsToLocals, Value.category, maxLocals]; done) | rfl) ?_
  intro p e s m below meth cd0 T0 X0 Q' hQ
  refine o_aloadN X0 d2_0 rfl rfl 1 rfl ?_
  refine o_arraylength X0 H0 0 rfl d2_1 (0 : Int32) rfl 2 rfl ?_
  refine o_newarray (L := ((xa, OA Z .boolean []) :: (xb, OA Z .boolean []) :: L')) X0 H0 d2_2 (hw _ (List.mem_of_getElem? (i := 0) rfl)) rfl rfl 0 0 rfl (by decide) (by decide) 1 0 rfl rfl (by decide) (by decide) 4 rfl ?_
  intro T1 h1 b1 X1 H1
  replace H1 : OL n0 h1 ((b1, OA Z .boolean []) :: (xa, OA Z .boolean []) :: (xb, OA Z .boolean []) :: L') := H1
  refine o_astoreN X1 d2_4 rfl #[.val (.ref xa), .val (.ref xb), .val (.ref b1), .unset] rfl 5 rfl ?_
  refine o_iconst (v := (0 : Int32)) X1 d2_5 rfl 6 rfl ?_
  refine o_istoreN X1 d2_6 #[.val (.ref xa), .val (.ref xb), .val (.ref b1), .val (.int (0 : Int32))] rfl 7 rfl ?_
  refine o_iloadN X1 d2_7 rfl 8 rfl ?_
  refine o_aloadN X1 d2_8 rfl rfl 9 rfl ?_
  refine o_arraylength X1 H1 0 rfl d2_9 (0 : Int32) rfl 10 rfl ?_
  refine o_icmpGe X1 d2_10 37 13 (by decide) (by decide) rfl ?_ (fun q => by exfalso; exact absurd q (by decide))
  intro hc10
  refine o_aloadN X1 d2_37 rfl rfl 38 rfl ?_
  exact o_retA X1 rfl rfl d2_38 (by decide) (by decide) (hQ _ _ ⟨_, rfl, H1⟩)
set_option maxRecDepth 65536 in
set_option maxHeartbeats 40000000 in
theorem c_same0 (l : Launch) (Z : State) (a0 : Array Value) (hw : ∀ d ∈ tables_1, d.before a0 Z = true) (ws : List Jvm.Cond) (n0 : Nat) (h0 : Heap) (hn0 : n0 ≤ h0.size) (xa : Addr) (xv : Int32) (L' : List (Addr × (Cell → Prop))) (H0 : OL n0 h0 ((xa, OA Z .boolean []) :: L')) :
    OC l Z (⟨"com/example/eratosthenes/eratosthenes/tune/GeneticSearchCombPinLaw", "same", "([ZI)Z"⟩ : MethodName) method_5_code 2 (some .boolean) ws ({ frames := 1, cells := 0, slots := 0, locals := 15 } : Room) n0 #[(.ref xa), (.int xv)] h0 (fun r h => r = some (.int 1) ∧ h0 = h) := by
  refine OC.of pn_0 hn0 #[.val (.ref xa), .val (.int xv)] (fun m => by first | (simp [entryFrame, mkF, argsToLocals, Value.category, maxLocals]; done) | rfl) ?_
  intro p e s m below meth cd0 T0 X0 Q' hQ
  refine o_aloadN X0 d5_0 rfl rfl 1 rfl ?_
  refine o_iconst (v := (0 : Int32)) X0 d5_1 rfl 2 rfl ?_
  refine o_iloadN X0 d5_2 rfl 3 rfl ?_
  refine o_iconst (v := (0 : Int32)) X0 d5_3 rfl 4 rfl ?_
  refine o_callS X0 d5_4 (rest := [(.int (0 : Int32)), (.ref xa)]) (c_bit l Z a0 hw [] n0 _ X0.size xv (0 : Int32) ) (hw _ (List.mem_of_getElem? (i := 9) rfl)) (hw _ (List.mem_of_getElem? (i := 10) rfl)) (hw _ (List.mem_of_getElem? (i := 3) rfl)) (hw _ (List.mem_of_getElem? (i := 11) rfl)) (by decide) 2 (by decide) (by decide) rfl [(.int xv), (.int (0 : Int32))] rfl pd_3 rfl rfl (Nat.le_of_eq rfl) 0 0 rfl rfl (by decide) (by decide) 7 rfl ?_
  rintro _ T1 _ X1 ⟨rfl, rfl⟩
  show OE p e ({ frames := 1, cells := 0, slots := 0, locals := 15 } : Room) below s n0 Q' T1 (mkF m 7 #[.val (.ref xa), .val (.int xv)] [(.int (f_bit xv (0 : Int32))), (.int (0 : Int32)), (.ref xa)])
  refine o_callS X1 d5_7 (rest := []) (c_at l Z a0 hw [] n0 _ X1.size xa (0 : Int32) (f_bit xv (0 : Int32)) [] L' H0 0 rfl (Or.inl (by show 0 ≤ 0; decide))) (hw _ (List.mem_of_getElem? (i := 12) rfl)) (hw _ (List.mem_of_getElem? (i := 13) rfl)) (hw _ (List.mem_of_getElem? (i := 3) rfl)) (hw _ (List.mem_of_getElem? (i := 14) rfl)) (by decide) 0 (by decide) (by decide) rfl [(.ref xa), (.int (0 : Int32)), (.int (f_bit xv (0 : Int32)))] rfl pd_4 rfl rfl (Nat.le_of_eq rfl) 0 0 rfl rfl (by decide) (by decide) 10 rfl ?_
  rintro _ T2 _ X2 ⟨rfl, rfl⟩
  show OE p e ({ frames := 1, cells := 0, slots := 0, locals := 15 } : Room) below s n0 Q' T2 (mkF m 10 #[.val (.ref xa), .val (.int xv)] [(.int (1 : Int32))])
  refine o_ifEq X2 d5_10 97 13 (by decide) (by decide) rfl (fun q => by exfalso; exact absurd q (by decide)) ?_
  intro hc10
  refine o_aloadN X2 d5_13 rfl rfl 14 rfl ?_
  refine o_iconst (v := (1 : Int32)) X2 d5_14 rfl 15 rfl ?_
  refine o_iloadN X2 d5_15 rfl 16 rfl ?_
  refine o_iconst (v := (1 : Int32)) X2 d5_16 rfl 17 rfl ?_
  refine o_callS X2 d5_17 (rest := [(.int (1 : Int32)), (.ref xa)]) (c_bit l Z a0 hw [] n0 _ X2.size xv (1 : Int32) ) (hw _ (List.mem_of_getElem? (i := 9) rfl)) (hw _ (List.mem_of_getElem? (i := 10) rfl)) (hw _ (List.mem_of_getElem? (i := 3) rfl)) (hw _ (List.mem_of_getElem? (i := 11) rfl)) (by decide) 2 (by decide) (by decide) rfl [(.int xv), (.int (1 : Int32))] rfl pd_3 rfl rfl (Nat.le_of_eq rfl) 0 0 rfl rfl (by decide) (by decide) 20 rfl ?_
  rintro _ T3 _ X3 ⟨rfl, rfl⟩
  show OE p e ({ frames := 1, cells := 0, slots := 0, locals := 15 } : Room) below s n0 Q' T3 (mkF m 20 #[.val (.ref xa), .val (.int xv)] [(.int (f_bit xv (1 : Int32))), (.int (1 : Int32)), (.ref xa)])
  refine o_callS X3 d5_20 (rest := []) (c_at l Z a0 hw [] n0 _ X3.size xa (1 : Int32) (f_bit xv (1 : Int32)) [] L' H0 1 rfl (Or.inl (by show 0 ≤ 1; decide))) (hw _ (List.mem_of_getElem? (i := 12) rfl)) (hw _ (List.mem_of_getElem? (i := 13) rfl)) (hw _ (List.mem_of_getElem? (i := 3) rfl)) (hw _ (List.mem_of_getElem? (i := 14) rfl)) (by decide) 0 (by decide) (by decide) rfl [(.ref xa), (.int (1 : Int32)), (.int (f_bit xv (1 : Int32)))] rfl pd_4 rfl rfl (Nat.le_of_eq rfl) 0 0 rfl rfl (by decide) (by decide) 23 rfl ?_
  rintro _ T4 _ X4 ⟨rfl, rfl⟩
  show OE p e ({ frames := 1, cells := 0, slots := 0, locals := 15 } : Room) below s n0 Q' T4 (mkF m 23 #[.val (.ref xa), .val (.int xv)] [(.int (1 : Int32))])
  refine o_ifEq X4 d5_23 97 26 (by decide) (by decide) rfl (fun q => by exfalso; exact absurd q (by decide)) ?_
  intro hc23
  refine o_aloadN X4 d5_26 rfl rfl 27 rfl ?_
  refine o_iconst (v := (2 : Int32)) X4 d5_27 rfl 28 rfl ?_
  refine o_iloadN X4 d5_28 rfl 29 rfl ?_
  refine o_iconst (v := (2 : Int32)) X4 d5_29 rfl 30 rfl ?_
  refine o_callS X4 d5_30 (rest := [(.int (2 : Int32)), (.ref xa)]) (c_bit l Z a0 hw [] n0 _ X4.size xv (2 : Int32) ) (hw _ (List.mem_of_getElem? (i := 9) rfl)) (hw _ (List.mem_of_getElem? (i := 10) rfl)) (hw _ (List.mem_of_getElem? (i := 3) rfl)) (hw _ (List.mem_of_getElem? (i := 11) rfl)) (by decide) 2 (by decide) (by decide) rfl [(.int xv), (.int (2 : Int32))] rfl pd_3 rfl rfl (Nat.le_of_eq rfl) 0 0 rfl rfl (by decide) (by decide) 33 rfl ?_
  rintro _ T5 _ X5 ⟨rfl, rfl⟩
  show OE p e ({ frames := 1, cells := 0, slots := 0, locals := 15 } : Room) below s n0 Q' T5 (mkF m 33 #[.val (.ref xa), .val (.int xv)] [(.int (f_bit xv (2 : Int32))), (.int (2 : Int32)), (.ref xa)])
  refine o_callS X5 d5_33 (rest := []) (c_at l Z a0 hw [] n0 _ X5.size xa (2 : Int32) (f_bit xv (2 : Int32)) [] L' H0 2 rfl (Or.inl (by show 0 ≤ 2; decide))) (hw _ (List.mem_of_getElem? (i := 12) rfl)) (hw _ (List.mem_of_getElem? (i := 13) rfl)) (hw _ (List.mem_of_getElem? (i := 3) rfl)) (hw _ (List.mem_of_getElem? (i := 14) rfl)) (by decide) 0 (by decide) (by decide) rfl [(.ref xa), (.int (2 : Int32)), (.int (f_bit xv (2 : Int32)))] rfl pd_4 rfl rfl (Nat.le_of_eq rfl) 0 0 rfl rfl (by decide) (by decide) 36 rfl ?_
  rintro _ T6 _ X6 ⟨rfl, rfl⟩
  show OE p e ({ frames := 1, cells := 0, slots := 0, locals := 15 } : Room) below s n0 Q' T6 (mkF m 36 #[.val (.ref xa), .val (.int xv)] [(.int (1 : Int32))])
  refine o_ifEq X6 d5_36 97 39 (by decide) (by decide) rfl (fun q => by exfalso; exact absurd q (by decide)) ?_
  intro hc36
  refine o_aloadN X6 d5_39 rfl rfl 40 rfl ?_
  refine o_iconst (v := (3 : Int32)) X6 d5_40 rfl 41 rfl ?_
  refine o_iloadN X6 d5_41 rfl 42 rfl ?_
  refine o_iconst (v := (3 : Int32)) X6 d5_42 rfl 43 rfl ?_
  refine o_callS X6 d5_43 (rest := [(.int (3 : Int32)), (.ref xa)]) (c_bit l Z a0 hw [] n0 _ X6.size xv (3 : Int32) ) (hw _ (List.mem_of_getElem? (i := 9) rfl)) (hw _ (List.mem_of_getElem? (i := 10) rfl)) (hw _ (List.mem_of_getElem? (i := 3) rfl)) (hw _ (List.mem_of_getElem? (i := 11) rfl)) (by decide) 2 (by decide) (by decide) rfl [(.int xv), (.int (3 : Int32))] rfl pd_3 rfl rfl (Nat.le_of_eq rfl) 0 0 rfl rfl (by decide) (by decide) 46 rfl ?_
  rintro _ T7 _ X7 ⟨rfl, rfl⟩
  show OE p e ({ frames := 1, cells := 0, slots := 0, locals := 15 } : Room) below s n0 Q' T7 (mkF m 46 #[.val (.ref xa), .val (.int xv)] [(.int (f_bit xv (3 : Int32))), (.int (3 : Int32)), (.ref xa)])
  refine o_callS X7 d5_46 (rest := []) (c_at l Z a0 hw [] n0 _ X7.size xa (3 : Int32) (f_bit xv (3 : Int32)) [] L' H0 3 rfl (Or.inl (by show 0 ≤ 3; decide))) (hw _ (List.mem_of_getElem? (i := 12) rfl)) (hw _ (List.mem_of_getElem? (i := 13) rfl)) (hw _ (List.mem_of_getElem? (i := 3) rfl)) (hw _ (List.mem_of_getElem? (i := 14) rfl)) (by decide) 0 (by decide) (by decide) rfl [(.ref xa), (.int (3 : Int32)), (.int (f_bit xv (3 : Int32)))] rfl pd_4 rfl rfl (Nat.le_of_eq rfl) 0 0 rfl rfl (by decide) (by decide) 49 rfl ?_
  rintro _ T8 _ X8 ⟨rfl, rfl⟩
  show OE p e ({ frames := 1, cells := 0, slots := 0, locals := 15 } : Room) below s n0 Q' T8 (mkF m 49 #[.val (.ref xa), .val (.int xv)] [(.int (1 : Int32))])
  refine o_ifEq X8 d5_49 97 52 (by decide) (by decide) rfl (fun q => by exfalso; exact absurd q (by decide)) ?_
  intro hc49
  refine o_aloadN X8 d5_52 rfl rfl 53 rfl ?_
  refine o_iconst (v := (4 : Int32)) X8 d5_53 rfl 54 rfl ?_
  refine o_iloadN X8 d5_54 rfl 55 rfl ?_
  refine o_iconst (v := (4 : Int32)) X8 d5_55 rfl 56 rfl ?_
  refine o_callS X8 d5_56 (rest := [(.int (4 : Int32)), (.ref xa)]) (c_bit l Z a0 hw [] n0 _ X8.size xv (4 : Int32) ) (hw _ (List.mem_of_getElem? (i := 9) rfl)) (hw _ (List.mem_of_getElem? (i := 10) rfl)) (hw _ (List.mem_of_getElem? (i := 3) rfl)) (hw _ (List.mem_of_getElem? (i := 11) rfl)) (by decide) 2 (by decide) (by decide) rfl [(.int xv), (.int (4 : Int32))] rfl pd_3 rfl rfl (Nat.le_of_eq rfl) 0 0 rfl rfl (by decide) (by decide) 59 rfl ?_
  rintro _ T9 _ X9 ⟨rfl, rfl⟩
  show OE p e ({ frames := 1, cells := 0, slots := 0, locals := 15 } : Room) below s n0 Q' T9 (mkF m 59 #[.val (.ref xa), .val (.int xv)] [(.int (f_bit xv (4 : Int32))), (.int (4 : Int32)), (.ref xa)])
  refine o_callS X9 d5_59 (rest := []) (c_at l Z a0 hw [] n0 _ X9.size xa (4 : Int32) (f_bit xv (4 : Int32)) [] L' H0 4 rfl (Or.inl (by show 0 ≤ 4; decide))) (hw _ (List.mem_of_getElem? (i := 12) rfl)) (hw _ (List.mem_of_getElem? (i := 13) rfl)) (hw _ (List.mem_of_getElem? (i := 3) rfl)) (hw _ (List.mem_of_getElem? (i := 14) rfl)) (by decide) 0 (by decide) (by decide) rfl [(.ref xa), (.int (4 : Int32)), (.int (f_bit xv (4 : Int32)))] rfl pd_4 rfl rfl (Nat.le_of_eq rfl) 0 0 rfl rfl (by decide) (by decide) 62 rfl ?_
  rintro _ T10 _ X10 ⟨rfl, rfl⟩
  show OE p e ({ frames := 1, cells := 0, slots := 0, locals := 15 } : Room) below s n0 Q' T10 (mkF m 62 #[.val (.ref xa), .val (.int xv)] [(.int (1 : Int32))])
  refine o_ifEq X10 d5_62 97 65 (by decide) (by decide) rfl (fun q => by exfalso; exact absurd q (by decide)) ?_
  intro hc62
  refine o_aloadN X10 d5_65 rfl rfl 66 rfl ?_
  refine o_iconst (v := (5 : Int32)) X10 d5_66 rfl 67 rfl ?_
  refine o_iloadN X10 d5_67 rfl 68 rfl ?_
  refine o_iconst (v := (5 : Int32)) X10 d5_68 rfl 69 rfl ?_
  refine o_callS X10 d5_69 (rest := [(.int (5 : Int32)), (.ref xa)]) (c_bit l Z a0 hw [] n0 _ X10.size xv (5 : Int32) ) (hw _ (List.mem_of_getElem? (i := 9) rfl)) (hw _ (List.mem_of_getElem? (i := 10) rfl)) (hw _ (List.mem_of_getElem? (i := 3) rfl)) (hw _ (List.mem_of_getElem? (i := 11) rfl)) (by decide) 2 (by decide) (by decide) rfl [(.int xv), (.int (5 : Int32))] rfl pd_3 rfl rfl (Nat.le_of_eq rfl) 0 0 rfl rfl (by decide) (by decide) 72 rfl ?_
  rintro _ T11 _ X11 ⟨rfl, rfl⟩
  show OE p e ({ frames := 1, cells := 0, slots := 0, locals := 15 } : Room) below s n0 Q' T11 (mkF m 72 #[.val (.ref xa), .val (.int xv)] [(.int (f_bit xv (5 : Int32))), (.int (5 : Int32)), (.ref xa)])
  refine o_callS X11 d5_72 (rest := []) (c_at l Z a0 hw [] n0 _ X11.size xa (5 : Int32) (f_bit xv (5 : Int32)) [] L' H0 5 rfl (Or.inl (by show 0 ≤ 5; decide))) (hw _ (List.mem_of_getElem? (i := 12) rfl)) (hw _ (List.mem_of_getElem? (i := 13) rfl)) (hw _ (List.mem_of_getElem? (i := 3) rfl)) (hw _ (List.mem_of_getElem? (i := 14) rfl)) (by decide) 0 (by decide) (by decide) rfl [(.ref xa), (.int (5 : Int32)), (.int (f_bit xv (5 : Int32)))] rfl pd_4 rfl rfl (Nat.le_of_eq rfl) 0 0 rfl rfl (by decide) (by decide) 75 rfl ?_
  rintro _ T12 _ X12 ⟨rfl, rfl⟩
  show OE p e ({ frames := 1, cells := 0, slots := 0, locals := 15 } : Room) below s n0 Q' T12 (mkF m 75 #[.val (.ref xa), .val (.int xv)] [(.int (1 : Int32))])
  refine o_ifEq X12 d5_75 97 78 (by decide) (by decide) rfl (fun q => by exfalso; exact absurd q (by decide)) ?_
  intro hc75
  refine o_aloadN X12 d5_78 rfl rfl 79 rfl ?_
  refine o_bipush (v := (6 : Int32)) X12 d5_79 rfl 81 rfl ?_
  refine o_iloadN X12 d5_81 rfl 82 rfl ?_
  refine o_bipush (v := (6 : Int32)) X12 d5_82 rfl 84 rfl ?_
  refine o_callS X12 d5_84 (rest := [(.int (6 : Int32)), (.ref xa)]) (c_bit l Z a0 hw [] n0 _ X12.size xv (6 : Int32) ) (hw _ (List.mem_of_getElem? (i := 9) rfl)) (hw _ (List.mem_of_getElem? (i := 10) rfl)) (hw _ (List.mem_of_getElem? (i := 3) rfl)) (hw _ (List.mem_of_getElem? (i := 11) rfl)) (by decide) 2 (by decide) (by decide) rfl [(.int xv), (.int (6 : Int32))] rfl pd_3 rfl rfl (Nat.le_of_eq rfl) 0 0 rfl rfl (by decide) (by decide) 87 rfl ?_
  rintro _ T13 _ X13 ⟨rfl, rfl⟩
  show OE p e ({ frames := 1, cells := 0, slots := 0, locals := 15 } : Room) below s n0 Q' T13 (mkF m 87 #[.val (.ref xa), .val (.int xv)] [(.int (f_bit xv (6 : Int32))), (.int (6 : Int32)), (.ref xa)])
  refine o_callS X13 d5_87 (rest := []) (c_at l Z a0 hw [] n0 _ X13.size xa (6 : Int32) (f_bit xv (6 : Int32)) [] L' H0 6 rfl (Or.inl (by show 0 ≤ 6; decide))) (hw _ (List.mem_of_getElem? (i := 12) rfl)) (hw _ (List.mem_of_getElem? (i := 13) rfl)) (hw _ (List.mem_of_getElem? (i := 3) rfl)) (hw _ (List.mem_of_getElem? (i := 14) rfl)) (by decide) 0 (by decide) (by decide) rfl [(.ref xa), (.int (6 : Int32)), (.int (f_bit xv (6 : Int32)))] rfl pd_4 rfl rfl (Nat.le_of_eq rfl) 0 0 rfl rfl (by decide) (by decide) 90 rfl ?_
  rintro _ T14 _ X14 ⟨rfl, rfl⟩
  show OE p e ({ frames := 1, cells := 0, slots := 0, locals := 15 } : Room) below s n0 Q' T14 (mkF m 90 #[.val (.ref xa), .val (.int xv)] [(.int (1 : Int32))])
  refine o_ifEq X14 d5_90 97 93 (by decide) (by decide) rfl (fun q => by exfalso; exact absurd q (by decide)) ?_
  intro hc90
  refine o_iconst (v := (1 : Int32)) X14 d5_93 rfl 94 rfl ?_
  refine o_goto X14 d5_94 98 (by decide) (by decide) ?_
  exact o_retZ X14 d5_98 (by decide) (by decide) (hQ _ _ ⟨rfl, rfl⟩)
set_option maxRecDepth 65536 in
set_option maxHeartbeats 40000000 in
theorem c_fill1 (l : Launch) (Z : State) (a0 : Array Value) (hw : ∀ d ∈ tables_1, d.before a0 Z = true) (ws : List Jvm.Cond) (n0 : Nat) (h0 : Heap) (hn0 : n0 ≤ h0.size) (xa : Addr) (xv : Int32) (L' : List (Addr × (Cell → Prop))) (H0 : OL n0 h0 ((xa, OA Z .boolean [(0 : Int32)]) :: L')) :
    OC l Z (⟨"com/example/eratosthenes/eratosthenes/tune/GeneticSearchCombPinLaw", "fill", "([ZI)V"⟩ : MethodName) method_4_code 2 none ws ({ frames := 1, cells := 0, slots := 0, locals := 15 } : Room) n0 #[(.ref xa), (.int xv)] h0 (fun r h => r = none ∧ OL n0 h ((xa, OA Z .boolean [(f_bit xv (0 : Int32))]) :: L')) := by
  refine OC.of pn_0 hn0 #[.val (.ref xa), .val (.int xv)] (fun m => by first | (simp [entryFrame, mkF, argsToLocals, Value.category, maxLocals]; done) | rfl) ?_
  intro p e s m below meth cd0 T0 X0 Q' hQ
  refine o_aloadN X0 d1_0 rfl rfl 1 rfl ?_
  refine o_arraylength X0 H0 0 rfl d1_1 (1 : Int32) rfl 2 rfl ?_
  refine o_ifLe X0 d1_2 13 5 (by decide) (by decide) rfl (fun q => by exfalso; exact absurd q (by decide)) ?_
  intro hc2
  refine o_aloadN X0 d1_5 rfl rfl 6 rfl ?_
  refine o_iconst (v := (0 : Int32)) X0 d1_6 rfl 7 rfl ?_
  refine o_iloadN X0 d1_7 rfl 8 rfl ?_
  refine o_iconst (v := (0 : Int32)) X0 d1_8 rfl 9 rfl ?_
  refine o_callS X0 d1_9 (rest := [(.int (0 : Int32)), (.ref xa)]) (c_bit l Z a0 hw [] n0 _ X0.size xv (0 : Int32) ) (hw _ (List.mem_of_getElem? (i := 9) rfl)) (hw _ (List.mem_of_getElem? (i := 10) rfl)) (hw _ (List.mem_of_getElem? (i := 3) rfl)) (hw _ (List.mem_of_getElem? (i := 11) rfl)) (by decide) 2 (by decide) (by decide) rfl [(.int xv), (.int (0 : Int32))] rfl pd_3 rfl rfl (Nat.le_of_eq rfl) 0 0 rfl rfl (by decide) (by decide) 12 rfl ?_
  rintro _ T1 _ X1 ⟨rfl, rfl⟩
  show OE p e ({ frames := 1, cells := 0, slots := 0, locals := 15 } : Room) below s n0 Q' T1 (mkF m 12 #[.val (.ref xa), .val (.int xv)] [(.int (f_bit xv (0 : Int32))), (.int (0 : Int32)), (.ref xa)])
  refine o_bastoreZ X1 H0 0 rfl d1_12 0 rfl (by show 0 < 1; decide) (f_bit xv (0 : Int32)) (v_nar _ _) 13 rfl ?_
  intro T2 h2 X2 H2
  replace H2 : OL n0 h2 ((xa, OA Z .boolean [(f_bit xv (0 : Int32))]) :: L') := H2
  refine o_aloadN X2 d1_13 rfl rfl 14 rfl ?_
  refine o_arraylength X2 H2 0 rfl d1_14 (1 : Int32) rfl 15 rfl ?_
  refine o_iconst (v := (1 : Int32)) X2 d1_15 rfl 16 rfl ?_
  refine o_icmpLe X2 d1_16 27 19 (by decide) (by decide) rfl ?_ (fun q => by exfalso; exact absurd q (by decide))
  intro hc16
  refine o_aloadN X2 d1_27 rfl rfl 28 rfl ?_
  refine o_arraylength X2 H2 0 rfl d1_28 (1 : Int32) rfl 29 rfl ?_
  refine o_iconst (v := (2 : Int32)) X2 d1_29 rfl 30 rfl ?_
  refine o_icmpLe X2 d1_30 41 33 (by decide) (by decide) rfl ?_ (fun q => by exfalso; exact absurd q (by decide))
  intro hc30
  refine o_aloadN X2 d1_41 rfl rfl 42 rfl ?_
  refine o_arraylength X2 H2 0 rfl d1_42 (1 : Int32) rfl 43 rfl ?_
  refine o_iconst (v := (3 : Int32)) X2 d1_43 rfl 44 rfl ?_
  refine o_icmpLe X2 d1_44 55 47 (by decide) (by decide) rfl ?_ (fun q => by exfalso; exact absurd q (by decide))
  intro hc44
  refine o_aloadN X2 d1_55 rfl rfl 56 rfl ?_
  refine o_arraylength X2 H2 0 rfl d1_56 (1 : Int32) rfl 57 rfl ?_
  refine o_iconst (v := (4 : Int32)) X2 d1_57 rfl 58 rfl ?_
  refine o_icmpLe X2 d1_58 69 61 (by decide) (by decide) rfl ?_ (fun q => by exfalso; exact absurd q (by decide))
  intro hc58
  refine o_aloadN X2 d1_69 rfl rfl 70 rfl ?_
  refine o_arraylength X2 H2 0 rfl d1_70 (1 : Int32) rfl 71 rfl ?_
  refine o_iconst (v := (5 : Int32)) X2 d1_71 rfl 72 rfl ?_
  refine o_icmpLe X2 d1_72 83 75 (by decide) (by decide) rfl ?_ (fun q => by exfalso; exact absurd q (by decide))
  intro hc72
  refine o_aloadN X2 d1_83 rfl rfl 84 rfl ?_
  refine o_arraylength X2 H2 0 rfl d1_84 (1 : Int32) rfl 85 rfl ?_
  refine o_bipush (v := (6 : Int32)) X2 d1_85 rfl 87 rfl ?_
  refine o_icmpLe X2 d1_87 100 90 (by decide) (by decide) rfl ?_ (fun q => by exfalso; exact absurd q (by decide))
  intro hc87
  exact o_ret X2 d1_100 (by decide) (by decide) (hQ _ _ ⟨rfl, H2⟩)
set_option maxRecDepth 65536 in
set_option maxHeartbeats 40000000 in
theorem c_comb1 (l : Launch) (Z : State) (a0 : Array Value) (hw : ∀ d ∈ tables_1, d.before a0 Z = true) (ws : List Jvm.Cond) (n0 : Nat) (h0 : Heap) (hn0 : n0 ≤ h0.size) (xa xb : Addr) (xx xy : Int32) (L' : List (Addr × (Cell → Prop))) (H0 : OL n0 h0 ((xa, OA Z .boolean [(f_bit xx (0 : Int32))]) :: (xb, OA Z .boolean [(f_bit xy (0 : Int32))]) :: L')) :
    OC l Z (⟨"com/example/eratosthenes/eratosthenes/tune/GeneticSearch", "comb", "([Z[Z)[Z"⟩ : MethodName) prog_27_method_3_code 4 (some (.array .boolean)) ws ({ frames := 0, cells := 1, slots := 1, locals := 0 } : Room) n0 #[(.ref xa), (.ref xb)] h0 (fun r h => ∃ a, r = some (.ref a) ∧ OL n0 h ((a, OA Z .boolean [(f_bit xx (0 : Int32))]) :: (xa, OA Z .boolean [(f_bit xx (0 : Int32))]) :: (xb, OA Z .boolean [(f_bit xy (0 : Int32))]) :: L')) := by
  refine OC.of pn_1 hn0 #[.val (.ref xa), .val (.ref xb), .unset, .unset] (fun m => by first | (simp [entryFrame, mkF, argsToLocals, Value.category, maxLocals]; done) | rfl) ?_
  intro p e s m below meth cd0 T0 X0 Q' hQ
  refine o_aloadN X0 d2_0 rfl rfl 1 rfl ?_
  refine o_arraylength X0 H0 0 rfl d2_1 (1 : Int32) rfl 2 rfl ?_
  refine o_newarray (L := ((xa, OA Z .boolean [(f_bit xx (0 : Int32))]) :: (xb, OA Z .boolean [(f_bit xy (0 : Int32))]) :: L')) X0 H0 d2_2 (hw _ (List.mem_of_getElem? (i := 0) rfl)) rfl rfl 1 1 rfl (by decide) (by decide) 1 1 rfl rfl (by decide) (by decide) 4 rfl ?_
  intro T1 h1 b1 X1 H1
  replace H1 : OL n0 h1 ((b1, OA Z .boolean [(0 : Int32)]) :: (xa, OA Z .boolean [(f_bit xx (0 : Int32))]) :: (xb, OA Z .boolean [(f_bit xy (0 : Int32))]) :: L') := H1
  refine o_astoreN X1 d2_4 rfl #[.val (.ref xa), .val (.ref xb), .val (.ref b1), .unset] rfl 5 rfl ?_
  refine o_iconst (v := (0 : Int32)) X1 d2_5 rfl 6 rfl ?_
  refine o_istoreN X1 d2_6 #[.val (.ref xa), .val (.ref xb), .val (.ref b1), .val (.int (0 : Int32))] rfl 7 rfl ?_
  refine o_iloadN X1 d2_7 rfl 8 rfl ?_
  refine o_aloadN X1 d2_8 rfl rfl 9 rfl ?_
  refine o_arraylength X1 H1 0 rfl d2_9 (1 : Int32) rfl 10 rfl ?_
  refine o_icmpGe X1 d2_10 37 13 (by decide) (by decide) rfl (fun q => by exfalso; exact absurd q (by decide)) ?_
  intro hc10
  refine o_aloadN X1 d2_13 rfl rfl 14 rfl ?_
  refine o_iloadN X1 d2_14 rfl 15 rfl ?_
  refine o_iloadN X1 d2_15 rfl 16 rfl ?_
  refine o_iconst (v := (2 : Int32)) X1 d2_16 rfl 17 rfl ?_
  refine o_irem X1 d2_17 (by decide) 18 rfl ?_
  refine o_ifNe X1 d2_18 27 21 (by decide) (by decide) rfl (fun q => by exfalso; exact absurd q (by decide)) ?_
  intro hc18
  refine o_aloadN X1 d2_21 rfl rfl 22 rfl ?_
  refine o_iloadN X1 d2_22 rfl 23 rfl ?_
  refine o_baloadZ X1 H1 1 rfl d2_23 0 rfl (f_bit xx (0 : Int32)) rfl 24 rfl ?_
  refine o_goto X1 d2_24 30 (by decide) (by decide) ?_
  refine o_bastoreZ X1 H1 0 rfl d2_30 0 rfl (by show 0 < 1; decide) (f_bit xx (0 : Int32)) (v_nar _ _) 31 rfl ?_
  intro T2 h2 X2 H2
  replace H2 : OL n0 h2 ((b1, OA Z .boolean [(f_bit xx (0 : Int32))]) :: (xa, OA Z .boolean [(f_bit xx (0 : Int32))]) :: (xb, OA Z .boolean [(f_bit xy (0 : Int32))]) :: L') := H2
  refine o_iinc (v := (0 : Int32)) (w := (1 : Int32)) X2 d2_31 rfl rfl #[.val (.ref xa), .val (.ref xb), .val (.ref b1), .val (.int (1 : Int32))] rfl 34 rfl ?_
  refine o_goto X2 d2_34 7 (by decide) (by decide) ?_
  refine o_iloadN X2 d2_7 rfl 8 rfl ?_
  refine o_aloadN X2 d2_8 rfl rfl 9 rfl ?_
  refine o_arraylength X2 H2 0 rfl d2_9 (1 : Int32) rfl 10 rfl ?_
  refine o_icmpGe X2 d2_10 37 13 (by decide) (by decide) rfl ?_ (fun q => by exfalso; exact absurd q (by decide))
  intro hc10_1
  refine o_aloadN X2 d2_37 rfl rfl 38 rfl ?_
  exact o_retA X2 rfl rfl d2_38 (by decide) (by decide) (hQ _ _ ⟨_, rfl, H2⟩)
set_option maxRecDepth 65536 in
set_option maxHeartbeats 40000000 in
theorem c_same1 (l : Launch) (Z : State) (a0 : Array Value) (hw : ∀ d ∈ tables_1, d.before a0 Z = true) (ws : List Jvm.Cond) (n0 : Nat) (h0 : Heap) (hn0 : n0 ≤ h0.size) (xa : Addr) (xv : Int32) (L' : List (Addr × (Cell → Prop))) (H0 : OL n0 h0 ((xa, OA Z .boolean [(f_bit xv (0 : Int32))]) :: L')) :
    OC l Z (⟨"com/example/eratosthenes/eratosthenes/tune/GeneticSearchCombPinLaw", "same", "([ZI)Z"⟩ : MethodName) method_5_code 2 (some .boolean) ws ({ frames := 1, cells := 0, slots := 0, locals := 15 } : Room) n0 #[(.ref xa), (.int xv)] h0 (fun r h => r = some (.int 1) ∧ h0 = h) := by
  refine OC.of pn_0 hn0 #[.val (.ref xa), .val (.int xv)] (fun m => by first | (simp [entryFrame, mkF, argsToLocals, Value.category, maxLocals]; done) | rfl) ?_
  intro p e s m below meth cd0 T0 X0 Q' hQ
  refine o_aloadN X0 d5_0 rfl rfl 1 rfl ?_
  refine o_iconst (v := (0 : Int32)) X0 d5_1 rfl 2 rfl ?_
  refine o_iloadN X0 d5_2 rfl 3 rfl ?_
  refine o_iconst (v := (0 : Int32)) X0 d5_3 rfl 4 rfl ?_
  refine o_callS X0 d5_4 (rest := [(.int (0 : Int32)), (.ref xa)]) (c_bit l Z a0 hw [] n0 _ X0.size xv (0 : Int32) ) (hw _ (List.mem_of_getElem? (i := 9) rfl)) (hw _ (List.mem_of_getElem? (i := 10) rfl)) (hw _ (List.mem_of_getElem? (i := 3) rfl)) (hw _ (List.mem_of_getElem? (i := 11) rfl)) (by decide) 2 (by decide) (by decide) rfl [(.int xv), (.int (0 : Int32))] rfl pd_3 rfl rfl (Nat.le_of_eq rfl) 0 0 rfl rfl (by decide) (by decide) 7 rfl ?_
  rintro _ T1 _ X1 ⟨rfl, rfl⟩
  show OE p e ({ frames := 1, cells := 0, slots := 0, locals := 15 } : Room) below s n0 Q' T1 (mkF m 7 #[.val (.ref xa), .val (.int xv)] [(.int (f_bit xv (0 : Int32))), (.int (0 : Int32)), (.ref xa)])
  refine o_callS X1 d5_7 (rest := []) (c_at l Z a0 hw [] n0 _ X1.size xa (0 : Int32) (f_bit xv (0 : Int32)) [(f_bit xv (0 : Int32))] L' H0 0 rfl (Or.inr rfl)) (hw _ (List.mem_of_getElem? (i := 12) rfl)) (hw _ (List.mem_of_getElem? (i := 13) rfl)) (hw _ (List.mem_of_getElem? (i := 3) rfl)) (hw _ (List.mem_of_getElem? (i := 14) rfl)) (by decide) 0 (by decide) (by decide) rfl [(.ref xa), (.int (0 : Int32)), (.int (f_bit xv (0 : Int32)))] rfl pd_4 rfl rfl (Nat.le_of_eq rfl) 0 0 rfl rfl (by decide) (by decide) 10 rfl ?_
  rintro _ T2 _ X2 ⟨rfl, rfl⟩
  show OE p e ({ frames := 1, cells := 0, slots := 0, locals := 15 } : Room) below s n0 Q' T2 (mkF m 10 #[.val (.ref xa), .val (.int xv)] [(.int (1 : Int32))])
  refine o_ifEq X2 d5_10 97 13 (by decide) (by decide) rfl (fun q => by exfalso; exact absurd q (by decide)) ?_
  intro hc10
  refine o_aloadN X2 d5_13 rfl rfl 14 rfl ?_
  refine o_iconst (v := (1 : Int32)) X2 d5_14 rfl 15 rfl ?_
  refine o_iloadN X2 d5_15 rfl 16 rfl ?_
  refine o_iconst (v := (1 : Int32)) X2 d5_16 rfl 17 rfl ?_
  refine o_callS X2 d5_17 (rest := [(.int (1 : Int32)), (.ref xa)]) (c_bit l Z a0 hw [] n0 _ X2.size xv (1 : Int32) ) (hw _ (List.mem_of_getElem? (i := 9) rfl)) (hw _ (List.mem_of_getElem? (i := 10) rfl)) (hw _ (List.mem_of_getElem? (i := 3) rfl)) (hw _ (List.mem_of_getElem? (i := 11) rfl)) (by decide) 2 (by decide) (by decide) rfl [(.int xv), (.int (1 : Int32))] rfl pd_3 rfl rfl (Nat.le_of_eq rfl) 0 0 rfl rfl (by decide) (by decide) 20 rfl ?_
  rintro _ T3 _ X3 ⟨rfl, rfl⟩
  show OE p e ({ frames := 1, cells := 0, slots := 0, locals := 15 } : Room) below s n0 Q' T3 (mkF m 20 #[.val (.ref xa), .val (.int xv)] [(.int (f_bit xv (1 : Int32))), (.int (1 : Int32)), (.ref xa)])
  refine o_callS X3 d5_20 (rest := []) (c_at l Z a0 hw [] n0 _ X3.size xa (1 : Int32) (f_bit xv (1 : Int32)) [(f_bit xv (0 : Int32))] L' H0 1 rfl (Or.inl (by show 1 ≤ 1; decide))) (hw _ (List.mem_of_getElem? (i := 12) rfl)) (hw _ (List.mem_of_getElem? (i := 13) rfl)) (hw _ (List.mem_of_getElem? (i := 3) rfl)) (hw _ (List.mem_of_getElem? (i := 14) rfl)) (by decide) 0 (by decide) (by decide) rfl [(.ref xa), (.int (1 : Int32)), (.int (f_bit xv (1 : Int32)))] rfl pd_4 rfl rfl (Nat.le_of_eq rfl) 0 0 rfl rfl (by decide) (by decide) 23 rfl ?_
  rintro _ T4 _ X4 ⟨rfl, rfl⟩
  show OE p e ({ frames := 1, cells := 0, slots := 0, locals := 15 } : Room) below s n0 Q' T4 (mkF m 23 #[.val (.ref xa), .val (.int xv)] [(.int (1 : Int32))])
  refine o_ifEq X4 d5_23 97 26 (by decide) (by decide) rfl (fun q => by exfalso; exact absurd q (by decide)) ?_
  intro hc23
  refine o_aloadN X4 d5_26 rfl rfl 27 rfl ?_
  refine o_iconst (v := (2 : Int32)) X4 d5_27 rfl 28 rfl ?_
  refine o_iloadN X4 d5_28 rfl 29 rfl ?_
  refine o_iconst (v := (2 : Int32)) X4 d5_29 rfl 30 rfl ?_
  refine o_callS X4 d5_30 (rest := [(.int (2 : Int32)), (.ref xa)]) (c_bit l Z a0 hw [] n0 _ X4.size xv (2 : Int32) ) (hw _ (List.mem_of_getElem? (i := 9) rfl)) (hw _ (List.mem_of_getElem? (i := 10) rfl)) (hw _ (List.mem_of_getElem? (i := 3) rfl)) (hw _ (List.mem_of_getElem? (i := 11) rfl)) (by decide) 2 (by decide) (by decide) rfl [(.int xv), (.int (2 : Int32))] rfl pd_3 rfl rfl (Nat.le_of_eq rfl) 0 0 rfl rfl (by decide) (by decide) 33 rfl ?_
  rintro _ T5 _ X5 ⟨rfl, rfl⟩
  show OE p e ({ frames := 1, cells := 0, slots := 0, locals := 15 } : Room) below s n0 Q' T5 (mkF m 33 #[.val (.ref xa), .val (.int xv)] [(.int (f_bit xv (2 : Int32))), (.int (2 : Int32)), (.ref xa)])
  refine o_callS X5 d5_33 (rest := []) (c_at l Z a0 hw [] n0 _ X5.size xa (2 : Int32) (f_bit xv (2 : Int32)) [(f_bit xv (0 : Int32))] L' H0 2 rfl (Or.inl (by show 1 ≤ 2; decide))) (hw _ (List.mem_of_getElem? (i := 12) rfl)) (hw _ (List.mem_of_getElem? (i := 13) rfl)) (hw _ (List.mem_of_getElem? (i := 3) rfl)) (hw _ (List.mem_of_getElem? (i := 14) rfl)) (by decide) 0 (by decide) (by decide) rfl [(.ref xa), (.int (2 : Int32)), (.int (f_bit xv (2 : Int32)))] rfl pd_4 rfl rfl (Nat.le_of_eq rfl) 0 0 rfl rfl (by decide) (by decide) 36 rfl ?_
  rintro _ T6 _ X6 ⟨rfl, rfl⟩
  show OE p e ({ frames := 1, cells := 0, slots := 0, locals := 15 } : Room) below s n0 Q' T6 (mkF m 36 #[.val (.ref xa), .val (.int xv)] [(.int (1 : Int32))])
  refine o_ifEq X6 d5_36 97 39 (by decide) (by decide) rfl (fun q => by exfalso; exact absurd q (by decide)) ?_
  intro hc36
  refine o_aloadN X6 d5_39 rfl rfl 40 rfl ?_
  refine o_iconst (v := (3 : Int32)) X6 d5_40 rfl 41 rfl ?_
  refine o_iloadN X6 d5_41 rfl 42 rfl ?_
  refine o_iconst (v := (3 : Int32)) X6 d5_42 rfl 43 rfl ?_
  refine o_callS X6 d5_43 (rest := [(.int (3 : Int32)), (.ref xa)]) (c_bit l Z a0 hw [] n0 _ X6.size xv (3 : Int32) ) (hw _ (List.mem_of_getElem? (i := 9) rfl)) (hw _ (List.mem_of_getElem? (i := 10) rfl)) (hw _ (List.mem_of_getElem? (i := 3) rfl)) (hw _ (List.mem_of_getElem? (i := 11) rfl)) (by decide) 2 (by decide) (by decide) rfl [(.int xv), (.int (3 : Int32))] rfl pd_3 rfl rfl (Nat.le_of_eq rfl) 0 0 rfl rfl (by decide) (by decide) 46 rfl ?_
  rintro _ T7 _ X7 ⟨rfl, rfl⟩
  show OE p e ({ frames := 1, cells := 0, slots := 0, locals := 15 } : Room) below s n0 Q' T7 (mkF m 46 #[.val (.ref xa), .val (.int xv)] [(.int (f_bit xv (3 : Int32))), (.int (3 : Int32)), (.ref xa)])
  refine o_callS X7 d5_46 (rest := []) (c_at l Z a0 hw [] n0 _ X7.size xa (3 : Int32) (f_bit xv (3 : Int32)) [(f_bit xv (0 : Int32))] L' H0 3 rfl (Or.inl (by show 1 ≤ 3; decide))) (hw _ (List.mem_of_getElem? (i := 12) rfl)) (hw _ (List.mem_of_getElem? (i := 13) rfl)) (hw _ (List.mem_of_getElem? (i := 3) rfl)) (hw _ (List.mem_of_getElem? (i := 14) rfl)) (by decide) 0 (by decide) (by decide) rfl [(.ref xa), (.int (3 : Int32)), (.int (f_bit xv (3 : Int32)))] rfl pd_4 rfl rfl (Nat.le_of_eq rfl) 0 0 rfl rfl (by decide) (by decide) 49 rfl ?_
  rintro _ T8 _ X8 ⟨rfl, rfl⟩
  show OE p e ({ frames := 1, cells := 0, slots := 0, locals := 15 } : Room) below s n0 Q' T8 (mkF m 49 #[.val (.ref xa), .val (.int xv)] [(.int (1 : Int32))])
  refine o_ifEq X8 d5_49 97 52 (by decide) (by decide) rfl (fun q => by exfalso; exact absurd q (by decide)) ?_
  intro hc49
  refine o_aloadN X8 d5_52 rfl rfl 53 rfl ?_
  refine o_iconst (v := (4 : Int32)) X8 d5_53 rfl 54 rfl ?_
  refine o_iloadN X8 d5_54 rfl 55 rfl ?_
  refine o_iconst (v := (4 : Int32)) X8 d5_55 rfl 56 rfl ?_
  refine o_callS X8 d5_56 (rest := [(.int (4 : Int32)), (.ref xa)]) (c_bit l Z a0 hw [] n0 _ X8.size xv (4 : Int32) ) (hw _ (List.mem_of_getElem? (i := 9) rfl)) (hw _ (List.mem_of_getElem? (i := 10) rfl)) (hw _ (List.mem_of_getElem? (i := 3) rfl)) (hw _ (List.mem_of_getElem? (i := 11) rfl)) (by decide) 2 (by decide) (by decide) rfl [(.int xv), (.int (4 : Int32))] rfl pd_3 rfl rfl (Nat.le_of_eq rfl) 0 0 rfl rfl (by decide) (by decide) 59 rfl ?_
  rintro _ T9 _ X9 ⟨rfl, rfl⟩
  show OE p e ({ frames := 1, cells := 0, slots := 0, locals := 15 } : Room) below s n0 Q' T9 (mkF m 59 #[.val (.ref xa), .val (.int xv)] [(.int (f_bit xv (4 : Int32))), (.int (4 : Int32)), (.ref xa)])
  refine o_callS X9 d5_59 (rest := []) (c_at l Z a0 hw [] n0 _ X9.size xa (4 : Int32) (f_bit xv (4 : Int32)) [(f_bit xv (0 : Int32))] L' H0 4 rfl (Or.inl (by show 1 ≤ 4; decide))) (hw _ (List.mem_of_getElem? (i := 12) rfl)) (hw _ (List.mem_of_getElem? (i := 13) rfl)) (hw _ (List.mem_of_getElem? (i := 3) rfl)) (hw _ (List.mem_of_getElem? (i := 14) rfl)) (by decide) 0 (by decide) (by decide) rfl [(.ref xa), (.int (4 : Int32)), (.int (f_bit xv (4 : Int32)))] rfl pd_4 rfl rfl (Nat.le_of_eq rfl) 0 0 rfl rfl (by decide) (by decide) 62 rfl ?_
  rintro _ T10 _ X10 ⟨rfl, rfl⟩
  show OE p e ({ frames := 1, cells := 0, slots := 0, locals := 15 } : Room) below s n0 Q' T10 (mkF m 62 #[.val (.ref xa), .val (.int xv)] [(.int (1 : Int32))])
  refine o_ifEq X10 d5_62 97 65 (by decide) (by decide) rfl (fun q => by exfalso; exact absurd q (by decide)) ?_
  intro hc62
  refine o_aloadN X10 d5_65 rfl rfl 66 rfl ?_
  refine o_iconst (v := (5 : Int32)) X10 d5_66 rfl 67 rfl ?_
  refine o_iloadN X10 d5_67 rfl 68 rfl ?_
  refine o_iconst (v := (5 : Int32)) X10 d5_68 rfl 69 rfl ?_
  refine o_callS X10 d5_69 (rest := [(.int (5 : Int32)), (.ref xa)]) (c_bit l Z a0 hw [] n0 _ X10.size xv (5 : Int32) ) (hw _ (List.mem_of_getElem? (i := 9) rfl)) (hw _ (List.mem_of_getElem? (i := 10) rfl)) (hw _ (List.mem_of_getElem? (i := 3) rfl)) (hw _ (List.mem_of_getElem? (i := 11) rfl)) (by decide) 2 (by decide) (by decide) rfl [(.int xv), (.int (5 : Int32))] rfl pd_3 rfl rfl (Nat.le_of_eq rfl) 0 0 rfl rfl (by decide) (by decide) 72 rfl ?_
  rintro _ T11 _ X11 ⟨rfl, rfl⟩
  show OE p e ({ frames := 1, cells := 0, slots := 0, locals := 15 } : Room) below s n0 Q' T11 (mkF m 72 #[.val (.ref xa), .val (.int xv)] [(.int (f_bit xv (5 : Int32))), (.int (5 : Int32)), (.ref xa)])
  refine o_callS X11 d5_72 (rest := []) (c_at l Z a0 hw [] n0 _ X11.size xa (5 : Int32) (f_bit xv (5 : Int32)) [(f_bit xv (0 : Int32))] L' H0 5 rfl (Or.inl (by show 1 ≤ 5; decide))) (hw _ (List.mem_of_getElem? (i := 12) rfl)) (hw _ (List.mem_of_getElem? (i := 13) rfl)) (hw _ (List.mem_of_getElem? (i := 3) rfl)) (hw _ (List.mem_of_getElem? (i := 14) rfl)) (by decide) 0 (by decide) (by decide) rfl [(.ref xa), (.int (5 : Int32)), (.int (f_bit xv (5 : Int32)))] rfl pd_4 rfl rfl (Nat.le_of_eq rfl) 0 0 rfl rfl (by decide) (by decide) 75 rfl ?_
  rintro _ T12 _ X12 ⟨rfl, rfl⟩
  show OE p e ({ frames := 1, cells := 0, slots := 0, locals := 15 } : Room) below s n0 Q' T12 (mkF m 75 #[.val (.ref xa), .val (.int xv)] [(.int (1 : Int32))])
  refine o_ifEq X12 d5_75 97 78 (by decide) (by decide) rfl (fun q => by exfalso; exact absurd q (by decide)) ?_
  intro hc75
  refine o_aloadN X12 d5_78 rfl rfl 79 rfl ?_
  refine o_bipush (v := (6 : Int32)) X12 d5_79 rfl 81 rfl ?_
  refine o_iloadN X12 d5_81 rfl 82 rfl ?_
  refine o_bipush (v := (6 : Int32)) X12 d5_82 rfl 84 rfl ?_
  refine o_callS X12 d5_84 (rest := [(.int (6 : Int32)), (.ref xa)]) (c_bit l Z a0 hw [] n0 _ X12.size xv (6 : Int32) ) (hw _ (List.mem_of_getElem? (i := 9) rfl)) (hw _ (List.mem_of_getElem? (i := 10) rfl)) (hw _ (List.mem_of_getElem? (i := 3) rfl)) (hw _ (List.mem_of_getElem? (i := 11) rfl)) (by decide) 2 (by decide) (by decide) rfl [(.int xv), (.int (6 : Int32))] rfl pd_3 rfl rfl (Nat.le_of_eq rfl) 0 0 rfl rfl (by decide) (by decide) 87 rfl ?_
  rintro _ T13 _ X13 ⟨rfl, rfl⟩
  show OE p e ({ frames := 1, cells := 0, slots := 0, locals := 15 } : Room) below s n0 Q' T13 (mkF m 87 #[.val (.ref xa), .val (.int xv)] [(.int (f_bit xv (6 : Int32))), (.int (6 : Int32)), (.ref xa)])
  refine o_callS X13 d5_87 (rest := []) (c_at l Z a0 hw [] n0 _ X13.size xa (6 : Int32) (f_bit xv (6 : Int32)) [(f_bit xv (0 : Int32))] L' H0 6 rfl (Or.inl (by show 1 ≤ 6; decide))) (hw _ (List.mem_of_getElem? (i := 12) rfl)) (hw _ (List.mem_of_getElem? (i := 13) rfl)) (hw _ (List.mem_of_getElem? (i := 3) rfl)) (hw _ (List.mem_of_getElem? (i := 14) rfl)) (by decide) 0 (by decide) (by decide) rfl [(.ref xa), (.int (6 : Int32)), (.int (f_bit xv (6 : Int32)))] rfl pd_4 rfl rfl (Nat.le_of_eq rfl) 0 0 rfl rfl (by decide) (by decide) 90 rfl ?_
  rintro _ T14 _ X14 ⟨rfl, rfl⟩
  show OE p e ({ frames := 1, cells := 0, slots := 0, locals := 15 } : Room) below s n0 Q' T14 (mkF m 90 #[.val (.ref xa), .val (.int xv)] [(.int (1 : Int32))])
  refine o_ifEq X14 d5_90 97 93 (by decide) (by decide) rfl (fun q => by exfalso; exact absurd q (by decide)) ?_
  intro hc90
  refine o_iconst (v := (1 : Int32)) X14 d5_93 rfl 94 rfl ?_
  refine o_goto X14 d5_94 98 (by decide) (by decide) ?_
  exact o_retZ X14 d5_98 (by decide) (by decide) (hQ _ _ ⟨rfl, rfl⟩)
set_option maxRecDepth 65536 in
set_option maxHeartbeats 40000000 in
theorem c_fill2 (l : Launch) (Z : State) (a0 : Array Value) (hw : ∀ d ∈ tables_1, d.before a0 Z = true) (ws : List Jvm.Cond) (n0 : Nat) (h0 : Heap) (hn0 : n0 ≤ h0.size) (xa : Addr) (xv : Int32) (L' : List (Addr × (Cell → Prop))) (H0 : OL n0 h0 ((xa, OA Z .boolean [(0 : Int32), (0 : Int32)]) :: L')) :
    OC l Z (⟨"com/example/eratosthenes/eratosthenes/tune/GeneticSearchCombPinLaw", "fill", "([ZI)V"⟩ : MethodName) method_4_code 2 none ws ({ frames := 1, cells := 0, slots := 0, locals := 15 } : Room) n0 #[(.ref xa), (.int xv)] h0 (fun r h => r = none ∧ OL n0 h ((xa, OA Z .boolean [(f_bit xv (0 : Int32)), (f_bit xv (1 : Int32))]) :: L')) := by
  refine OC.of pn_0 hn0 #[.val (.ref xa), .val (.int xv)] (fun m => by first | (simp [entryFrame, mkF, argsToLocals, Value.category, maxLocals]; done) | rfl) ?_
  intro p e s m below meth cd0 T0 X0 Q' hQ
  refine o_aloadN X0 d1_0 rfl rfl 1 rfl ?_
  refine o_arraylength X0 H0 0 rfl d1_1 (2 : Int32) rfl 2 rfl ?_
  refine o_ifLe X0 d1_2 13 5 (by decide) (by decide) rfl (fun q => by exfalso; exact absurd q (by decide)) ?_
  intro hc2
  refine o_aloadN X0 d1_5 rfl rfl 6 rfl ?_
  refine o_iconst (v := (0 : Int32)) X0 d1_6 rfl 7 rfl ?_
  refine o_iloadN X0 d1_7 rfl 8 rfl ?_
  refine o_iconst (v := (0 : Int32)) X0 d1_8 rfl 9 rfl ?_
  refine o_callS X0 d1_9 (rest := [(.int (0 : Int32)), (.ref xa)]) (c_bit l Z a0 hw [] n0 _ X0.size xv (0 : Int32) ) (hw _ (List.mem_of_getElem? (i := 9) rfl)) (hw _ (List.mem_of_getElem? (i := 10) rfl)) (hw _ (List.mem_of_getElem? (i := 3) rfl)) (hw _ (List.mem_of_getElem? (i := 11) rfl)) (by decide) 2 (by decide) (by decide) rfl [(.int xv), (.int (0 : Int32))] rfl pd_3 rfl rfl (Nat.le_of_eq rfl) 0 0 rfl rfl (by decide) (by decide) 12 rfl ?_
  rintro _ T1 _ X1 ⟨rfl, rfl⟩
  show OE p e ({ frames := 1, cells := 0, slots := 0, locals := 15 } : Room) below s n0 Q' T1 (mkF m 12 #[.val (.ref xa), .val (.int xv)] [(.int (f_bit xv (0 : Int32))), (.int (0 : Int32)), (.ref xa)])
  refine o_bastoreZ X1 H0 0 rfl d1_12 0 rfl (by show 0 < 2; decide) (f_bit xv (0 : Int32)) (v_nar _ _) 13 rfl ?_
  intro T2 h2 X2 H2
  replace H2 : OL n0 h2 ((xa, OA Z .boolean [(f_bit xv (0 : Int32)), (0 : Int32)]) :: L') := H2
  refine o_aloadN X2 d1_13 rfl rfl 14 rfl ?_
  refine o_arraylength X2 H2 0 rfl d1_14 (2 : Int32) rfl 15 rfl ?_
  refine o_iconst (v := (1 : Int32)) X2 d1_15 rfl 16 rfl ?_
  refine o_icmpLe X2 d1_16 27 19 (by decide) (by decide) rfl (fun q => by exfalso; exact absurd q (by decide)) ?_
  intro hc16
  refine o_aloadN X2 d1_19 rfl rfl 20 rfl ?_
  refine o_iconst (v := (1 : Int32)) X2 d1_20 rfl 21 rfl ?_
  refine o_iloadN X2 d1_21 rfl 22 rfl ?_
  refine o_iconst (v := (1 : Int32)) X2 d1_22 rfl 23 rfl ?_
  refine o_callS X2 d1_23 (rest := [(.int (1 : Int32)), (.ref xa)]) (c_bit l Z a0 hw [] n0 _ X2.size xv (1 : Int32) ) (hw _ (List.mem_of_getElem? (i := 9) rfl)) (hw _ (List.mem_of_getElem? (i := 10) rfl)) (hw _ (List.mem_of_getElem? (i := 3) rfl)) (hw _ (List.mem_of_getElem? (i := 11) rfl)) (by decide) 2 (by decide) (by decide) rfl [(.int xv), (.int (1 : Int32))] rfl pd_3 rfl rfl (Nat.le_of_eq rfl) 0 0 rfl rfl (by decide) (by decide) 26 rfl ?_
  rintro _ T3 _ X3 ⟨rfl, rfl⟩
  show OE p e ({ frames := 1, cells := 0, slots := 0, locals := 15 } : Room) below s n0 Q' T3 (mkF m 26 #[.val (.ref xa), .val (.int xv)] [(.int (f_bit xv (1 : Int32))), (.int (1 : Int32)), (.ref xa)])
  refine o_bastoreZ X3 H2 0 rfl d1_26 1 rfl (by show 1 < 2; decide) (f_bit xv (1 : Int32)) (v_nar _ _) 27 rfl ?_
  intro T4 h4 X4 H4
  replace H4 : OL n0 h4 ((xa, OA Z .boolean [(f_bit xv (0 : Int32)), (f_bit xv (1 : Int32))]) :: L') := H4
  refine o_aloadN X4 d1_27 rfl rfl 28 rfl ?_
  refine o_arraylength X4 H4 0 rfl d1_28 (2 : Int32) rfl 29 rfl ?_
  refine o_iconst (v := (2 : Int32)) X4 d1_29 rfl 30 rfl ?_
  refine o_icmpLe X4 d1_30 41 33 (by decide) (by decide) rfl ?_ (fun q => by exfalso; exact absurd q (by decide))
  intro hc30
  refine o_aloadN X4 d1_41 rfl rfl 42 rfl ?_
  refine o_arraylength X4 H4 0 rfl d1_42 (2 : Int32) rfl 43 rfl ?_
  refine o_iconst (v := (3 : Int32)) X4 d1_43 rfl 44 rfl ?_
  refine o_icmpLe X4 d1_44 55 47 (by decide) (by decide) rfl ?_ (fun q => by exfalso; exact absurd q (by decide))
  intro hc44
  refine o_aloadN X4 d1_55 rfl rfl 56 rfl ?_
  refine o_arraylength X4 H4 0 rfl d1_56 (2 : Int32) rfl 57 rfl ?_
  refine o_iconst (v := (4 : Int32)) X4 d1_57 rfl 58 rfl ?_
  refine o_icmpLe X4 d1_58 69 61 (by decide) (by decide) rfl ?_ (fun q => by exfalso; exact absurd q (by decide))
  intro hc58
  refine o_aloadN X4 d1_69 rfl rfl 70 rfl ?_
  refine o_arraylength X4 H4 0 rfl d1_70 (2 : Int32) rfl 71 rfl ?_
  refine o_iconst (v := (5 : Int32)) X4 d1_71 rfl 72 rfl ?_
  refine o_icmpLe X4 d1_72 83 75 (by decide) (by decide) rfl ?_ (fun q => by exfalso; exact absurd q (by decide))
  intro hc72
  refine o_aloadN X4 d1_83 rfl rfl 84 rfl ?_
  refine o_arraylength X4 H4 0 rfl d1_84 (2 : Int32) rfl 85 rfl ?_
  refine o_bipush (v := (6 : Int32)) X4 d1_85 rfl 87 rfl ?_
  refine o_icmpLe X4 d1_87 100 90 (by decide) (by decide) rfl ?_ (fun q => by exfalso; exact absurd q (by decide))
  intro hc87
  exact o_ret X4 d1_100 (by decide) (by decide) (hQ _ _ ⟨rfl, H4⟩)
set_option maxRecDepth 65536 in
set_option maxHeartbeats 40000000 in
theorem c_comb2 (l : Launch) (Z : State) (a0 : Array Value) (hw : ∀ d ∈ tables_1, d.before a0 Z = true) (ws : List Jvm.Cond) (n0 : Nat) (h0 : Heap) (hn0 : n0 ≤ h0.size) (xa xb : Addr) (xx xy : Int32) (L' : List (Addr × (Cell → Prop))) (H0 : OL n0 h0 ((xa, OA Z .boolean [(f_bit xx (0 : Int32)), (f_bit xx (1 : Int32))]) :: (xb, OA Z .boolean [(f_bit xy (0 : Int32)), (f_bit xy (1 : Int32))]) :: L')) :
    OC l Z (⟨"com/example/eratosthenes/eratosthenes/tune/GeneticSearch", "comb", "([Z[Z)[Z"⟩ : MethodName) prog_27_method_3_code 4 (some (.array .boolean)) ws ({ frames := 0, cells := 1, slots := 2, locals := 0 } : Room) n0 #[(.ref xa), (.ref xb)] h0 (fun r h => ∃ a, r = some (.ref a) ∧ OL n0 h ((a, OA Z .boolean [(f_bit xx (0 : Int32)), (f_bit xy (1 : Int32))]) :: (xa, OA Z .boolean [(f_bit xx (0 : Int32)), (f_bit xx (1 : Int32))]) :: (xb, OA Z .boolean [(f_bit xy (0 : Int32)), (f_bit xy (1 : Int32))]) :: L')) := by
  refine OC.of pn_1 hn0 #[.val (.ref xa), .val (.ref xb), .unset, .unset] (fun m => by first | (simp [entryFrame, mkF, argsToLocals, Value.category, maxLocals]; done) | rfl) ?_
  intro p e s m below meth cd0 T0 X0 Q' hQ
  refine o_aloadN X0 d2_0 rfl rfl 1 rfl ?_
  refine o_arraylength X0 H0 0 rfl d2_1 (2 : Int32) rfl 2 rfl ?_
  refine o_newarray (L := ((xa, OA Z .boolean [(f_bit xx (0 : Int32)), (f_bit xx (1 : Int32))]) :: (xb, OA Z .boolean [(f_bit xy (0 : Int32)), (f_bit xy (1 : Int32))]) :: L')) X0 H0 d2_2 (hw _ (List.mem_of_getElem? (i := 0) rfl)) rfl rfl 2 2 rfl (by decide) (by decide) 1 2 rfl rfl (by decide) (by decide) 4 rfl ?_
  intro T1 h1 b1 X1 H1
  replace H1 : OL n0 h1 ((b1, OA Z .boolean [(0 : Int32), (0 : Int32)]) :: (xa, OA Z .boolean [(f_bit xx (0 : Int32)), (f_bit xx (1 : Int32))]) :: (xb, OA Z .boolean [(f_bit xy (0 : Int32)), (f_bit xy (1 : Int32))]) :: L') := H1
  refine o_astoreN X1 d2_4 rfl #[.val (.ref xa), .val (.ref xb), .val (.ref b1), .unset] rfl 5 rfl ?_
  refine o_iconst (v := (0 : Int32)) X1 d2_5 rfl 6 rfl ?_
  refine o_istoreN X1 d2_6 #[.val (.ref xa), .val (.ref xb), .val (.ref b1), .val (.int (0 : Int32))] rfl 7 rfl ?_
  refine o_iloadN X1 d2_7 rfl 8 rfl ?_
  refine o_aloadN X1 d2_8 rfl rfl 9 rfl ?_
  refine o_arraylength X1 H1 0 rfl d2_9 (2 : Int32) rfl 10 rfl ?_
  refine o_icmpGe X1 d2_10 37 13 (by decide) (by decide) rfl (fun q => by exfalso; exact absurd q (by decide)) ?_
  intro hc10
  refine o_aloadN X1 d2_13 rfl rfl 14 rfl ?_
  refine o_iloadN X1 d2_14 rfl 15 rfl ?_
  refine o_iloadN X1 d2_15 rfl 16 rfl ?_
  refine o_iconst (v := (2 : Int32)) X1 d2_16 rfl 17 rfl ?_
  refine o_irem X1 d2_17 (by decide) 18 rfl ?_
  refine o_ifNe X1 d2_18 27 21 (by decide) (by decide) rfl (fun q => by exfalso; exact absurd q (by decide)) ?_
  intro hc18
  refine o_aloadN X1 d2_21 rfl rfl 22 rfl ?_
  refine o_iloadN X1 d2_22 rfl 23 rfl ?_
  refine o_baloadZ X1 H1 1 rfl d2_23 0 rfl (f_bit xx (0 : Int32)) rfl 24 rfl ?_
  refine o_goto X1 d2_24 30 (by decide) (by decide) ?_
  refine o_bastoreZ X1 H1 0 rfl d2_30 0 rfl (by show 0 < 2; decide) (f_bit xx (0 : Int32)) (v_nar _ _) 31 rfl ?_
  intro T2 h2 X2 H2
  replace H2 : OL n0 h2 ((b1, OA Z .boolean [(f_bit xx (0 : Int32)), (0 : Int32)]) :: (xa, OA Z .boolean [(f_bit xx (0 : Int32)), (f_bit xx (1 : Int32))]) :: (xb, OA Z .boolean [(f_bit xy (0 : Int32)), (f_bit xy (1 : Int32))]) :: L') := H2
  refine o_iinc (v := (0 : Int32)) (w := (1 : Int32)) X2 d2_31 rfl rfl #[.val (.ref xa), .val (.ref xb), .val (.ref b1), .val (.int (1 : Int32))] rfl 34 rfl ?_
  refine o_goto X2 d2_34 7 (by decide) (by decide) ?_
  refine o_iloadN X2 d2_7 rfl 8 rfl ?_
  refine o_aloadN X2 d2_8 rfl rfl 9 rfl ?_
  refine o_arraylength X2 H2 0 rfl d2_9 (2 : Int32) rfl 10 rfl ?_
  refine o_icmpGe X2 d2_10 37 13 (by decide) (by decide) rfl (fun q => by exfalso; exact absurd q (by decide)) ?_
  intro hc10_1
  refine o_aloadN X2 d2_13 rfl rfl 14 rfl ?_
  refine o_iloadN X2 d2_14 rfl 15 rfl ?_
  refine o_iloadN X2 d2_15 rfl 16 rfl ?_
  refine o_iconst (v := (2 : Int32)) X2 d2_16 rfl 17 rfl ?_
  refine o_irem X2 d2_17 (by decide) 18 rfl ?_
  refine o_ifNe X2 d2_18 27 21 (by decide) (by decide) rfl ?_ (fun q => by exfalso; exact absurd q (by decide))
  intro hc18_1
  refine o_aloadN X2 d2_27 rfl rfl 28 rfl ?_
  refine o_iloadN X2 d2_28 rfl 29 rfl ?_
  refine o_baloadZ X2 H2 2 rfl d2_29 1 rfl (f_bit xy (1 : Int32)) rfl 30 rfl ?_
  refine o_bastoreZ X2 H2 0 rfl d2_30 1 rfl (by show 1 < 2; decide) (f_bit xy (1 : Int32)) (v_nar _ _) 31 rfl ?_
  intro T3 h3 X3 H3
  replace H3 : OL n0 h3 ((b1, OA Z .boolean [(f_bit xx (0 : Int32)), (f_bit xy (1 : Int32))]) :: (xa, OA Z .boolean [(f_bit xx (0 : Int32)), (f_bit xx (1 : Int32))]) :: (xb, OA Z .boolean [(f_bit xy (0 : Int32)), (f_bit xy (1 : Int32))]) :: L') := H3
  refine o_iinc (v := (1 : Int32)) (w := (2 : Int32)) X3 d2_31 rfl rfl #[.val (.ref xa), .val (.ref xb), .val (.ref b1), .val (.int (2 : Int32))] rfl 34 rfl ?_
  refine o_goto X3 d2_34 7 (by decide) (by decide) ?_
  refine o_iloadN X3 d2_7 rfl 8 rfl ?_
  refine o_aloadN X3 d2_8 rfl rfl 9 rfl ?_
  refine o_arraylength X3 H3 0 rfl d2_9 (2 : Int32) rfl 10 rfl ?_
  refine o_icmpGe X3 d2_10 37 13 (by decide) (by decide) rfl ?_ (fun q => by exfalso; exact absurd q (by decide))
  intro hc10_2
  refine o_aloadN X3 d2_37 rfl rfl 38 rfl ?_
  exact o_retA X3 rfl rfl d2_38 (by decide) (by decide) (hQ _ _ ⟨_, rfl, H3⟩)
set_option maxRecDepth 65536 in
set_option maxHeartbeats 40000000 in
theorem c_same2 (l : Launch) (Z : State) (a0 : Array Value) (hw : ∀ d ∈ tables_1, d.before a0 Z = true) (ws : List Jvm.Cond) (n0 : Nat) (h0 : Heap) (hn0 : n0 ≤ h0.size) (xa : Addr) (xv : Int32) (L' : List (Addr × (Cell → Prop))) (H0 : OL n0 h0 ((xa, OA Z .boolean [(f_bit xv (0 : Int32)), (f_bit xv (1 : Int32))]) :: L')) :
    OC l Z (⟨"com/example/eratosthenes/eratosthenes/tune/GeneticSearchCombPinLaw", "same", "([ZI)Z"⟩ : MethodName) method_5_code 2 (some .boolean) ws ({ frames := 1, cells := 0, slots := 0, locals := 15 } : Room) n0 #[(.ref xa), (.int xv)] h0 (fun r h => r = some (.int 1) ∧ h0 = h) := by
  refine OC.of pn_0 hn0 #[.val (.ref xa), .val (.int xv)] (fun m => by first | (simp [entryFrame, mkF, argsToLocals, Value.category, maxLocals]; done) | rfl) ?_
  intro p e s m below meth cd0 T0 X0 Q' hQ
  refine o_aloadN X0 d5_0 rfl rfl 1 rfl ?_
  refine o_iconst (v := (0 : Int32)) X0 d5_1 rfl 2 rfl ?_
  refine o_iloadN X0 d5_2 rfl 3 rfl ?_
  refine o_iconst (v := (0 : Int32)) X0 d5_3 rfl 4 rfl ?_
  refine o_callS X0 d5_4 (rest := [(.int (0 : Int32)), (.ref xa)]) (c_bit l Z a0 hw [] n0 _ X0.size xv (0 : Int32) ) (hw _ (List.mem_of_getElem? (i := 9) rfl)) (hw _ (List.mem_of_getElem? (i := 10) rfl)) (hw _ (List.mem_of_getElem? (i := 3) rfl)) (hw _ (List.mem_of_getElem? (i := 11) rfl)) (by decide) 2 (by decide) (by decide) rfl [(.int xv), (.int (0 : Int32))] rfl pd_3 rfl rfl (Nat.le_of_eq rfl) 0 0 rfl rfl (by decide) (by decide) 7 rfl ?_
  rintro _ T1 _ X1 ⟨rfl, rfl⟩
  show OE p e ({ frames := 1, cells := 0, slots := 0, locals := 15 } : Room) below s n0 Q' T1 (mkF m 7 #[.val (.ref xa), .val (.int xv)] [(.int (f_bit xv (0 : Int32))), (.int (0 : Int32)), (.ref xa)])
  refine o_callS X1 d5_7 (rest := []) (c_at l Z a0 hw [] n0 _ X1.size xa (0 : Int32) (f_bit xv (0 : Int32)) [(f_bit xv (0 : Int32)), (f_bit xv (1 : Int32))] L' H0 0 rfl (Or.inr rfl)) (hw _ (List.mem_of_getElem? (i := 12) rfl)) (hw _ (List.mem_of_getElem? (i := 13) rfl)) (hw _ (List.mem_of_getElem? (i := 3) rfl)) (hw _ (List.mem_of_getElem? (i := 14) rfl)) (by decide) 0 (by decide) (by decide) rfl [(.ref xa), (.int (0 : Int32)), (.int (f_bit xv (0 : Int32)))] rfl pd_4 rfl rfl (Nat.le_of_eq rfl) 0 0 rfl rfl (by decide) (by decide) 10 rfl ?_
  rintro _ T2 _ X2 ⟨rfl, rfl⟩
  show OE p e ({ frames := 1, cells := 0, slots := 0, locals := 15 } : Room) below s n0 Q' T2 (mkF m 10 #[.val (.ref xa), .val (.int xv)] [(.int (1 : Int32))])
  refine o_ifEq X2 d5_10 97 13 (by decide) (by decide) rfl (fun q => by exfalso; exact absurd q (by decide)) ?_
  intro hc10
  refine o_aloadN X2 d5_13 rfl rfl 14 rfl ?_
  refine o_iconst (v := (1 : Int32)) X2 d5_14 rfl 15 rfl ?_
  refine o_iloadN X2 d5_15 rfl 16 rfl ?_
  refine o_iconst (v := (1 : Int32)) X2 d5_16 rfl 17 rfl ?_
  refine o_callS X2 d5_17 (rest := [(.int (1 : Int32)), (.ref xa)]) (c_bit l Z a0 hw [] n0 _ X2.size xv (1 : Int32) ) (hw _ (List.mem_of_getElem? (i := 9) rfl)) (hw _ (List.mem_of_getElem? (i := 10) rfl)) (hw _ (List.mem_of_getElem? (i := 3) rfl)) (hw _ (List.mem_of_getElem? (i := 11) rfl)) (by decide) 2 (by decide) (by decide) rfl [(.int xv), (.int (1 : Int32))] rfl pd_3 rfl rfl (Nat.le_of_eq rfl) 0 0 rfl rfl (by decide) (by decide) 20 rfl ?_
  rintro _ T3 _ X3 ⟨rfl, rfl⟩
  show OE p e ({ frames := 1, cells := 0, slots := 0, locals := 15 } : Room) below s n0 Q' T3 (mkF m 20 #[.val (.ref xa), .val (.int xv)] [(.int (f_bit xv (1 : Int32))), (.int (1 : Int32)), (.ref xa)])
  refine o_callS X3 d5_20 (rest := []) (c_at l Z a0 hw [] n0 _ X3.size xa (1 : Int32) (f_bit xv (1 : Int32)) [(f_bit xv (0 : Int32)), (f_bit xv (1 : Int32))] L' H0 1 rfl (Or.inr rfl)) (hw _ (List.mem_of_getElem? (i := 12) rfl)) (hw _ (List.mem_of_getElem? (i := 13) rfl)) (hw _ (List.mem_of_getElem? (i := 3) rfl)) (hw _ (List.mem_of_getElem? (i := 14) rfl)) (by decide) 0 (by decide) (by decide) rfl [(.ref xa), (.int (1 : Int32)), (.int (f_bit xv (1 : Int32)))] rfl pd_4 rfl rfl (Nat.le_of_eq rfl) 0 0 rfl rfl (by decide) (by decide) 23 rfl ?_
  rintro _ T4 _ X4 ⟨rfl, rfl⟩
  show OE p e ({ frames := 1, cells := 0, slots := 0, locals := 15 } : Room) below s n0 Q' T4 (mkF m 23 #[.val (.ref xa), .val (.int xv)] [(.int (1 : Int32))])
  refine o_ifEq X4 d5_23 97 26 (by decide) (by decide) rfl (fun q => by exfalso; exact absurd q (by decide)) ?_
  intro hc23
  refine o_aloadN X4 d5_26 rfl rfl 27 rfl ?_
  refine o_iconst (v := (2 : Int32)) X4 d5_27 rfl 28 rfl ?_
  refine o_iloadN X4 d5_28 rfl 29 rfl ?_
  refine o_iconst (v := (2 : Int32)) X4 d5_29 rfl 30 rfl ?_
  refine o_callS X4 d5_30 (rest := [(.int (2 : Int32)), (.ref xa)]) (c_bit l Z a0 hw [] n0 _ X4.size xv (2 : Int32) ) (hw _ (List.mem_of_getElem? (i := 9) rfl)) (hw _ (List.mem_of_getElem? (i := 10) rfl)) (hw _ (List.mem_of_getElem? (i := 3) rfl)) (hw _ (List.mem_of_getElem? (i := 11) rfl)) (by decide) 2 (by decide) (by decide) rfl [(.int xv), (.int (2 : Int32))] rfl pd_3 rfl rfl (Nat.le_of_eq rfl) 0 0 rfl rfl (by decide) (by decide) 33 rfl ?_
  rintro _ T5 _ X5 ⟨rfl, rfl⟩
  show OE p e ({ frames := 1, cells := 0, slots := 0, locals := 15 } : Room) below s n0 Q' T5 (mkF m 33 #[.val (.ref xa), .val (.int xv)] [(.int (f_bit xv (2 : Int32))), (.int (2 : Int32)), (.ref xa)])
  refine o_callS X5 d5_33 (rest := []) (c_at l Z a0 hw [] n0 _ X5.size xa (2 : Int32) (f_bit xv (2 : Int32)) [(f_bit xv (0 : Int32)), (f_bit xv (1 : Int32))] L' H0 2 rfl (Or.inl (by show 2 ≤ 2; decide))) (hw _ (List.mem_of_getElem? (i := 12) rfl)) (hw _ (List.mem_of_getElem? (i := 13) rfl)) (hw _ (List.mem_of_getElem? (i := 3) rfl)) (hw _ (List.mem_of_getElem? (i := 14) rfl)) (by decide) 0 (by decide) (by decide) rfl [(.ref xa), (.int (2 : Int32)), (.int (f_bit xv (2 : Int32)))] rfl pd_4 rfl rfl (Nat.le_of_eq rfl) 0 0 rfl rfl (by decide) (by decide) 36 rfl ?_
  rintro _ T6 _ X6 ⟨rfl, rfl⟩
  show OE p e ({ frames := 1, cells := 0, slots := 0, locals := 15 } : Room) below s n0 Q' T6 (mkF m 36 #[.val (.ref xa), .val (.int xv)] [(.int (1 : Int32))])
  refine o_ifEq X6 d5_36 97 39 (by decide) (by decide) rfl (fun q => by exfalso; exact absurd q (by decide)) ?_
  intro hc36
  refine o_aloadN X6 d5_39 rfl rfl 40 rfl ?_
  refine o_iconst (v := (3 : Int32)) X6 d5_40 rfl 41 rfl ?_
  refine o_iloadN X6 d5_41 rfl 42 rfl ?_
  refine o_iconst (v := (3 : Int32)) X6 d5_42 rfl 43 rfl ?_
  refine o_callS X6 d5_43 (rest := [(.int (3 : Int32)), (.ref xa)]) (c_bit l Z a0 hw [] n0 _ X6.size xv (3 : Int32) ) (hw _ (List.mem_of_getElem? (i := 9) rfl)) (hw _ (List.mem_of_getElem? (i := 10) rfl)) (hw _ (List.mem_of_getElem? (i := 3) rfl)) (hw _ (List.mem_of_getElem? (i := 11) rfl)) (by decide) 2 (by decide) (by decide) rfl [(.int xv), (.int (3 : Int32))] rfl pd_3 rfl rfl (Nat.le_of_eq rfl) 0 0 rfl rfl (by decide) (by decide) 46 rfl ?_
  rintro _ T7 _ X7 ⟨rfl, rfl⟩
  show OE p e ({ frames := 1, cells := 0, slots := 0, locals := 15 } : Room) below s n0 Q' T7 (mkF m 46 #[.val (.ref xa), .val (.int xv)] [(.int (f_bit xv (3 : Int32))), (.int (3 : Int32)), (.ref xa)])
  refine o_callS X7 d5_46 (rest := []) (c_at l Z a0 hw [] n0 _ X7.size xa (3 : Int32) (f_bit xv (3 : Int32)) [(f_bit xv (0 : Int32)), (f_bit xv (1 : Int32))] L' H0 3 rfl (Or.inl (by show 2 ≤ 3; decide))) (hw _ (List.mem_of_getElem? (i := 12) rfl)) (hw _ (List.mem_of_getElem? (i := 13) rfl)) (hw _ (List.mem_of_getElem? (i := 3) rfl)) (hw _ (List.mem_of_getElem? (i := 14) rfl)) (by decide) 0 (by decide) (by decide) rfl [(.ref xa), (.int (3 : Int32)), (.int (f_bit xv (3 : Int32)))] rfl pd_4 rfl rfl (Nat.le_of_eq rfl) 0 0 rfl rfl (by decide) (by decide) 49 rfl ?_
  rintro _ T8 _ X8 ⟨rfl, rfl⟩
  show OE p e ({ frames := 1, cells := 0, slots := 0, locals := 15 } : Room) below s n0 Q' T8 (mkF m 49 #[.val (.ref xa), .val (.int xv)] [(.int (1 : Int32))])
  refine o_ifEq X8 d5_49 97 52 (by decide) (by decide) rfl (fun q => by exfalso; exact absurd q (by decide)) ?_
  intro hc49
  refine o_aloadN X8 d5_52 rfl rfl 53 rfl ?_
  refine o_iconst (v := (4 : Int32)) X8 d5_53 rfl 54 rfl ?_
  refine o_iloadN X8 d5_54 rfl 55 rfl ?_
  refine o_iconst (v := (4 : Int32)) X8 d5_55 rfl 56 rfl ?_
  refine o_callS X8 d5_56 (rest := [(.int (4 : Int32)), (.ref xa)]) (c_bit l Z a0 hw [] n0 _ X8.size xv (4 : Int32) ) (hw _ (List.mem_of_getElem? (i := 9) rfl)) (hw _ (List.mem_of_getElem? (i := 10) rfl)) (hw _ (List.mem_of_getElem? (i := 3) rfl)) (hw _ (List.mem_of_getElem? (i := 11) rfl)) (by decide) 2 (by decide) (by decide) rfl [(.int xv), (.int (4 : Int32))] rfl pd_3 rfl rfl (Nat.le_of_eq rfl) 0 0 rfl rfl (by decide) (by decide) 59 rfl ?_
  rintro _ T9 _ X9 ⟨rfl, rfl⟩
  show OE p e ({ frames := 1, cells := 0, slots := 0, locals := 15 } : Room) below s n0 Q' T9 (mkF m 59 #[.val (.ref xa), .val (.int xv)] [(.int (f_bit xv (4 : Int32))), (.int (4 : Int32)), (.ref xa)])
  refine o_callS X9 d5_59 (rest := []) (c_at l Z a0 hw [] n0 _ X9.size xa (4 : Int32) (f_bit xv (4 : Int32)) [(f_bit xv (0 : Int32)), (f_bit xv (1 : Int32))] L' H0 4 rfl (Or.inl (by show 2 ≤ 4; decide))) (hw _ (List.mem_of_getElem? (i := 12) rfl)) (hw _ (List.mem_of_getElem? (i := 13) rfl)) (hw _ (List.mem_of_getElem? (i := 3) rfl)) (hw _ (List.mem_of_getElem? (i := 14) rfl)) (by decide) 0 (by decide) (by decide) rfl [(.ref xa), (.int (4 : Int32)), (.int (f_bit xv (4 : Int32)))] rfl pd_4 rfl rfl (Nat.le_of_eq rfl) 0 0 rfl rfl (by decide) (by decide) 62 rfl ?_
  rintro _ T10 _ X10 ⟨rfl, rfl⟩
  show OE p e ({ frames := 1, cells := 0, slots := 0, locals := 15 } : Room) below s n0 Q' T10 (mkF m 62 #[.val (.ref xa), .val (.int xv)] [(.int (1 : Int32))])
  refine o_ifEq X10 d5_62 97 65 (by decide) (by decide) rfl (fun q => by exfalso; exact absurd q (by decide)) ?_
  intro hc62
  refine o_aloadN X10 d5_65 rfl rfl 66 rfl ?_
  refine o_iconst (v := (5 : Int32)) X10 d5_66 rfl 67 rfl ?_
  refine o_iloadN X10 d5_67 rfl 68 rfl ?_
  refine o_iconst (v := (5 : Int32)) X10 d5_68 rfl 69 rfl ?_
  refine o_callS X10 d5_69 (rest := [(.int (5 : Int32)), (.ref xa)]) (c_bit l Z a0 hw [] n0 _ X10.size xv (5 : Int32) ) (hw _ (List.mem_of_getElem? (i := 9) rfl)) (hw _ (List.mem_of_getElem? (i := 10) rfl)) (hw _ (List.mem_of_getElem? (i := 3) rfl)) (hw _ (List.mem_of_getElem? (i := 11) rfl)) (by decide) 2 (by decide) (by decide) rfl [(.int xv), (.int (5 : Int32))] rfl pd_3 rfl rfl (Nat.le_of_eq rfl) 0 0 rfl rfl (by decide) (by decide) 72 rfl ?_
  rintro _ T11 _ X11 ⟨rfl, rfl⟩
  show OE p e ({ frames := 1, cells := 0, slots := 0, locals := 15 } : Room) below s n0 Q' T11 (mkF m 72 #[.val (.ref xa), .val (.int xv)] [(.int (f_bit xv (5 : Int32))), (.int (5 : Int32)), (.ref xa)])
  refine o_callS X11 d5_72 (rest := []) (c_at l Z a0 hw [] n0 _ X11.size xa (5 : Int32) (f_bit xv (5 : Int32)) [(f_bit xv (0 : Int32)), (f_bit xv (1 : Int32))] L' H0 5 rfl (Or.inl (by show 2 ≤ 5; decide))) (hw _ (List.mem_of_getElem? (i := 12) rfl)) (hw _ (List.mem_of_getElem? (i := 13) rfl)) (hw _ (List.mem_of_getElem? (i := 3) rfl)) (hw _ (List.mem_of_getElem? (i := 14) rfl)) (by decide) 0 (by decide) (by decide) rfl [(.ref xa), (.int (5 : Int32)), (.int (f_bit xv (5 : Int32)))] rfl pd_4 rfl rfl (Nat.le_of_eq rfl) 0 0 rfl rfl (by decide) (by decide) 75 rfl ?_
  rintro _ T12 _ X12 ⟨rfl, rfl⟩
  show OE p e ({ frames := 1, cells := 0, slots := 0, locals := 15 } : Room) below s n0 Q' T12 (mkF m 75 #[.val (.ref xa), .val (.int xv)] [(.int (1 : Int32))])
  refine o_ifEq X12 d5_75 97 78 (by decide) (by decide) rfl (fun q => by exfalso; exact absurd q (by decide)) ?_
  intro hc75
  refine o_aloadN X12 d5_78 rfl rfl 79 rfl ?_
  refine o_bipush (v := (6 : Int32)) X12 d5_79 rfl 81 rfl ?_
  refine o_iloadN X12 d5_81 rfl 82 rfl ?_
  refine o_bipush (v := (6 : Int32)) X12 d5_82 rfl 84 rfl ?_
  refine o_callS X12 d5_84 (rest := [(.int (6 : Int32)), (.ref xa)]) (c_bit l Z a0 hw [] n0 _ X12.size xv (6 : Int32) ) (hw _ (List.mem_of_getElem? (i := 9) rfl)) (hw _ (List.mem_of_getElem? (i := 10) rfl)) (hw _ (List.mem_of_getElem? (i := 3) rfl)) (hw _ (List.mem_of_getElem? (i := 11) rfl)) (by decide) 2 (by decide) (by decide) rfl [(.int xv), (.int (6 : Int32))] rfl pd_3 rfl rfl (Nat.le_of_eq rfl) 0 0 rfl rfl (by decide) (by decide) 87 rfl ?_
  rintro _ T13 _ X13 ⟨rfl, rfl⟩
  show OE p e ({ frames := 1, cells := 0, slots := 0, locals := 15 } : Room) below s n0 Q' T13 (mkF m 87 #[.val (.ref xa), .val (.int xv)] [(.int (f_bit xv (6 : Int32))), (.int (6 : Int32)), (.ref xa)])
  refine o_callS X13 d5_87 (rest := []) (c_at l Z a0 hw [] n0 _ X13.size xa (6 : Int32) (f_bit xv (6 : Int32)) [(f_bit xv (0 : Int32)), (f_bit xv (1 : Int32))] L' H0 6 rfl (Or.inl (by show 2 ≤ 6; decide))) (hw _ (List.mem_of_getElem? (i := 12) rfl)) (hw _ (List.mem_of_getElem? (i := 13) rfl)) (hw _ (List.mem_of_getElem? (i := 3) rfl)) (hw _ (List.mem_of_getElem? (i := 14) rfl)) (by decide) 0 (by decide) (by decide) rfl [(.ref xa), (.int (6 : Int32)), (.int (f_bit xv (6 : Int32)))] rfl pd_4 rfl rfl (Nat.le_of_eq rfl) 0 0 rfl rfl (by decide) (by decide) 90 rfl ?_
  rintro _ T14 _ X14 ⟨rfl, rfl⟩
  show OE p e ({ frames := 1, cells := 0, slots := 0, locals := 15 } : Room) below s n0 Q' T14 (mkF m 90 #[.val (.ref xa), .val (.int xv)] [(.int (1 : Int32))])
  refine o_ifEq X14 d5_90 97 93 (by decide) (by decide) rfl (fun q => by exfalso; exact absurd q (by decide)) ?_
  intro hc90
  refine o_iconst (v := (1 : Int32)) X14 d5_93 rfl 94 rfl ?_
  refine o_goto X14 d5_94 98 (by decide) (by decide) ?_
  exact o_retZ X14 d5_98 (by decide) (by decide) (hQ _ _ ⟨rfl, rfl⟩)
set_option maxRecDepth 65536 in
set_option maxHeartbeats 40000000 in
theorem c_fill3 (l : Launch) (Z : State) (a0 : Array Value) (hw : ∀ d ∈ tables_1, d.before a0 Z = true) (ws : List Jvm.Cond) (n0 : Nat) (h0 : Heap) (hn0 : n0 ≤ h0.size) (xa : Addr) (xv : Int32) (L' : List (Addr × (Cell → Prop))) (H0 : OL n0 h0 ((xa, OA Z .boolean [(0 : Int32), (0 : Int32), (0 : Int32)]) :: L')) :
    OC l Z (⟨"com/example/eratosthenes/eratosthenes/tune/GeneticSearchCombPinLaw", "fill", "([ZI)V"⟩ : MethodName) method_4_code 2 none ws ({ frames := 1, cells := 0, slots := 0, locals := 15 } : Room) n0 #[(.ref xa), (.int xv)] h0 (fun r h => r = none ∧ OL n0 h ((xa, OA Z .boolean [(f_bit xv (0 : Int32)), (f_bit xv (1 : Int32)), (f_bit xv (2 : Int32))]) :: L')) := by
  refine OC.of pn_0 hn0 #[.val (.ref xa), .val (.int xv)] (fun m => by first | (simp [entryFrame, mkF, argsToLocals, Value.category, maxLocals]; done) | rfl) ?_
  intro p e s m below meth cd0 T0 X0 Q' hQ
  refine o_aloadN X0 d1_0 rfl rfl 1 rfl ?_
  refine o_arraylength X0 H0 0 rfl d1_1 (3 : Int32) rfl 2 rfl ?_
  refine o_ifLe X0 d1_2 13 5 (by decide) (by decide) rfl (fun q => by exfalso; exact absurd q (by decide)) ?_
  intro hc2
  refine o_aloadN X0 d1_5 rfl rfl 6 rfl ?_
  refine o_iconst (v := (0 : Int32)) X0 d1_6 rfl 7 rfl ?_
  refine o_iloadN X0 d1_7 rfl 8 rfl ?_
  refine o_iconst (v := (0 : Int32)) X0 d1_8 rfl 9 rfl ?_
  refine o_callS X0 d1_9 (rest := [(.int (0 : Int32)), (.ref xa)]) (c_bit l Z a0 hw [] n0 _ X0.size xv (0 : Int32) ) (hw _ (List.mem_of_getElem? (i := 9) rfl)) (hw _ (List.mem_of_getElem? (i := 10) rfl)) (hw _ (List.mem_of_getElem? (i := 3) rfl)) (hw _ (List.mem_of_getElem? (i := 11) rfl)) (by decide) 2 (by decide) (by decide) rfl [(.int xv), (.int (0 : Int32))] rfl pd_3 rfl rfl (Nat.le_of_eq rfl) 0 0 rfl rfl (by decide) (by decide) 12 rfl ?_
  rintro _ T1 _ X1 ⟨rfl, rfl⟩
  show OE p e ({ frames := 1, cells := 0, slots := 0, locals := 15 } : Room) below s n0 Q' T1 (mkF m 12 #[.val (.ref xa), .val (.int xv)] [(.int (f_bit xv (0 : Int32))), (.int (0 : Int32)), (.ref xa)])
  refine o_bastoreZ X1 H0 0 rfl d1_12 0 rfl (by show 0 < 3; decide) (f_bit xv (0 : Int32)) (v_nar _ _) 13 rfl ?_
  intro T2 h2 X2 H2
  replace H2 : OL n0 h2 ((xa, OA Z .boolean [(f_bit xv (0 : Int32)), (0 : Int32), (0 : Int32)]) :: L') := H2
  refine o_aloadN X2 d1_13 rfl rfl 14 rfl ?_
  refine o_arraylength X2 H2 0 rfl d1_14 (3 : Int32) rfl 15 rfl ?_
  refine o_iconst (v := (1 : Int32)) X2 d1_15 rfl 16 rfl ?_
  refine o_icmpLe X2 d1_16 27 19 (by decide) (by decide) rfl (fun q => by exfalso; exact absurd q (by decide)) ?_
  intro hc16
  refine o_aloadN X2 d1_19 rfl rfl 20 rfl ?_
  refine o_iconst (v := (1 : Int32)) X2 d1_20 rfl 21 rfl ?_
  refine o_iloadN X2 d1_21 rfl 22 rfl ?_
  refine o_iconst (v := (1 : Int32)) X2 d1_22 rfl 23 rfl ?_
  refine o_callS X2 d1_23 (rest := [(.int (1 : Int32)), (.ref xa)]) (c_bit l Z a0 hw [] n0 _ X2.size xv (1 : Int32) ) (hw _ (List.mem_of_getElem? (i := 9) rfl)) (hw _ (List.mem_of_getElem? (i := 10) rfl)) (hw _ (List.mem_of_getElem? (i := 3) rfl)) (hw _ (List.mem_of_getElem? (i := 11) rfl)) (by decide) 2 (by decide) (by decide) rfl [(.int xv), (.int (1 : Int32))] rfl pd_3 rfl rfl (Nat.le_of_eq rfl) 0 0 rfl rfl (by decide) (by decide) 26 rfl ?_
  rintro _ T3 _ X3 ⟨rfl, rfl⟩
  show OE p e ({ frames := 1, cells := 0, slots := 0, locals := 15 } : Room) below s n0 Q' T3 (mkF m 26 #[.val (.ref xa), .val (.int xv)] [(.int (f_bit xv (1 : Int32))), (.int (1 : Int32)), (.ref xa)])
  refine o_bastoreZ X3 H2 0 rfl d1_26 1 rfl (by show 1 < 3; decide) (f_bit xv (1 : Int32)) (v_nar _ _) 27 rfl ?_
  intro T4 h4 X4 H4
  replace H4 : OL n0 h4 ((xa, OA Z .boolean [(f_bit xv (0 : Int32)), (f_bit xv (1 : Int32)), (0 : Int32)]) :: L') := H4
  refine o_aloadN X4 d1_27 rfl rfl 28 rfl ?_
  refine o_arraylength X4 H4 0 rfl d1_28 (3 : Int32) rfl 29 rfl ?_
  refine o_iconst (v := (2 : Int32)) X4 d1_29 rfl 30 rfl ?_
  refine o_icmpLe X4 d1_30 41 33 (by decide) (by decide) rfl (fun q => by exfalso; exact absurd q (by decide)) ?_
  intro hc30
  refine o_aloadN X4 d1_33 rfl rfl 34 rfl ?_
  refine o_iconst (v := (2 : Int32)) X4 d1_34 rfl 35 rfl ?_
  refine o_iloadN X4 d1_35 rfl 36 rfl ?_
  refine o_iconst (v := (2 : Int32)) X4 d1_36 rfl 37 rfl ?_
  refine o_callS X4 d1_37 (rest := [(.int (2 : Int32)), (.ref xa)]) (c_bit l Z a0 hw [] n0 _ X4.size xv (2 : Int32) ) (hw _ (List.mem_of_getElem? (i := 9) rfl)) (hw _ (List.mem_of_getElem? (i := 10) rfl)) (hw _ (List.mem_of_getElem? (i := 3) rfl)) (hw _ (List.mem_of_getElem? (i := 11) rfl)) (by decide) 2 (by decide) (by decide) rfl [(.int xv), (.int (2 : Int32))] rfl pd_3 rfl rfl (Nat.le_of_eq rfl) 0 0 rfl rfl (by decide) (by decide) 40 rfl ?_
  rintro _ T5 _ X5 ⟨rfl, rfl⟩
  show OE p e ({ frames := 1, cells := 0, slots := 0, locals := 15 } : Room) below s n0 Q' T5 (mkF m 40 #[.val (.ref xa), .val (.int xv)] [(.int (f_bit xv (2 : Int32))), (.int (2 : Int32)), (.ref xa)])
  refine o_bastoreZ X5 H4 0 rfl d1_40 2 rfl (by show 2 < 3; decide) (f_bit xv (2 : Int32)) (v_nar _ _) 41 rfl ?_
  intro T6 h6 X6 H6
  replace H6 : OL n0 h6 ((xa, OA Z .boolean [(f_bit xv (0 : Int32)), (f_bit xv (1 : Int32)), (f_bit xv (2 : Int32))]) :: L') := H6
  refine o_aloadN X6 d1_41 rfl rfl 42 rfl ?_
  refine o_arraylength X6 H6 0 rfl d1_42 (3 : Int32) rfl 43 rfl ?_
  refine o_iconst (v := (3 : Int32)) X6 d1_43 rfl 44 rfl ?_
  refine o_icmpLe X6 d1_44 55 47 (by decide) (by decide) rfl ?_ (fun q => by exfalso; exact absurd q (by decide))
  intro hc44
  refine o_aloadN X6 d1_55 rfl rfl 56 rfl ?_
  refine o_arraylength X6 H6 0 rfl d1_56 (3 : Int32) rfl 57 rfl ?_
  refine o_iconst (v := (4 : Int32)) X6 d1_57 rfl 58 rfl ?_
  refine o_icmpLe X6 d1_58 69 61 (by decide) (by decide) rfl ?_ (fun q => by exfalso; exact absurd q (by decide))
  intro hc58
  refine o_aloadN X6 d1_69 rfl rfl 70 rfl ?_
  refine o_arraylength X6 H6 0 rfl d1_70 (3 : Int32) rfl 71 rfl ?_
  refine o_iconst (v := (5 : Int32)) X6 d1_71 rfl 72 rfl ?_
  refine o_icmpLe X6 d1_72 83 75 (by decide) (by decide) rfl ?_ (fun q => by exfalso; exact absurd q (by decide))
  intro hc72
  refine o_aloadN X6 d1_83 rfl rfl 84 rfl ?_
  refine o_arraylength X6 H6 0 rfl d1_84 (3 : Int32) rfl 85 rfl ?_
  refine o_bipush (v := (6 : Int32)) X6 d1_85 rfl 87 rfl ?_
  refine o_icmpLe X6 d1_87 100 90 (by decide) (by decide) rfl ?_ (fun q => by exfalso; exact absurd q (by decide))
  intro hc87
  exact o_ret X6 d1_100 (by decide) (by decide) (hQ _ _ ⟨rfl, H6⟩)
set_option maxRecDepth 65536 in
set_option maxHeartbeats 40000000 in
theorem c_comb3 (l : Launch) (Z : State) (a0 : Array Value) (hw : ∀ d ∈ tables_1, d.before a0 Z = true) (ws : List Jvm.Cond) (n0 : Nat) (h0 : Heap) (hn0 : n0 ≤ h0.size) (xa xb : Addr) (xx xy : Int32) (L' : List (Addr × (Cell → Prop))) (H0 : OL n0 h0 ((xa, OA Z .boolean [(f_bit xx (0 : Int32)), (f_bit xx (1 : Int32)), (f_bit xx (2 : Int32))]) :: (xb, OA Z .boolean [(f_bit xy (0 : Int32)), (f_bit xy (1 : Int32)), (f_bit xy (2 : Int32))]) :: L')) :
    OC l Z (⟨"com/example/eratosthenes/eratosthenes/tune/GeneticSearch", "comb", "([Z[Z)[Z"⟩ : MethodName) prog_27_method_3_code 4 (some (.array .boolean)) ws ({ frames := 0, cells := 1, slots := 3, locals := 0 } : Room) n0 #[(.ref xa), (.ref xb)] h0 (fun r h => ∃ a, r = some (.ref a) ∧ OL n0 h ((a, OA Z .boolean [(f_bit xx (0 : Int32)), (f_bit xy (1 : Int32)), (f_bit xx (2 : Int32))]) :: (xa, OA Z .boolean [(f_bit xx (0 : Int32)), (f_bit xx (1 : Int32)), (f_bit xx (2 : Int32))]) :: (xb, OA Z .boolean [(f_bit xy (0 : Int32)), (f_bit xy (1 : Int32)), (f_bit xy (2 : Int32))]) :: L')) := by
  refine OC.of pn_1 hn0 #[.val (.ref xa), .val (.ref xb), .unset, .unset] (fun m => by first | (simp [entryFrame, mkF, argsToLocals, Value.category, maxLocals]; done) | rfl) ?_
  intro p e s m below meth cd0 T0 X0 Q' hQ
  refine o_aloadN X0 d2_0 rfl rfl 1 rfl ?_
  refine o_arraylength X0 H0 0 rfl d2_1 (3 : Int32) rfl 2 rfl ?_
  refine o_newarray (L := ((xa, OA Z .boolean [(f_bit xx (0 : Int32)), (f_bit xx (1 : Int32)), (f_bit xx (2 : Int32))]) :: (xb, OA Z .boolean [(f_bit xy (0 : Int32)), (f_bit xy (1 : Int32)), (f_bit xy (2 : Int32))]) :: L')) X0 H0 d2_2 (hw _ (List.mem_of_getElem? (i := 0) rfl)) rfl rfl 3 3 rfl (by decide) (by decide) 1 3 rfl rfl (by decide) (by decide) 4 rfl ?_
  intro T1 h1 b1 X1 H1
  replace H1 : OL n0 h1 ((b1, OA Z .boolean [(0 : Int32), (0 : Int32), (0 : Int32)]) :: (xa, OA Z .boolean [(f_bit xx (0 : Int32)), (f_bit xx (1 : Int32)), (f_bit xx (2 : Int32))]) :: (xb, OA Z .boolean [(f_bit xy (0 : Int32)), (f_bit xy (1 : Int32)), (f_bit xy (2 : Int32))]) :: L') := H1
  refine o_astoreN X1 d2_4 rfl #[.val (.ref xa), .val (.ref xb), .val (.ref b1), .unset] rfl 5 rfl ?_
  refine o_iconst (v := (0 : Int32)) X1 d2_5 rfl 6 rfl ?_
  refine o_istoreN X1 d2_6 #[.val (.ref xa), .val (.ref xb), .val (.ref b1), .val (.int (0 : Int32))] rfl 7 rfl ?_
  refine o_iloadN X1 d2_7 rfl 8 rfl ?_
  refine o_aloadN X1 d2_8 rfl rfl 9 rfl ?_
  refine o_arraylength X1 H1 0 rfl d2_9 (3 : Int32) rfl 10 rfl ?_
  refine o_icmpGe X1 d2_10 37 13 (by decide) (by decide) rfl (fun q => by exfalso; exact absurd q (by decide)) ?_
  intro hc10
  refine o_aloadN X1 d2_13 rfl rfl 14 rfl ?_
  refine o_iloadN X1 d2_14 rfl 15 rfl ?_
  refine o_iloadN X1 d2_15 rfl 16 rfl ?_
  refine o_iconst (v := (2 : Int32)) X1 d2_16 rfl 17 rfl ?_
  refine o_irem X1 d2_17 (by decide) 18 rfl ?_
  refine o_ifNe X1 d2_18 27 21 (by decide) (by decide) rfl (fun q => by exfalso; exact absurd q (by decide)) ?_
  intro hc18
  refine o_aloadN X1 d2_21 rfl rfl 22 rfl ?_
  refine o_iloadN X1 d2_22 rfl 23 rfl ?_
  refine o_baloadZ X1 H1 1 rfl d2_23 0 rfl (f_bit xx (0 : Int32)) rfl 24 rfl ?_
  refine o_goto X1 d2_24 30 (by decide) (by decide) ?_
  refine o_bastoreZ X1 H1 0 rfl d2_30 0 rfl (by show 0 < 3; decide) (f_bit xx (0 : Int32)) (v_nar _ _) 31 rfl ?_
  intro T2 h2 X2 H2
  replace H2 : OL n0 h2 ((b1, OA Z .boolean [(f_bit xx (0 : Int32)), (0 : Int32), (0 : Int32)]) :: (xa, OA Z .boolean [(f_bit xx (0 : Int32)), (f_bit xx (1 : Int32)), (f_bit xx (2 : Int32))]) :: (xb, OA Z .boolean [(f_bit xy (0 : Int32)), (f_bit xy (1 : Int32)), (f_bit xy (2 : Int32))]) :: L') := H2
  refine o_iinc (v := (0 : Int32)) (w := (1 : Int32)) X2 d2_31 rfl rfl #[.val (.ref xa), .val (.ref xb), .val (.ref b1), .val (.int (1 : Int32))] rfl 34 rfl ?_
  refine o_goto X2 d2_34 7 (by decide) (by decide) ?_
  refine o_iloadN X2 d2_7 rfl 8 rfl ?_
  refine o_aloadN X2 d2_8 rfl rfl 9 rfl ?_
  refine o_arraylength X2 H2 0 rfl d2_9 (3 : Int32) rfl 10 rfl ?_
  refine o_icmpGe X2 d2_10 37 13 (by decide) (by decide) rfl (fun q => by exfalso; exact absurd q (by decide)) ?_
  intro hc10_1
  refine o_aloadN X2 d2_13 rfl rfl 14 rfl ?_
  refine o_iloadN X2 d2_14 rfl 15 rfl ?_
  refine o_iloadN X2 d2_15 rfl 16 rfl ?_
  refine o_iconst (v := (2 : Int32)) X2 d2_16 rfl 17 rfl ?_
  refine o_irem X2 d2_17 (by decide) 18 rfl ?_
  refine o_ifNe X2 d2_18 27 21 (by decide) (by decide) rfl ?_ (fun q => by exfalso; exact absurd q (by decide))
  intro hc18_1
  refine o_aloadN X2 d2_27 rfl rfl 28 rfl ?_
  refine o_iloadN X2 d2_28 rfl 29 rfl ?_
  refine o_baloadZ X2 H2 2 rfl d2_29 1 rfl (f_bit xy (1 : Int32)) rfl 30 rfl ?_
  refine o_bastoreZ X2 H2 0 rfl d2_30 1 rfl (by show 1 < 3; decide) (f_bit xy (1 : Int32)) (v_nar _ _) 31 rfl ?_
  intro T3 h3 X3 H3
  replace H3 : OL n0 h3 ((b1, OA Z .boolean [(f_bit xx (0 : Int32)), (f_bit xy (1 : Int32)), (0 : Int32)]) :: (xa, OA Z .boolean [(f_bit xx (0 : Int32)), (f_bit xx (1 : Int32)), (f_bit xx (2 : Int32))]) :: (xb, OA Z .boolean [(f_bit xy (0 : Int32)), (f_bit xy (1 : Int32)), (f_bit xy (2 : Int32))]) :: L') := H3
  refine o_iinc (v := (1 : Int32)) (w := (2 : Int32)) X3 d2_31 rfl rfl #[.val (.ref xa), .val (.ref xb), .val (.ref b1), .val (.int (2 : Int32))] rfl 34 rfl ?_
  refine o_goto X3 d2_34 7 (by decide) (by decide) ?_
  refine o_iloadN X3 d2_7 rfl 8 rfl ?_
  refine o_aloadN X3 d2_8 rfl rfl 9 rfl ?_
  refine o_arraylength X3 H3 0 rfl d2_9 (3 : Int32) rfl 10 rfl ?_
  refine o_icmpGe X3 d2_10 37 13 (by decide) (by decide) rfl (fun q => by exfalso; exact absurd q (by decide)) ?_
  intro hc10_2
  refine o_aloadN X3 d2_13 rfl rfl 14 rfl ?_
  refine o_iloadN X3 d2_14 rfl 15 rfl ?_
  refine o_iloadN X3 d2_15 rfl 16 rfl ?_
  refine o_iconst (v := (2 : Int32)) X3 d2_16 rfl 17 rfl ?_
  refine o_irem X3 d2_17 (by decide) 18 rfl ?_
  refine o_ifNe X3 d2_18 27 21 (by decide) (by decide) rfl (fun q => by exfalso; exact absurd q (by decide)) ?_
  intro hc18_2
  refine o_aloadN X3 d2_21 rfl rfl 22 rfl ?_
  refine o_iloadN X3 d2_22 rfl 23 rfl ?_
  refine o_baloadZ X3 H3 1 rfl d2_23 2 rfl (f_bit xx (2 : Int32)) rfl 24 rfl ?_
  refine o_goto X3 d2_24 30 (by decide) (by decide) ?_
  refine o_bastoreZ X3 H3 0 rfl d2_30 2 rfl (by show 2 < 3; decide) (f_bit xx (2 : Int32)) (v_nar _ _) 31 rfl ?_
  intro T4 h4 X4 H4
  replace H4 : OL n0 h4 ((b1, OA Z .boolean [(f_bit xx (0 : Int32)), (f_bit xy (1 : Int32)), (f_bit xx (2 : Int32))]) :: (xa, OA Z .boolean [(f_bit xx (0 : Int32)), (f_bit xx (1 : Int32)), (f_bit xx (2 : Int32))]) :: (xb, OA Z .boolean [(f_bit xy (0 : Int32)), (f_bit xy (1 : Int32)), (f_bit xy (2 : Int32))]) :: L') := H4
  refine o_iinc (v := (2 : Int32)) (w := (3 : Int32)) X4 d2_31 rfl rfl #[.val (.ref xa), .val (.ref xb), .val (.ref b1), .val (.int (3 : Int32))] rfl 34 rfl ?_
  refine o_goto X4 d2_34 7 (by decide) (by decide) ?_
  refine o_iloadN X4 d2_7 rfl 8 rfl ?_
  refine o_aloadN X4 d2_8 rfl rfl 9 rfl ?_
  refine o_arraylength X4 H4 0 rfl d2_9 (3 : Int32) rfl 10 rfl ?_
  refine o_icmpGe X4 d2_10 37 13 (by decide) (by decide) rfl ?_ (fun q => by exfalso; exact absurd q (by decide))
  intro hc10_3
  refine o_aloadN X4 d2_37 rfl rfl 38 rfl ?_
  exact o_retA X4 rfl rfl d2_38 (by decide) (by decide) (hQ _ _ ⟨_, rfl, H4⟩)
set_option maxRecDepth 65536 in
set_option maxHeartbeats 40000000 in
theorem c_same3 (l : Launch) (Z : State) (a0 : Array Value) (hw : ∀ d ∈ tables_1, d.before a0 Z = true) (ws : List Jvm.Cond) (n0 : Nat) (h0 : Heap) (hn0 : n0 ≤ h0.size) (xa : Addr) (xv : Int32) (L' : List (Addr × (Cell → Prop))) (H0 : OL n0 h0 ((xa, OA Z .boolean [(f_bit xv (0 : Int32)), (f_bit xv (1 : Int32)), (f_bit xv (2 : Int32))]) :: L')) :
    OC l Z (⟨"com/example/eratosthenes/eratosthenes/tune/GeneticSearchCombPinLaw", "same", "([ZI)Z"⟩ : MethodName) method_5_code 2 (some .boolean) ws ({ frames := 1, cells := 0, slots := 0, locals := 15 } : Room) n0 #[(.ref xa), (.int xv)] h0 (fun r h => r = some (.int 1) ∧ h0 = h) := by
  refine OC.of pn_0 hn0 #[.val (.ref xa), .val (.int xv)] (fun m => by first | (simp [entryFrame, mkF, argsToLocals, Value.category, maxLocals]; done) | rfl) ?_
  intro p e s m below meth cd0 T0 X0 Q' hQ
  refine o_aloadN X0 d5_0 rfl rfl 1 rfl ?_
  refine o_iconst (v := (0 : Int32)) X0 d5_1 rfl 2 rfl ?_
  refine o_iloadN X0 d5_2 rfl 3 rfl ?_
  refine o_iconst (v := (0 : Int32)) X0 d5_3 rfl 4 rfl ?_
  refine o_callS X0 d5_4 (rest := [(.int (0 : Int32)), (.ref xa)]) (c_bit l Z a0 hw [] n0 _ X0.size xv (0 : Int32) ) (hw _ (List.mem_of_getElem? (i := 9) rfl)) (hw _ (List.mem_of_getElem? (i := 10) rfl)) (hw _ (List.mem_of_getElem? (i := 3) rfl)) (hw _ (List.mem_of_getElem? (i := 11) rfl)) (by decide) 2 (by decide) (by decide) rfl [(.int xv), (.int (0 : Int32))] rfl pd_3 rfl rfl (Nat.le_of_eq rfl) 0 0 rfl rfl (by decide) (by decide) 7 rfl ?_
  rintro _ T1 _ X1 ⟨rfl, rfl⟩
  show OE p e ({ frames := 1, cells := 0, slots := 0, locals := 15 } : Room) below s n0 Q' T1 (mkF m 7 #[.val (.ref xa), .val (.int xv)] [(.int (f_bit xv (0 : Int32))), (.int (0 : Int32)), (.ref xa)])
  refine o_callS X1 d5_7 (rest := []) (c_at l Z a0 hw [] n0 _ X1.size xa (0 : Int32) (f_bit xv (0 : Int32)) [(f_bit xv (0 : Int32)), (f_bit xv (1 : Int32)), (f_bit xv (2 : Int32))] L' H0 0 rfl (Or.inr rfl)) (hw _ (List.mem_of_getElem? (i := 12) rfl)) (hw _ (List.mem_of_getElem? (i := 13) rfl)) (hw _ (List.mem_of_getElem? (i := 3) rfl)) (hw _ (List.mem_of_getElem? (i := 14) rfl)) (by decide) 0 (by decide) (by decide) rfl [(.ref xa), (.int (0 : Int32)), (.int (f_bit xv (0 : Int32)))] rfl pd_4 rfl rfl (Nat.le_of_eq rfl) 0 0 rfl rfl (by decide) (by decide) 10 rfl ?_
  rintro _ T2 _ X2 ⟨rfl, rfl⟩
  show OE p e ({ frames := 1, cells := 0, slots := 0, locals := 15 } : Room) below s n0 Q' T2 (mkF m 10 #[.val (.ref xa), .val (.int xv)] [(.int (1 : Int32))])
  refine o_ifEq X2 d5_10 97 13 (by decide) (by decide) rfl (fun q => by exfalso; exact absurd q (by decide)) ?_
  intro hc10
  refine o_aloadN X2 d5_13 rfl rfl 14 rfl ?_
  refine o_iconst (v := (1 : Int32)) X2 d5_14 rfl 15 rfl ?_
  refine o_iloadN X2 d5_15 rfl 16 rfl ?_
  refine o_iconst (v := (1 : Int32)) X2 d5_16 rfl 17 rfl ?_
  refine o_callS X2 d5_17 (rest := [(.int (1 : Int32)), (.ref xa)]) (c_bit l Z a0 hw [] n0 _ X2.size xv (1 : Int32) ) (hw _ (List.mem_of_getElem? (i := 9) rfl)) (hw _ (List.mem_of_getElem? (i := 10) rfl)) (hw _ (List.mem_of_getElem? (i := 3) rfl)) (hw _ (List.mem_of_getElem? (i := 11) rfl)) (by decide) 2 (by decide) (by decide) rfl [(.int xv), (.int (1 : Int32))] rfl pd_3 rfl rfl (Nat.le_of_eq rfl) 0 0 rfl rfl (by decide) (by decide) 20 rfl ?_
  rintro _ T3 _ X3 ⟨rfl, rfl⟩
  show OE p e ({ frames := 1, cells := 0, slots := 0, locals := 15 } : Room) below s n0 Q' T3 (mkF m 20 #[.val (.ref xa), .val (.int xv)] [(.int (f_bit xv (1 : Int32))), (.int (1 : Int32)), (.ref xa)])
  refine o_callS X3 d5_20 (rest := []) (c_at l Z a0 hw [] n0 _ X3.size xa (1 : Int32) (f_bit xv (1 : Int32)) [(f_bit xv (0 : Int32)), (f_bit xv (1 : Int32)), (f_bit xv (2 : Int32))] L' H0 1 rfl (Or.inr rfl)) (hw _ (List.mem_of_getElem? (i := 12) rfl)) (hw _ (List.mem_of_getElem? (i := 13) rfl)) (hw _ (List.mem_of_getElem? (i := 3) rfl)) (hw _ (List.mem_of_getElem? (i := 14) rfl)) (by decide) 0 (by decide) (by decide) rfl [(.ref xa), (.int (1 : Int32)), (.int (f_bit xv (1 : Int32)))] rfl pd_4 rfl rfl (Nat.le_of_eq rfl) 0 0 rfl rfl (by decide) (by decide) 23 rfl ?_
  rintro _ T4 _ X4 ⟨rfl, rfl⟩
  show OE p e ({ frames := 1, cells := 0, slots := 0, locals := 15 } : Room) below s n0 Q' T4 (mkF m 23 #[.val (.ref xa), .val (.int xv)] [(.int (1 : Int32))])
  refine o_ifEq X4 d5_23 97 26 (by decide) (by decide) rfl (fun q => by exfalso; exact absurd q (by decide)) ?_
  intro hc23
  refine o_aloadN X4 d5_26 rfl rfl 27 rfl ?_
  refine o_iconst (v := (2 : Int32)) X4 d5_27 rfl 28 rfl ?_
  refine o_iloadN X4 d5_28 rfl 29 rfl ?_
  refine o_iconst (v := (2 : Int32)) X4 d5_29 rfl 30 rfl ?_
  refine o_callS X4 d5_30 (rest := [(.int (2 : Int32)), (.ref xa)]) (c_bit l Z a0 hw [] n0 _ X4.size xv (2 : Int32) ) (hw _ (List.mem_of_getElem? (i := 9) rfl)) (hw _ (List.mem_of_getElem? (i := 10) rfl)) (hw _ (List.mem_of_getElem? (i := 3) rfl)) (hw _ (List.mem_of_getElem? (i := 11) rfl)) (by decide) 2 (by decide) (by decide) rfl [(.int xv), (.int (2 : Int32))] rfl pd_3 rfl rfl (Nat.le_of_eq rfl) 0 0 rfl rfl (by decide) (by decide) 33 rfl ?_
  rintro _ T5 _ X5 ⟨rfl, rfl⟩
  show OE p e ({ frames := 1, cells := 0, slots := 0, locals := 15 } : Room) below s n0 Q' T5 (mkF m 33 #[.val (.ref xa), .val (.int xv)] [(.int (f_bit xv (2 : Int32))), (.int (2 : Int32)), (.ref xa)])
  refine o_callS X5 d5_33 (rest := []) (c_at l Z a0 hw [] n0 _ X5.size xa (2 : Int32) (f_bit xv (2 : Int32)) [(f_bit xv (0 : Int32)), (f_bit xv (1 : Int32)), (f_bit xv (2 : Int32))] L' H0 2 rfl (Or.inr rfl)) (hw _ (List.mem_of_getElem? (i := 12) rfl)) (hw _ (List.mem_of_getElem? (i := 13) rfl)) (hw _ (List.mem_of_getElem? (i := 3) rfl)) (hw _ (List.mem_of_getElem? (i := 14) rfl)) (by decide) 0 (by decide) (by decide) rfl [(.ref xa), (.int (2 : Int32)), (.int (f_bit xv (2 : Int32)))] rfl pd_4 rfl rfl (Nat.le_of_eq rfl) 0 0 rfl rfl (by decide) (by decide) 36 rfl ?_
  rintro _ T6 _ X6 ⟨rfl, rfl⟩
  show OE p e ({ frames := 1, cells := 0, slots := 0, locals := 15 } : Room) below s n0 Q' T6 (mkF m 36 #[.val (.ref xa), .val (.int xv)] [(.int (1 : Int32))])
  refine o_ifEq X6 d5_36 97 39 (by decide) (by decide) rfl (fun q => by exfalso; exact absurd q (by decide)) ?_
  intro hc36
  refine o_aloadN X6 d5_39 rfl rfl 40 rfl ?_
  refine o_iconst (v := (3 : Int32)) X6 d5_40 rfl 41 rfl ?_
  refine o_iloadN X6 d5_41 rfl 42 rfl ?_
  refine o_iconst (v := (3 : Int32)) X6 d5_42 rfl 43 rfl ?_
  refine o_callS X6 d5_43 (rest := [(.int (3 : Int32)), (.ref xa)]) (c_bit l Z a0 hw [] n0 _ X6.size xv (3 : Int32) ) (hw _ (List.mem_of_getElem? (i := 9) rfl)) (hw _ (List.mem_of_getElem? (i := 10) rfl)) (hw _ (List.mem_of_getElem? (i := 3) rfl)) (hw _ (List.mem_of_getElem? (i := 11) rfl)) (by decide) 2 (by decide) (by decide) rfl [(.int xv), (.int (3 : Int32))] rfl pd_3 rfl rfl (Nat.le_of_eq rfl) 0 0 rfl rfl (by decide) (by decide) 46 rfl ?_
  rintro _ T7 _ X7 ⟨rfl, rfl⟩
  show OE p e ({ frames := 1, cells := 0, slots := 0, locals := 15 } : Room) below s n0 Q' T7 (mkF m 46 #[.val (.ref xa), .val (.int xv)] [(.int (f_bit xv (3 : Int32))), (.int (3 : Int32)), (.ref xa)])
  refine o_callS X7 d5_46 (rest := []) (c_at l Z a0 hw [] n0 _ X7.size xa (3 : Int32) (f_bit xv (3 : Int32)) [(f_bit xv (0 : Int32)), (f_bit xv (1 : Int32)), (f_bit xv (2 : Int32))] L' H0 3 rfl (Or.inl (by show 3 ≤ 3; decide))) (hw _ (List.mem_of_getElem? (i := 12) rfl)) (hw _ (List.mem_of_getElem? (i := 13) rfl)) (hw _ (List.mem_of_getElem? (i := 3) rfl)) (hw _ (List.mem_of_getElem? (i := 14) rfl)) (by decide) 0 (by decide) (by decide) rfl [(.ref xa), (.int (3 : Int32)), (.int (f_bit xv (3 : Int32)))] rfl pd_4 rfl rfl (Nat.le_of_eq rfl) 0 0 rfl rfl (by decide) (by decide) 49 rfl ?_
  rintro _ T8 _ X8 ⟨rfl, rfl⟩
  show OE p e ({ frames := 1, cells := 0, slots := 0, locals := 15 } : Room) below s n0 Q' T8 (mkF m 49 #[.val (.ref xa), .val (.int xv)] [(.int (1 : Int32))])
  refine o_ifEq X8 d5_49 97 52 (by decide) (by decide) rfl (fun q => by exfalso; exact absurd q (by decide)) ?_
  intro hc49
  refine o_aloadN X8 d5_52 rfl rfl 53 rfl ?_
  refine o_iconst (v := (4 : Int32)) X8 d5_53 rfl 54 rfl ?_
  refine o_iloadN X8 d5_54 rfl 55 rfl ?_
  refine o_iconst (v := (4 : Int32)) X8 d5_55 rfl 56 rfl ?_
  refine o_callS X8 d5_56 (rest := [(.int (4 : Int32)), (.ref xa)]) (c_bit l Z a0 hw [] n0 _ X8.size xv (4 : Int32) ) (hw _ (List.mem_of_getElem? (i := 9) rfl)) (hw _ (List.mem_of_getElem? (i := 10) rfl)) (hw _ (List.mem_of_getElem? (i := 3) rfl)) (hw _ (List.mem_of_getElem? (i := 11) rfl)) (by decide) 2 (by decide) (by decide) rfl [(.int xv), (.int (4 : Int32))] rfl pd_3 rfl rfl (Nat.le_of_eq rfl) 0 0 rfl rfl (by decide) (by decide) 59 rfl ?_
  rintro _ T9 _ X9 ⟨rfl, rfl⟩
  show OE p e ({ frames := 1, cells := 0, slots := 0, locals := 15 } : Room) below s n0 Q' T9 (mkF m 59 #[.val (.ref xa), .val (.int xv)] [(.int (f_bit xv (4 : Int32))), (.int (4 : Int32)), (.ref xa)])
  refine o_callS X9 d5_59 (rest := []) (c_at l Z a0 hw [] n0 _ X9.size xa (4 : Int32) (f_bit xv (4 : Int32)) [(f_bit xv (0 : Int32)), (f_bit xv (1 : Int32)), (f_bit xv (2 : Int32))] L' H0 4 rfl (Or.inl (by show 3 ≤ 4; decide))) (hw _ (List.mem_of_getElem? (i := 12) rfl)) (hw _ (List.mem_of_getElem? (i := 13) rfl)) (hw _ (List.mem_of_getElem? (i := 3) rfl)) (hw _ (List.mem_of_getElem? (i := 14) rfl)) (by decide) 0 (by decide) (by decide) rfl [(.ref xa), (.int (4 : Int32)), (.int (f_bit xv (4 : Int32)))] rfl pd_4 rfl rfl (Nat.le_of_eq rfl) 0 0 rfl rfl (by decide) (by decide) 62 rfl ?_
  rintro _ T10 _ X10 ⟨rfl, rfl⟩
  show OE p e ({ frames := 1, cells := 0, slots := 0, locals := 15 } : Room) below s n0 Q' T10 (mkF m 62 #[.val (.ref xa), .val (.int xv)] [(.int (1 : Int32))])
  refine o_ifEq X10 d5_62 97 65 (by decide) (by decide) rfl (fun q => by exfalso; exact absurd q (by decide)) ?_
  intro hc62
  refine o_aloadN X10 d5_65 rfl rfl 66 rfl ?_
  refine o_iconst (v := (5 : Int32)) X10 d5_66 rfl 67 rfl ?_
  refine o_iloadN X10 d5_67 rfl 68 rfl ?_
  refine o_iconst (v := (5 : Int32)) X10 d5_68 rfl 69 rfl ?_
  refine o_callS X10 d5_69 (rest := [(.int (5 : Int32)), (.ref xa)]) (c_bit l Z a0 hw [] n0 _ X10.size xv (5 : Int32) ) (hw _ (List.mem_of_getElem? (i := 9) rfl)) (hw _ (List.mem_of_getElem? (i := 10) rfl)) (hw _ (List.mem_of_getElem? (i := 3) rfl)) (hw _ (List.mem_of_getElem? (i := 11) rfl)) (by decide) 2 (by decide) (by decide) rfl [(.int xv), (.int (5 : Int32))] rfl pd_3 rfl rfl (Nat.le_of_eq rfl) 0 0 rfl rfl (by decide) (by decide) 72 rfl ?_
  rintro _ T11 _ X11 ⟨rfl, rfl⟩
  show OE p e ({ frames := 1, cells := 0, slots := 0, locals := 15 } : Room) below s n0 Q' T11 (mkF m 72 #[.val (.ref xa), .val (.int xv)] [(.int (f_bit xv (5 : Int32))), (.int (5 : Int32)), (.ref xa)])
  refine o_callS X11 d5_72 (rest := []) (c_at l Z a0 hw [] n0 _ X11.size xa (5 : Int32) (f_bit xv (5 : Int32)) [(f_bit xv (0 : Int32)), (f_bit xv (1 : Int32)), (f_bit xv (2 : Int32))] L' H0 5 rfl (Or.inl (by show 3 ≤ 5; decide))) (hw _ (List.mem_of_getElem? (i := 12) rfl)) (hw _ (List.mem_of_getElem? (i := 13) rfl)) (hw _ (List.mem_of_getElem? (i := 3) rfl)) (hw _ (List.mem_of_getElem? (i := 14) rfl)) (by decide) 0 (by decide) (by decide) rfl [(.ref xa), (.int (5 : Int32)), (.int (f_bit xv (5 : Int32)))] rfl pd_4 rfl rfl (Nat.le_of_eq rfl) 0 0 rfl rfl (by decide) (by decide) 75 rfl ?_
  rintro _ T12 _ X12 ⟨rfl, rfl⟩
  show OE p e ({ frames := 1, cells := 0, slots := 0, locals := 15 } : Room) below s n0 Q' T12 (mkF m 75 #[.val (.ref xa), .val (.int xv)] [(.int (1 : Int32))])
  refine o_ifEq X12 d5_75 97 78 (by decide) (by decide) rfl (fun q => by exfalso; exact absurd q (by decide)) ?_
  intro hc75
  refine o_aloadN X12 d5_78 rfl rfl 79 rfl ?_
  refine o_bipush (v := (6 : Int32)) X12 d5_79 rfl 81 rfl ?_
  refine o_iloadN X12 d5_81 rfl 82 rfl ?_
  refine o_bipush (v := (6 : Int32)) X12 d5_82 rfl 84 rfl ?_
  refine o_callS X12 d5_84 (rest := [(.int (6 : Int32)), (.ref xa)]) (c_bit l Z a0 hw [] n0 _ X12.size xv (6 : Int32) ) (hw _ (List.mem_of_getElem? (i := 9) rfl)) (hw _ (List.mem_of_getElem? (i := 10) rfl)) (hw _ (List.mem_of_getElem? (i := 3) rfl)) (hw _ (List.mem_of_getElem? (i := 11) rfl)) (by decide) 2 (by decide) (by decide) rfl [(.int xv), (.int (6 : Int32))] rfl pd_3 rfl rfl (Nat.le_of_eq rfl) 0 0 rfl rfl (by decide) (by decide) 87 rfl ?_
  rintro _ T13 _ X13 ⟨rfl, rfl⟩
  show OE p e ({ frames := 1, cells := 0, slots := 0, locals := 15 } : Room) below s n0 Q' T13 (mkF m 87 #[.val (.ref xa), .val (.int xv)] [(.int (f_bit xv (6 : Int32))), (.int (6 : Int32)), (.ref xa)])
  refine o_callS X13 d5_87 (rest := []) (c_at l Z a0 hw [] n0 _ X13.size xa (6 : Int32) (f_bit xv (6 : Int32)) [(f_bit xv (0 : Int32)), (f_bit xv (1 : Int32)), (f_bit xv (2 : Int32))] L' H0 6 rfl (Or.inl (by show 3 ≤ 6; decide))) (hw _ (List.mem_of_getElem? (i := 12) rfl)) (hw _ (List.mem_of_getElem? (i := 13) rfl)) (hw _ (List.mem_of_getElem? (i := 3) rfl)) (hw _ (List.mem_of_getElem? (i := 14) rfl)) (by decide) 0 (by decide) (by decide) rfl [(.ref xa), (.int (6 : Int32)), (.int (f_bit xv (6 : Int32)))] rfl pd_4 rfl rfl (Nat.le_of_eq rfl) 0 0 rfl rfl (by decide) (by decide) 90 rfl ?_
  rintro _ T14 _ X14 ⟨rfl, rfl⟩
  show OE p e ({ frames := 1, cells := 0, slots := 0, locals := 15 } : Room) below s n0 Q' T14 (mkF m 90 #[.val (.ref xa), .val (.int xv)] [(.int (1 : Int32))])
  refine o_ifEq X14 d5_90 97 93 (by decide) (by decide) rfl (fun q => by exfalso; exact absurd q (by decide)) ?_
  intro hc90
  refine o_iconst (v := (1 : Int32)) X14 d5_93 rfl 94 rfl ?_
  refine o_goto X14 d5_94 98 (by decide) (by decide) ?_
  exact o_retZ X14 d5_98 (by decide) (by decide) (hQ _ _ ⟨rfl, rfl⟩)
set_option maxRecDepth 65536 in
set_option maxHeartbeats 40000000 in
theorem c_fill4 (l : Launch) (Z : State) (a0 : Array Value) (hw : ∀ d ∈ tables_1, d.before a0 Z = true) (ws : List Jvm.Cond) (n0 : Nat) (h0 : Heap) (hn0 : n0 ≤ h0.size) (xa : Addr) (xv : Int32) (L' : List (Addr × (Cell → Prop))) (H0 : OL n0 h0 ((xa, OA Z .boolean [(0 : Int32), (0 : Int32), (0 : Int32), (0 : Int32)]) :: L')) :
    OC l Z (⟨"com/example/eratosthenes/eratosthenes/tune/GeneticSearchCombPinLaw", "fill", "([ZI)V"⟩ : MethodName) method_4_code 2 none ws ({ frames := 1, cells := 0, slots := 0, locals := 15 } : Room) n0 #[(.ref xa), (.int xv)] h0 (fun r h => r = none ∧ OL n0 h ((xa, OA Z .boolean [(f_bit xv (0 : Int32)), (f_bit xv (1 : Int32)), (f_bit xv (2 : Int32)), (f_bit xv (3 : Int32))]) :: L')) := by
  refine OC.of pn_0 hn0 #[.val (.ref xa), .val (.int xv)] (fun m => by first | (simp [entryFrame, mkF, argsToLocals, Value.category, maxLocals]; done) | rfl) ?_
  intro p e s m below meth cd0 T0 X0 Q' hQ
  refine o_aloadN X0 d1_0 rfl rfl 1 rfl ?_
  refine o_arraylength X0 H0 0 rfl d1_1 (4 : Int32) rfl 2 rfl ?_
  refine o_ifLe X0 d1_2 13 5 (by decide) (by decide) rfl (fun q => by exfalso; exact absurd q (by decide)) ?_
  intro hc2
  refine o_aloadN X0 d1_5 rfl rfl 6 rfl ?_
  refine o_iconst (v := (0 : Int32)) X0 d1_6 rfl 7 rfl ?_
  refine o_iloadN X0 d1_7 rfl 8 rfl ?_
  refine o_iconst (v := (0 : Int32)) X0 d1_8 rfl 9 rfl ?_
  refine o_callS X0 d1_9 (rest := [(.int (0 : Int32)), (.ref xa)]) (c_bit l Z a0 hw [] n0 _ X0.size xv (0 : Int32) ) (hw _ (List.mem_of_getElem? (i := 9) rfl)) (hw _ (List.mem_of_getElem? (i := 10) rfl)) (hw _ (List.mem_of_getElem? (i := 3) rfl)) (hw _ (List.mem_of_getElem? (i := 11) rfl)) (by decide) 2 (by decide) (by decide) rfl [(.int xv), (.int (0 : Int32))] rfl pd_3 rfl rfl (Nat.le_of_eq rfl) 0 0 rfl rfl (by decide) (by decide) 12 rfl ?_
  rintro _ T1 _ X1 ⟨rfl, rfl⟩
  show OE p e ({ frames := 1, cells := 0, slots := 0, locals := 15 } : Room) below s n0 Q' T1 (mkF m 12 #[.val (.ref xa), .val (.int xv)] [(.int (f_bit xv (0 : Int32))), (.int (0 : Int32)), (.ref xa)])
  refine o_bastoreZ X1 H0 0 rfl d1_12 0 rfl (by show 0 < 4; decide) (f_bit xv (0 : Int32)) (v_nar _ _) 13 rfl ?_
  intro T2 h2 X2 H2
  replace H2 : OL n0 h2 ((xa, OA Z .boolean [(f_bit xv (0 : Int32)), (0 : Int32), (0 : Int32), (0 : Int32)]) :: L') := H2
  refine o_aloadN X2 d1_13 rfl rfl 14 rfl ?_
  refine o_arraylength X2 H2 0 rfl d1_14 (4 : Int32) rfl 15 rfl ?_
  refine o_iconst (v := (1 : Int32)) X2 d1_15 rfl 16 rfl ?_
  refine o_icmpLe X2 d1_16 27 19 (by decide) (by decide) rfl (fun q => by exfalso; exact absurd q (by decide)) ?_
  intro hc16
  refine o_aloadN X2 d1_19 rfl rfl 20 rfl ?_
  refine o_iconst (v := (1 : Int32)) X2 d1_20 rfl 21 rfl ?_
  refine o_iloadN X2 d1_21 rfl 22 rfl ?_
  refine o_iconst (v := (1 : Int32)) X2 d1_22 rfl 23 rfl ?_
  refine o_callS X2 d1_23 (rest := [(.int (1 : Int32)), (.ref xa)]) (c_bit l Z a0 hw [] n0 _ X2.size xv (1 : Int32) ) (hw _ (List.mem_of_getElem? (i := 9) rfl)) (hw _ (List.mem_of_getElem? (i := 10) rfl)) (hw _ (List.mem_of_getElem? (i := 3) rfl)) (hw _ (List.mem_of_getElem? (i := 11) rfl)) (by decide) 2 (by decide) (by decide) rfl [(.int xv), (.int (1 : Int32))] rfl pd_3 rfl rfl (Nat.le_of_eq rfl) 0 0 rfl rfl (by decide) (by decide) 26 rfl ?_
  rintro _ T3 _ X3 ⟨rfl, rfl⟩
  show OE p e ({ frames := 1, cells := 0, slots := 0, locals := 15 } : Room) below s n0 Q' T3 (mkF m 26 #[.val (.ref xa), .val (.int xv)] [(.int (f_bit xv (1 : Int32))), (.int (1 : Int32)), (.ref xa)])
  refine o_bastoreZ X3 H2 0 rfl d1_26 1 rfl (by show 1 < 4; decide) (f_bit xv (1 : Int32)) (v_nar _ _) 27 rfl ?_
  intro T4 h4 X4 H4
  replace H4 : OL n0 h4 ((xa, OA Z .boolean [(f_bit xv (0 : Int32)), (f_bit xv (1 : Int32)), (0 : Int32), (0 : Int32)]) :: L') := H4
  refine o_aloadN X4 d1_27 rfl rfl 28 rfl ?_
  refine o_arraylength X4 H4 0 rfl d1_28 (4 : Int32) rfl 29 rfl ?_
  refine o_iconst (v := (2 : Int32)) X4 d1_29 rfl 30 rfl ?_
  refine o_icmpLe X4 d1_30 41 33 (by decide) (by decide) rfl (fun q => by exfalso; exact absurd q (by decide)) ?_
  intro hc30
  refine o_aloadN X4 d1_33 rfl rfl 34 rfl ?_
  refine o_iconst (v := (2 : Int32)) X4 d1_34 rfl 35 rfl ?_
  refine o_iloadN X4 d1_35 rfl 36 rfl ?_
  refine o_iconst (v := (2 : Int32)) X4 d1_36 rfl 37 rfl ?_
  refine o_callS X4 d1_37 (rest := [(.int (2 : Int32)), (.ref xa)]) (c_bit l Z a0 hw [] n0 _ X4.size xv (2 : Int32) ) (hw _ (List.mem_of_getElem? (i := 9) rfl)) (hw _ (List.mem_of_getElem? (i := 10) rfl)) (hw _ (List.mem_of_getElem? (i := 3) rfl)) (hw _ (List.mem_of_getElem? (i := 11) rfl)) (by decide) 2 (by decide) (by decide) rfl [(.int xv), (.int (2 : Int32))] rfl pd_3 rfl rfl (Nat.le_of_eq rfl) 0 0 rfl rfl (by decide) (by decide) 40 rfl ?_
  rintro _ T5 _ X5 ⟨rfl, rfl⟩
  show OE p e ({ frames := 1, cells := 0, slots := 0, locals := 15 } : Room) below s n0 Q' T5 (mkF m 40 #[.val (.ref xa), .val (.int xv)] [(.int (f_bit xv (2 : Int32))), (.int (2 : Int32)), (.ref xa)])
  refine o_bastoreZ X5 H4 0 rfl d1_40 2 rfl (by show 2 < 4; decide) (f_bit xv (2 : Int32)) (v_nar _ _) 41 rfl ?_
  intro T6 h6 X6 H6
  replace H6 : OL n0 h6 ((xa, OA Z .boolean [(f_bit xv (0 : Int32)), (f_bit xv (1 : Int32)), (f_bit xv (2 : Int32)), (0 : Int32)]) :: L') := H6
  refine o_aloadN X6 d1_41 rfl rfl 42 rfl ?_
  refine o_arraylength X6 H6 0 rfl d1_42 (4 : Int32) rfl 43 rfl ?_
  refine o_iconst (v := (3 : Int32)) X6 d1_43 rfl 44 rfl ?_
  refine o_icmpLe X6 d1_44 55 47 (by decide) (by decide) rfl (fun q => by exfalso; exact absurd q (by decide)) ?_
  intro hc44
  refine o_aloadN X6 d1_47 rfl rfl 48 rfl ?_
  refine o_iconst (v := (3 : Int32)) X6 d1_48 rfl 49 rfl ?_
  refine o_iloadN X6 d1_49 rfl 50 rfl ?_
  refine o_iconst (v := (3 : Int32)) X6 d1_50 rfl 51 rfl ?_
  refine o_callS X6 d1_51 (rest := [(.int (3 : Int32)), (.ref xa)]) (c_bit l Z a0 hw [] n0 _ X6.size xv (3 : Int32) ) (hw _ (List.mem_of_getElem? (i := 9) rfl)) (hw _ (List.mem_of_getElem? (i := 10) rfl)) (hw _ (List.mem_of_getElem? (i := 3) rfl)) (hw _ (List.mem_of_getElem? (i := 11) rfl)) (by decide) 2 (by decide) (by decide) rfl [(.int xv), (.int (3 : Int32))] rfl pd_3 rfl rfl (Nat.le_of_eq rfl) 0 0 rfl rfl (by decide) (by decide) 54 rfl ?_
  rintro _ T7 _ X7 ⟨rfl, rfl⟩
  show OE p e ({ frames := 1, cells := 0, slots := 0, locals := 15 } : Room) below s n0 Q' T7 (mkF m 54 #[.val (.ref xa), .val (.int xv)] [(.int (f_bit xv (3 : Int32))), (.int (3 : Int32)), (.ref xa)])
  refine o_bastoreZ X7 H6 0 rfl d1_54 3 rfl (by show 3 < 4; decide) (f_bit xv (3 : Int32)) (v_nar _ _) 55 rfl ?_
  intro T8 h8 X8 H8
  replace H8 : OL n0 h8 ((xa, OA Z .boolean [(f_bit xv (0 : Int32)), (f_bit xv (1 : Int32)), (f_bit xv (2 : Int32)), (f_bit xv (3 : Int32))]) :: L') := H8
  refine o_aloadN X8 d1_55 rfl rfl 56 rfl ?_
  refine o_arraylength X8 H8 0 rfl d1_56 (4 : Int32) rfl 57 rfl ?_
  refine o_iconst (v := (4 : Int32)) X8 d1_57 rfl 58 rfl ?_
  refine o_icmpLe X8 d1_58 69 61 (by decide) (by decide) rfl ?_ (fun q => by exfalso; exact absurd q (by decide))
  intro hc58
  refine o_aloadN X8 d1_69 rfl rfl 70 rfl ?_
  refine o_arraylength X8 H8 0 rfl d1_70 (4 : Int32) rfl 71 rfl ?_
  refine o_iconst (v := (5 : Int32)) X8 d1_71 rfl 72 rfl ?_
  refine o_icmpLe X8 d1_72 83 75 (by decide) (by decide) rfl ?_ (fun q => by exfalso; exact absurd q (by decide))
  intro hc72
  refine o_aloadN X8 d1_83 rfl rfl 84 rfl ?_
  refine o_arraylength X8 H8 0 rfl d1_84 (4 : Int32) rfl 85 rfl ?_
  refine o_bipush (v := (6 : Int32)) X8 d1_85 rfl 87 rfl ?_
  refine o_icmpLe X8 d1_87 100 90 (by decide) (by decide) rfl ?_ (fun q => by exfalso; exact absurd q (by decide))
  intro hc87
  exact o_ret X8 d1_100 (by decide) (by decide) (hQ _ _ ⟨rfl, H8⟩)
set_option maxRecDepth 65536 in
set_option maxHeartbeats 40000000 in
theorem c_comb4 (l : Launch) (Z : State) (a0 : Array Value) (hw : ∀ d ∈ tables_1, d.before a0 Z = true) (ws : List Jvm.Cond) (n0 : Nat) (h0 : Heap) (hn0 : n0 ≤ h0.size) (xa xb : Addr) (xx xy : Int32) (L' : List (Addr × (Cell → Prop))) (H0 : OL n0 h0 ((xa, OA Z .boolean [(f_bit xx (0 : Int32)), (f_bit xx (1 : Int32)), (f_bit xx (2 : Int32)), (f_bit xx (3 : Int32))]) :: (xb, OA Z .boolean [(f_bit xy (0 : Int32)), (f_bit xy (1 : Int32)), (f_bit xy (2 : Int32)), (f_bit xy (3 : Int32))]) :: L')) :
    OC l Z (⟨"com/example/eratosthenes/eratosthenes/tune/GeneticSearch", "comb", "([Z[Z)[Z"⟩ : MethodName) prog_27_method_3_code 4 (some (.array .boolean)) ws ({ frames := 0, cells := 1, slots := 4, locals := 0 } : Room) n0 #[(.ref xa), (.ref xb)] h0 (fun r h => ∃ a, r = some (.ref a) ∧ OL n0 h ((a, OA Z .boolean [(f_bit xx (0 : Int32)), (f_bit xy (1 : Int32)), (f_bit xx (2 : Int32)), (f_bit xy (3 : Int32))]) :: (xa, OA Z .boolean [(f_bit xx (0 : Int32)), (f_bit xx (1 : Int32)), (f_bit xx (2 : Int32)), (f_bit xx (3 : Int32))]) :: (xb, OA Z .boolean [(f_bit xy (0 : Int32)), (f_bit xy (1 : Int32)), (f_bit xy (2 : Int32)), (f_bit xy (3 : Int32))]) :: L')) := by
  refine OC.of pn_1 hn0 #[.val (.ref xa), .val (.ref xb), .unset, .unset] (fun m => by first | (simp [entryFrame, mkF, argsToLocals, Value.category, maxLocals]; done) | rfl) ?_
  intro p e s m below meth cd0 T0 X0 Q' hQ
  refine o_aloadN X0 d2_0 rfl rfl 1 rfl ?_
  refine o_arraylength X0 H0 0 rfl d2_1 (4 : Int32) rfl 2 rfl ?_
  refine o_newarray (L := ((xa, OA Z .boolean [(f_bit xx (0 : Int32)), (f_bit xx (1 : Int32)), (f_bit xx (2 : Int32)), (f_bit xx (3 : Int32))]) :: (xb, OA Z .boolean [(f_bit xy (0 : Int32)), (f_bit xy (1 : Int32)), (f_bit xy (2 : Int32)), (f_bit xy (3 : Int32))]) :: L')) X0 H0 d2_2 (hw _ (List.mem_of_getElem? (i := 0) rfl)) rfl rfl 4 4 rfl (by decide) (by decide) 1 4 rfl rfl (by decide) (by decide) 4 rfl ?_
  intro T1 h1 b1 X1 H1
  replace H1 : OL n0 h1 ((b1, OA Z .boolean [(0 : Int32), (0 : Int32), (0 : Int32), (0 : Int32)]) :: (xa, OA Z .boolean [(f_bit xx (0 : Int32)), (f_bit xx (1 : Int32)), (f_bit xx (2 : Int32)), (f_bit xx (3 : Int32))]) :: (xb, OA Z .boolean [(f_bit xy (0 : Int32)), (f_bit xy (1 : Int32)), (f_bit xy (2 : Int32)), (f_bit xy (3 : Int32))]) :: L') := H1
  refine o_astoreN X1 d2_4 rfl #[.val (.ref xa), .val (.ref xb), .val (.ref b1), .unset] rfl 5 rfl ?_
  refine o_iconst (v := (0 : Int32)) X1 d2_5 rfl 6 rfl ?_
  refine o_istoreN X1 d2_6 #[.val (.ref xa), .val (.ref xb), .val (.ref b1), .val (.int (0 : Int32))] rfl 7 rfl ?_
  refine o_iloadN X1 d2_7 rfl 8 rfl ?_
  refine o_aloadN X1 d2_8 rfl rfl 9 rfl ?_
  refine o_arraylength X1 H1 0 rfl d2_9 (4 : Int32) rfl 10 rfl ?_
  refine o_icmpGe X1 d2_10 37 13 (by decide) (by decide) rfl (fun q => by exfalso; exact absurd q (by decide)) ?_
  intro hc10
  refine o_aloadN X1 d2_13 rfl rfl 14 rfl ?_
  refine o_iloadN X1 d2_14 rfl 15 rfl ?_
  refine o_iloadN X1 d2_15 rfl 16 rfl ?_
  refine o_iconst (v := (2 : Int32)) X1 d2_16 rfl 17 rfl ?_
  refine o_irem X1 d2_17 (by decide) 18 rfl ?_
  refine o_ifNe X1 d2_18 27 21 (by decide) (by decide) rfl (fun q => by exfalso; exact absurd q (by decide)) ?_
  intro hc18
  refine o_aloadN X1 d2_21 rfl rfl 22 rfl ?_
  refine o_iloadN X1 d2_22 rfl 23 rfl ?_
  refine o_baloadZ X1 H1 1 rfl d2_23 0 rfl (f_bit xx (0 : Int32)) rfl 24 rfl ?_
  refine o_goto X1 d2_24 30 (by decide) (by decide) ?_
  refine o_bastoreZ X1 H1 0 rfl d2_30 0 rfl (by show 0 < 4; decide) (f_bit xx (0 : Int32)) (v_nar _ _) 31 rfl ?_
  intro T2 h2 X2 H2
  replace H2 : OL n0 h2 ((b1, OA Z .boolean [(f_bit xx (0 : Int32)), (0 : Int32), (0 : Int32), (0 : Int32)]) :: (xa, OA Z .boolean [(f_bit xx (0 : Int32)), (f_bit xx (1 : Int32)), (f_bit xx (2 : Int32)), (f_bit xx (3 : Int32))]) :: (xb, OA Z .boolean [(f_bit xy (0 : Int32)), (f_bit xy (1 : Int32)), (f_bit xy (2 : Int32)), (f_bit xy (3 : Int32))]) :: L') := H2
  refine o_iinc (v := (0 : Int32)) (w := (1 : Int32)) X2 d2_31 rfl rfl #[.val (.ref xa), .val (.ref xb), .val (.ref b1), .val (.int (1 : Int32))] rfl 34 rfl ?_
  refine o_goto X2 d2_34 7 (by decide) (by decide) ?_
  refine o_iloadN X2 d2_7 rfl 8 rfl ?_
  refine o_aloadN X2 d2_8 rfl rfl 9 rfl ?_
  refine o_arraylength X2 H2 0 rfl d2_9 (4 : Int32) rfl 10 rfl ?_
  refine o_icmpGe X2 d2_10 37 13 (by decide) (by decide) rfl (fun q => by exfalso; exact absurd q (by decide)) ?_
  intro hc10_1
  refine o_aloadN X2 d2_13 rfl rfl 14 rfl ?_
  refine o_iloadN X2 d2_14 rfl 15 rfl ?_
  refine o_iloadN X2 d2_15 rfl 16 rfl ?_
  refine o_iconst (v := (2 : Int32)) X2 d2_16 rfl 17 rfl ?_
  refine o_irem X2 d2_17 (by decide) 18 rfl ?_
  refine o_ifNe X2 d2_18 27 21 (by decide) (by decide) rfl ?_ (fun q => by exfalso; exact absurd q (by decide))
  intro hc18_1
  refine o_aloadN X2 d2_27 rfl rfl 28 rfl ?_
  refine o_iloadN X2 d2_28 rfl 29 rfl ?_
  refine o_baloadZ X2 H2 2 rfl d2_29 1 rfl (f_bit xy (1 : Int32)) rfl 30 rfl ?_
  refine o_bastoreZ X2 H2 0 rfl d2_30 1 rfl (by show 1 < 4; decide) (f_bit xy (1 : Int32)) (v_nar _ _) 31 rfl ?_
  intro T3 h3 X3 H3
  replace H3 : OL n0 h3 ((b1, OA Z .boolean [(f_bit xx (0 : Int32)), (f_bit xy (1 : Int32)), (0 : Int32), (0 : Int32)]) :: (xa, OA Z .boolean [(f_bit xx (0 : Int32)), (f_bit xx (1 : Int32)), (f_bit xx (2 : Int32)), (f_bit xx (3 : Int32))]) :: (xb, OA Z .boolean [(f_bit xy (0 : Int32)), (f_bit xy (1 : Int32)), (f_bit xy (2 : Int32)), (f_bit xy (3 : Int32))]) :: L') := H3
  refine o_iinc (v := (1 : Int32)) (w := (2 : Int32)) X3 d2_31 rfl rfl #[.val (.ref xa), .val (.ref xb), .val (.ref b1), .val (.int (2 : Int32))] rfl 34 rfl ?_
  refine o_goto X3 d2_34 7 (by decide) (by decide) ?_
  refine o_iloadN X3 d2_7 rfl 8 rfl ?_
  refine o_aloadN X3 d2_8 rfl rfl 9 rfl ?_
  refine o_arraylength X3 H3 0 rfl d2_9 (4 : Int32) rfl 10 rfl ?_
  refine o_icmpGe X3 d2_10 37 13 (by decide) (by decide) rfl (fun q => by exfalso; exact absurd q (by decide)) ?_
  intro hc10_2
  refine o_aloadN X3 d2_13 rfl rfl 14 rfl ?_
  refine o_iloadN X3 d2_14 rfl 15 rfl ?_
  refine o_iloadN X3 d2_15 rfl 16 rfl ?_
  refine o_iconst (v := (2 : Int32)) X3 d2_16 rfl 17 rfl ?_
  refine o_irem X3 d2_17 (by decide) 18 rfl ?_
  refine o_ifNe X3 d2_18 27 21 (by decide) (by decide) rfl (fun q => by exfalso; exact absurd q (by decide)) ?_
  intro hc18_2
  refine o_aloadN X3 d2_21 rfl rfl 22 rfl ?_
  refine o_iloadN X3 d2_22 rfl 23 rfl ?_
  refine o_baloadZ X3 H3 1 rfl d2_23 2 rfl (f_bit xx (2 : Int32)) rfl 24 rfl ?_
  refine o_goto X3 d2_24 30 (by decide) (by decide) ?_
  refine o_bastoreZ X3 H3 0 rfl d2_30 2 rfl (by show 2 < 4; decide) (f_bit xx (2 : Int32)) (v_nar _ _) 31 rfl ?_
  intro T4 h4 X4 H4
  replace H4 : OL n0 h4 ((b1, OA Z .boolean [(f_bit xx (0 : Int32)), (f_bit xy (1 : Int32)), (f_bit xx (2 : Int32)), (0 : Int32)]) :: (xa, OA Z .boolean [(f_bit xx (0 : Int32)), (f_bit xx (1 : Int32)), (f_bit xx (2 : Int32)), (f_bit xx (3 : Int32))]) :: (xb, OA Z .boolean [(f_bit xy (0 : Int32)), (f_bit xy (1 : Int32)), (f_bit xy (2 : Int32)), (f_bit xy (3 : Int32))]) :: L') := H4
  refine o_iinc (v := (2 : Int32)) (w := (3 : Int32)) X4 d2_31 rfl rfl #[.val (.ref xa), .val (.ref xb), .val (.ref b1), .val (.int (3 : Int32))] rfl 34 rfl ?_
  refine o_goto X4 d2_34 7 (by decide) (by decide) ?_
  refine o_iloadN X4 d2_7 rfl 8 rfl ?_
  refine o_aloadN X4 d2_8 rfl rfl 9 rfl ?_
  refine o_arraylength X4 H4 0 rfl d2_9 (4 : Int32) rfl 10 rfl ?_
  refine o_icmpGe X4 d2_10 37 13 (by decide) (by decide) rfl (fun q => by exfalso; exact absurd q (by decide)) ?_
  intro hc10_3
  refine o_aloadN X4 d2_13 rfl rfl 14 rfl ?_
  refine o_iloadN X4 d2_14 rfl 15 rfl ?_
  refine o_iloadN X4 d2_15 rfl 16 rfl ?_
  refine o_iconst (v := (2 : Int32)) X4 d2_16 rfl 17 rfl ?_
  refine o_irem X4 d2_17 (by decide) 18 rfl ?_
  refine o_ifNe X4 d2_18 27 21 (by decide) (by decide) rfl ?_ (fun q => by exfalso; exact absurd q (by decide))
  intro hc18_3
  refine o_aloadN X4 d2_27 rfl rfl 28 rfl ?_
  refine o_iloadN X4 d2_28 rfl 29 rfl ?_
  refine o_baloadZ X4 H4 2 rfl d2_29 3 rfl (f_bit xy (3 : Int32)) rfl 30 rfl ?_
  refine o_bastoreZ X4 H4 0 rfl d2_30 3 rfl (by show 3 < 4; decide) (f_bit xy (3 : Int32)) (v_nar _ _) 31 rfl ?_
  intro T5 h5 X5 H5
  replace H5 : OL n0 h5 ((b1, OA Z .boolean [(f_bit xx (0 : Int32)), (f_bit xy (1 : Int32)), (f_bit xx (2 : Int32)), (f_bit xy (3 : Int32))]) :: (xa, OA Z .boolean [(f_bit xx (0 : Int32)), (f_bit xx (1 : Int32)), (f_bit xx (2 : Int32)), (f_bit xx (3 : Int32))]) :: (xb, OA Z .boolean [(f_bit xy (0 : Int32)), (f_bit xy (1 : Int32)), (f_bit xy (2 : Int32)), (f_bit xy (3 : Int32))]) :: L') := H5
  refine o_iinc (v := (3 : Int32)) (w := (4 : Int32)) X5 d2_31 rfl rfl #[.val (.ref xa), .val (.ref xb), .val (.ref b1), .val (.int (4 : Int32))] rfl 34 rfl ?_
  refine o_goto X5 d2_34 7 (by decide) (by decide) ?_
  refine o_iloadN X5 d2_7 rfl 8 rfl ?_
  refine o_aloadN X5 d2_8 rfl rfl 9 rfl ?_
  refine o_arraylength X5 H5 0 rfl d2_9 (4 : Int32) rfl 10 rfl ?_
  refine o_icmpGe X5 d2_10 37 13 (by decide) (by decide) rfl ?_ (fun q => by exfalso; exact absurd q (by decide))
  intro hc10_4
  refine o_aloadN X5 d2_37 rfl rfl 38 rfl ?_
  exact o_retA X5 rfl rfl d2_38 (by decide) (by decide) (hQ _ _ ⟨_, rfl, H5⟩)
set_option maxRecDepth 65536 in
set_option maxHeartbeats 40000000 in
theorem c_same4 (l : Launch) (Z : State) (a0 : Array Value) (hw : ∀ d ∈ tables_1, d.before a0 Z = true) (ws : List Jvm.Cond) (n0 : Nat) (h0 : Heap) (hn0 : n0 ≤ h0.size) (xa : Addr) (xv : Int32) (L' : List (Addr × (Cell → Prop))) (H0 : OL n0 h0 ((xa, OA Z .boolean [(f_bit xv (0 : Int32)), (f_bit xv (1 : Int32)), (f_bit xv (2 : Int32)), (f_bit xv (3 : Int32))]) :: L')) :
    OC l Z (⟨"com/example/eratosthenes/eratosthenes/tune/GeneticSearchCombPinLaw", "same", "([ZI)Z"⟩ : MethodName) method_5_code 2 (some .boolean) ws ({ frames := 1, cells := 0, slots := 0, locals := 15 } : Room) n0 #[(.ref xa), (.int xv)] h0 (fun r h => r = some (.int 1) ∧ h0 = h) := by
  refine OC.of pn_0 hn0 #[.val (.ref xa), .val (.int xv)] (fun m => by first | (simp [entryFrame, mkF, argsToLocals, Value.category, maxLocals]; done) | rfl) ?_
  intro p e s m below meth cd0 T0 X0 Q' hQ
  refine o_aloadN X0 d5_0 rfl rfl 1 rfl ?_
  refine o_iconst (v := (0 : Int32)) X0 d5_1 rfl 2 rfl ?_
  refine o_iloadN X0 d5_2 rfl 3 rfl ?_
  refine o_iconst (v := (0 : Int32)) X0 d5_3 rfl 4 rfl ?_
  refine o_callS X0 d5_4 (rest := [(.int (0 : Int32)), (.ref xa)]) (c_bit l Z a0 hw [] n0 _ X0.size xv (0 : Int32) ) (hw _ (List.mem_of_getElem? (i := 9) rfl)) (hw _ (List.mem_of_getElem? (i := 10) rfl)) (hw _ (List.mem_of_getElem? (i := 3) rfl)) (hw _ (List.mem_of_getElem? (i := 11) rfl)) (by decide) 2 (by decide) (by decide) rfl [(.int xv), (.int (0 : Int32))] rfl pd_3 rfl rfl (Nat.le_of_eq rfl) 0 0 rfl rfl (by decide) (by decide) 7 rfl ?_
  rintro _ T1 _ X1 ⟨rfl, rfl⟩
  show OE p e ({ frames := 1, cells := 0, slots := 0, locals := 15 } : Room) below s n0 Q' T1 (mkF m 7 #[.val (.ref xa), .val (.int xv)] [(.int (f_bit xv (0 : Int32))), (.int (0 : Int32)), (.ref xa)])
  refine o_callS X1 d5_7 (rest := []) (c_at l Z a0 hw [] n0 _ X1.size xa (0 : Int32) (f_bit xv (0 : Int32)) [(f_bit xv (0 : Int32)), (f_bit xv (1 : Int32)), (f_bit xv (2 : Int32)), (f_bit xv (3 : Int32))] L' H0 0 rfl (Or.inr rfl)) (hw _ (List.mem_of_getElem? (i := 12) rfl)) (hw _ (List.mem_of_getElem? (i := 13) rfl)) (hw _ (List.mem_of_getElem? (i := 3) rfl)) (hw _ (List.mem_of_getElem? (i := 14) rfl)) (by decide) 0 (by decide) (by decide) rfl [(.ref xa), (.int (0 : Int32)), (.int (f_bit xv (0 : Int32)))] rfl pd_4 rfl rfl (Nat.le_of_eq rfl) 0 0 rfl rfl (by decide) (by decide) 10 rfl ?_
  rintro _ T2 _ X2 ⟨rfl, rfl⟩
  show OE p e ({ frames := 1, cells := 0, slots := 0, locals := 15 } : Room) below s n0 Q' T2 (mkF m 10 #[.val (.ref xa), .val (.int xv)] [(.int (1 : Int32))])
  refine o_ifEq X2 d5_10 97 13 (by decide) (by decide) rfl (fun q => by exfalso; exact absurd q (by decide)) ?_
  intro hc10
  refine o_aloadN X2 d5_13 rfl rfl 14 rfl ?_
  refine o_iconst (v := (1 : Int32)) X2 d5_14 rfl 15 rfl ?_
  refine o_iloadN X2 d5_15 rfl 16 rfl ?_
  refine o_iconst (v := (1 : Int32)) X2 d5_16 rfl 17 rfl ?_
  refine o_callS X2 d5_17 (rest := [(.int (1 : Int32)), (.ref xa)]) (c_bit l Z a0 hw [] n0 _ X2.size xv (1 : Int32) ) (hw _ (List.mem_of_getElem? (i := 9) rfl)) (hw _ (List.mem_of_getElem? (i := 10) rfl)) (hw _ (List.mem_of_getElem? (i := 3) rfl)) (hw _ (List.mem_of_getElem? (i := 11) rfl)) (by decide) 2 (by decide) (by decide) rfl [(.int xv), (.int (1 : Int32))] rfl pd_3 rfl rfl (Nat.le_of_eq rfl) 0 0 rfl rfl (by decide) (by decide) 20 rfl ?_
  rintro _ T3 _ X3 ⟨rfl, rfl⟩
  show OE p e ({ frames := 1, cells := 0, slots := 0, locals := 15 } : Room) below s n0 Q' T3 (mkF m 20 #[.val (.ref xa), .val (.int xv)] [(.int (f_bit xv (1 : Int32))), (.int (1 : Int32)), (.ref xa)])
  refine o_callS X3 d5_20 (rest := []) (c_at l Z a0 hw [] n0 _ X3.size xa (1 : Int32) (f_bit xv (1 : Int32)) [(f_bit xv (0 : Int32)), (f_bit xv (1 : Int32)), (f_bit xv (2 : Int32)), (f_bit xv (3 : Int32))] L' H0 1 rfl (Or.inr rfl)) (hw _ (List.mem_of_getElem? (i := 12) rfl)) (hw _ (List.mem_of_getElem? (i := 13) rfl)) (hw _ (List.mem_of_getElem? (i := 3) rfl)) (hw _ (List.mem_of_getElem? (i := 14) rfl)) (by decide) 0 (by decide) (by decide) rfl [(.ref xa), (.int (1 : Int32)), (.int (f_bit xv (1 : Int32)))] rfl pd_4 rfl rfl (Nat.le_of_eq rfl) 0 0 rfl rfl (by decide) (by decide) 23 rfl ?_
  rintro _ T4 _ X4 ⟨rfl, rfl⟩
  show OE p e ({ frames := 1, cells := 0, slots := 0, locals := 15 } : Room) below s n0 Q' T4 (mkF m 23 #[.val (.ref xa), .val (.int xv)] [(.int (1 : Int32))])
  refine o_ifEq X4 d5_23 97 26 (by decide) (by decide) rfl (fun q => by exfalso; exact absurd q (by decide)) ?_
  intro hc23
  refine o_aloadN X4 d5_26 rfl rfl 27 rfl ?_
  refine o_iconst (v := (2 : Int32)) X4 d5_27 rfl 28 rfl ?_
  refine o_iloadN X4 d5_28 rfl 29 rfl ?_
  refine o_iconst (v := (2 : Int32)) X4 d5_29 rfl 30 rfl ?_
  refine o_callS X4 d5_30 (rest := [(.int (2 : Int32)), (.ref xa)]) (c_bit l Z a0 hw [] n0 _ X4.size xv (2 : Int32) ) (hw _ (List.mem_of_getElem? (i := 9) rfl)) (hw _ (List.mem_of_getElem? (i := 10) rfl)) (hw _ (List.mem_of_getElem? (i := 3) rfl)) (hw _ (List.mem_of_getElem? (i := 11) rfl)) (by decide) 2 (by decide) (by decide) rfl [(.int xv), (.int (2 : Int32))] rfl pd_3 rfl rfl (Nat.le_of_eq rfl) 0 0 rfl rfl (by decide) (by decide) 33 rfl ?_
  rintro _ T5 _ X5 ⟨rfl, rfl⟩
  show OE p e ({ frames := 1, cells := 0, slots := 0, locals := 15 } : Room) below s n0 Q' T5 (mkF m 33 #[.val (.ref xa), .val (.int xv)] [(.int (f_bit xv (2 : Int32))), (.int (2 : Int32)), (.ref xa)])
  refine o_callS X5 d5_33 (rest := []) (c_at l Z a0 hw [] n0 _ X5.size xa (2 : Int32) (f_bit xv (2 : Int32)) [(f_bit xv (0 : Int32)), (f_bit xv (1 : Int32)), (f_bit xv (2 : Int32)), (f_bit xv (3 : Int32))] L' H0 2 rfl (Or.inr rfl)) (hw _ (List.mem_of_getElem? (i := 12) rfl)) (hw _ (List.mem_of_getElem? (i := 13) rfl)) (hw _ (List.mem_of_getElem? (i := 3) rfl)) (hw _ (List.mem_of_getElem? (i := 14) rfl)) (by decide) 0 (by decide) (by decide) rfl [(.ref xa), (.int (2 : Int32)), (.int (f_bit xv (2 : Int32)))] rfl pd_4 rfl rfl (Nat.le_of_eq rfl) 0 0 rfl rfl (by decide) (by decide) 36 rfl ?_
  rintro _ T6 _ X6 ⟨rfl, rfl⟩
  show OE p e ({ frames := 1, cells := 0, slots := 0, locals := 15 } : Room) below s n0 Q' T6 (mkF m 36 #[.val (.ref xa), .val (.int xv)] [(.int (1 : Int32))])
  refine o_ifEq X6 d5_36 97 39 (by decide) (by decide) rfl (fun q => by exfalso; exact absurd q (by decide)) ?_
  intro hc36
  refine o_aloadN X6 d5_39 rfl rfl 40 rfl ?_
  refine o_iconst (v := (3 : Int32)) X6 d5_40 rfl 41 rfl ?_
  refine o_iloadN X6 d5_41 rfl 42 rfl ?_
  refine o_iconst (v := (3 : Int32)) X6 d5_42 rfl 43 rfl ?_
  refine o_callS X6 d5_43 (rest := [(.int (3 : Int32)), (.ref xa)]) (c_bit l Z a0 hw [] n0 _ X6.size xv (3 : Int32) ) (hw _ (List.mem_of_getElem? (i := 9) rfl)) (hw _ (List.mem_of_getElem? (i := 10) rfl)) (hw _ (List.mem_of_getElem? (i := 3) rfl)) (hw _ (List.mem_of_getElem? (i := 11) rfl)) (by decide) 2 (by decide) (by decide) rfl [(.int xv), (.int (3 : Int32))] rfl pd_3 rfl rfl (Nat.le_of_eq rfl) 0 0 rfl rfl (by decide) (by decide) 46 rfl ?_
  rintro _ T7 _ X7 ⟨rfl, rfl⟩
  show OE p e ({ frames := 1, cells := 0, slots := 0, locals := 15 } : Room) below s n0 Q' T7 (mkF m 46 #[.val (.ref xa), .val (.int xv)] [(.int (f_bit xv (3 : Int32))), (.int (3 : Int32)), (.ref xa)])
  refine o_callS X7 d5_46 (rest := []) (c_at l Z a0 hw [] n0 _ X7.size xa (3 : Int32) (f_bit xv (3 : Int32)) [(f_bit xv (0 : Int32)), (f_bit xv (1 : Int32)), (f_bit xv (2 : Int32)), (f_bit xv (3 : Int32))] L' H0 3 rfl (Or.inr rfl)) (hw _ (List.mem_of_getElem? (i := 12) rfl)) (hw _ (List.mem_of_getElem? (i := 13) rfl)) (hw _ (List.mem_of_getElem? (i := 3) rfl)) (hw _ (List.mem_of_getElem? (i := 14) rfl)) (by decide) 0 (by decide) (by decide) rfl [(.ref xa), (.int (3 : Int32)), (.int (f_bit xv (3 : Int32)))] rfl pd_4 rfl rfl (Nat.le_of_eq rfl) 0 0 rfl rfl (by decide) (by decide) 49 rfl ?_
  rintro _ T8 _ X8 ⟨rfl, rfl⟩
  show OE p e ({ frames := 1, cells := 0, slots := 0, locals := 15 } : Room) below s n0 Q' T8 (mkF m 49 #[.val (.ref xa), .val (.int xv)] [(.int (1 : Int32))])
  refine o_ifEq X8 d5_49 97 52 (by decide) (by decide) rfl (fun q => by exfalso; exact absurd q (by decide)) ?_
  intro hc49
  refine o_aloadN X8 d5_52 rfl rfl 53 rfl ?_
  refine o_iconst (v := (4 : Int32)) X8 d5_53 rfl 54 rfl ?_
  refine o_iloadN X8 d5_54 rfl 55 rfl ?_
  refine o_iconst (v := (4 : Int32)) X8 d5_55 rfl 56 rfl ?_
  refine o_callS X8 d5_56 (rest := [(.int (4 : Int32)), (.ref xa)]) (c_bit l Z a0 hw [] n0 _ X8.size xv (4 : Int32) ) (hw _ (List.mem_of_getElem? (i := 9) rfl)) (hw _ (List.mem_of_getElem? (i := 10) rfl)) (hw _ (List.mem_of_getElem? (i := 3) rfl)) (hw _ (List.mem_of_getElem? (i := 11) rfl)) (by decide) 2 (by decide) (by decide) rfl [(.int xv), (.int (4 : Int32))] rfl pd_3 rfl rfl (Nat.le_of_eq rfl) 0 0 rfl rfl (by decide) (by decide) 59 rfl ?_
  rintro _ T9 _ X9 ⟨rfl, rfl⟩
  show OE p e ({ frames := 1, cells := 0, slots := 0, locals := 15 } : Room) below s n0 Q' T9 (mkF m 59 #[.val (.ref xa), .val (.int xv)] [(.int (f_bit xv (4 : Int32))), (.int (4 : Int32)), (.ref xa)])
  refine o_callS X9 d5_59 (rest := []) (c_at l Z a0 hw [] n0 _ X9.size xa (4 : Int32) (f_bit xv (4 : Int32)) [(f_bit xv (0 : Int32)), (f_bit xv (1 : Int32)), (f_bit xv (2 : Int32)), (f_bit xv (3 : Int32))] L' H0 4 rfl (Or.inl (by show 4 ≤ 4; decide))) (hw _ (List.mem_of_getElem? (i := 12) rfl)) (hw _ (List.mem_of_getElem? (i := 13) rfl)) (hw _ (List.mem_of_getElem? (i := 3) rfl)) (hw _ (List.mem_of_getElem? (i := 14) rfl)) (by decide) 0 (by decide) (by decide) rfl [(.ref xa), (.int (4 : Int32)), (.int (f_bit xv (4 : Int32)))] rfl pd_4 rfl rfl (Nat.le_of_eq rfl) 0 0 rfl rfl (by decide) (by decide) 62 rfl ?_
  rintro _ T10 _ X10 ⟨rfl, rfl⟩
  show OE p e ({ frames := 1, cells := 0, slots := 0, locals := 15 } : Room) below s n0 Q' T10 (mkF m 62 #[.val (.ref xa), .val (.int xv)] [(.int (1 : Int32))])
  refine o_ifEq X10 d5_62 97 65 (by decide) (by decide) rfl (fun q => by exfalso; exact absurd q (by decide)) ?_
  intro hc62
  refine o_aloadN X10 d5_65 rfl rfl 66 rfl ?_
  refine o_iconst (v := (5 : Int32)) X10 d5_66 rfl 67 rfl ?_
  refine o_iloadN X10 d5_67 rfl 68 rfl ?_
  refine o_iconst (v := (5 : Int32)) X10 d5_68 rfl 69 rfl ?_
  refine o_callS X10 d5_69 (rest := [(.int (5 : Int32)), (.ref xa)]) (c_bit l Z a0 hw [] n0 _ X10.size xv (5 : Int32) ) (hw _ (List.mem_of_getElem? (i := 9) rfl)) (hw _ (List.mem_of_getElem? (i := 10) rfl)) (hw _ (List.mem_of_getElem? (i := 3) rfl)) (hw _ (List.mem_of_getElem? (i := 11) rfl)) (by decide) 2 (by decide) (by decide) rfl [(.int xv), (.int (5 : Int32))] rfl pd_3 rfl rfl (Nat.le_of_eq rfl) 0 0 rfl rfl (by decide) (by decide) 72 rfl ?_
  rintro _ T11 _ X11 ⟨rfl, rfl⟩
  show OE p e ({ frames := 1, cells := 0, slots := 0, locals := 15 } : Room) below s n0 Q' T11 (mkF m 72 #[.val (.ref xa), .val (.int xv)] [(.int (f_bit xv (5 : Int32))), (.int (5 : Int32)), (.ref xa)])
  refine o_callS X11 d5_72 (rest := []) (c_at l Z a0 hw [] n0 _ X11.size xa (5 : Int32) (f_bit xv (5 : Int32)) [(f_bit xv (0 : Int32)), (f_bit xv (1 : Int32)), (f_bit xv (2 : Int32)), (f_bit xv (3 : Int32))] L' H0 5 rfl (Or.inl (by show 4 ≤ 5; decide))) (hw _ (List.mem_of_getElem? (i := 12) rfl)) (hw _ (List.mem_of_getElem? (i := 13) rfl)) (hw _ (List.mem_of_getElem? (i := 3) rfl)) (hw _ (List.mem_of_getElem? (i := 14) rfl)) (by decide) 0 (by decide) (by decide) rfl [(.ref xa), (.int (5 : Int32)), (.int (f_bit xv (5 : Int32)))] rfl pd_4 rfl rfl (Nat.le_of_eq rfl) 0 0 rfl rfl (by decide) (by decide) 75 rfl ?_
  rintro _ T12 _ X12 ⟨rfl, rfl⟩
  show OE p e ({ frames := 1, cells := 0, slots := 0, locals := 15 } : Room) below s n0 Q' T12 (mkF m 75 #[.val (.ref xa), .val (.int xv)] [(.int (1 : Int32))])
  refine o_ifEq X12 d5_75 97 78 (by decide) (by decide) rfl (fun q => by exfalso; exact absurd q (by decide)) ?_
  intro hc75
  refine o_aloadN X12 d5_78 rfl rfl 79 rfl ?_
  refine o_bipush (v := (6 : Int32)) X12 d5_79 rfl 81 rfl ?_
  refine o_iloadN X12 d5_81 rfl 82 rfl ?_
  refine o_bipush (v := (6 : Int32)) X12 d5_82 rfl 84 rfl ?_
  refine o_callS X12 d5_84 (rest := [(.int (6 : Int32)), (.ref xa)]) (c_bit l Z a0 hw [] n0 _ X12.size xv (6 : Int32) ) (hw _ (List.mem_of_getElem? (i := 9) rfl)) (hw _ (List.mem_of_getElem? (i := 10) rfl)) (hw _ (List.mem_of_getElem? (i := 3) rfl)) (hw _ (List.mem_of_getElem? (i := 11) rfl)) (by decide) 2 (by decide) (by decide) rfl [(.int xv), (.int (6 : Int32))] rfl pd_3 rfl rfl (Nat.le_of_eq rfl) 0 0 rfl rfl (by decide) (by decide) 87 rfl ?_
  rintro _ T13 _ X13 ⟨rfl, rfl⟩
  show OE p e ({ frames := 1, cells := 0, slots := 0, locals := 15 } : Room) below s n0 Q' T13 (mkF m 87 #[.val (.ref xa), .val (.int xv)] [(.int (f_bit xv (6 : Int32))), (.int (6 : Int32)), (.ref xa)])
  refine o_callS X13 d5_87 (rest := []) (c_at l Z a0 hw [] n0 _ X13.size xa (6 : Int32) (f_bit xv (6 : Int32)) [(f_bit xv (0 : Int32)), (f_bit xv (1 : Int32)), (f_bit xv (2 : Int32)), (f_bit xv (3 : Int32))] L' H0 6 rfl (Or.inl (by show 4 ≤ 6; decide))) (hw _ (List.mem_of_getElem? (i := 12) rfl)) (hw _ (List.mem_of_getElem? (i := 13) rfl)) (hw _ (List.mem_of_getElem? (i := 3) rfl)) (hw _ (List.mem_of_getElem? (i := 14) rfl)) (by decide) 0 (by decide) (by decide) rfl [(.ref xa), (.int (6 : Int32)), (.int (f_bit xv (6 : Int32)))] rfl pd_4 rfl rfl (Nat.le_of_eq rfl) 0 0 rfl rfl (by decide) (by decide) 90 rfl ?_
  rintro _ T14 _ X14 ⟨rfl, rfl⟩
  show OE p e ({ frames := 1, cells := 0, slots := 0, locals := 15 } : Room) below s n0 Q' T14 (mkF m 90 #[.val (.ref xa), .val (.int xv)] [(.int (1 : Int32))])
  refine o_ifEq X14 d5_90 97 93 (by decide) (by decide) rfl (fun q => by exfalso; exact absurd q (by decide)) ?_
  intro hc90
  refine o_iconst (v := (1 : Int32)) X14 d5_93 rfl 94 rfl ?_
  refine o_goto X14 d5_94 98 (by decide) (by decide) ?_
  exact o_retZ X14 d5_98 (by decide) (by decide) (hQ _ _ ⟨rfl, rfl⟩)
set_option maxRecDepth 65536 in
set_option maxHeartbeats 40000000 in
theorem c_fill5 (l : Launch) (Z : State) (a0 : Array Value) (hw : ∀ d ∈ tables_1, d.before a0 Z = true) (ws : List Jvm.Cond) (n0 : Nat) (h0 : Heap) (hn0 : n0 ≤ h0.size) (xa : Addr) (xv : Int32) (L' : List (Addr × (Cell → Prop))) (H0 : OL n0 h0 ((xa, OA Z .boolean [(0 : Int32), (0 : Int32), (0 : Int32), (0 : Int32), (0 : Int32)]) :: L')) :
    OC l Z (⟨"com/example/eratosthenes/eratosthenes/tune/GeneticSearchCombPinLaw", "fill", "([ZI)V"⟩ : MethodName) method_4_code 2 none ws ({ frames := 1, cells := 0, slots := 0, locals := 15 } : Room) n0 #[(.ref xa), (.int xv)] h0 (fun r h => r = none ∧ OL n0 h ((xa, OA Z .boolean [(f_bit xv (0 : Int32)), (f_bit xv (1 : Int32)), (f_bit xv (2 : Int32)), (f_bit xv (3 : Int32)), (f_bit xv (4 : Int32))]) :: L')) := by
  refine OC.of pn_0 hn0 #[.val (.ref xa), .val (.int xv)] (fun m => by first | (simp [entryFrame, mkF, argsToLocals, Value.category, maxLocals]; done) | rfl) ?_
  intro p e s m below meth cd0 T0 X0 Q' hQ
  refine o_aloadN X0 d1_0 rfl rfl 1 rfl ?_
  refine o_arraylength X0 H0 0 rfl d1_1 (5 : Int32) rfl 2 rfl ?_
  refine o_ifLe X0 d1_2 13 5 (by decide) (by decide) rfl (fun q => by exfalso; exact absurd q (by decide)) ?_
  intro hc2
  refine o_aloadN X0 d1_5 rfl rfl 6 rfl ?_
  refine o_iconst (v := (0 : Int32)) X0 d1_6 rfl 7 rfl ?_
  refine o_iloadN X0 d1_7 rfl 8 rfl ?_
  refine o_iconst (v := (0 : Int32)) X0 d1_8 rfl 9 rfl ?_
  refine o_callS X0 d1_9 (rest := [(.int (0 : Int32)), (.ref xa)]) (c_bit l Z a0 hw [] n0 _ X0.size xv (0 : Int32) ) (hw _ (List.mem_of_getElem? (i := 9) rfl)) (hw _ (List.mem_of_getElem? (i := 10) rfl)) (hw _ (List.mem_of_getElem? (i := 3) rfl)) (hw _ (List.mem_of_getElem? (i := 11) rfl)) (by decide) 2 (by decide) (by decide) rfl [(.int xv), (.int (0 : Int32))] rfl pd_3 rfl rfl (Nat.le_of_eq rfl) 0 0 rfl rfl (by decide) (by decide) 12 rfl ?_
  rintro _ T1 _ X1 ⟨rfl, rfl⟩
  show OE p e ({ frames := 1, cells := 0, slots := 0, locals := 15 } : Room) below s n0 Q' T1 (mkF m 12 #[.val (.ref xa), .val (.int xv)] [(.int (f_bit xv (0 : Int32))), (.int (0 : Int32)), (.ref xa)])
  refine o_bastoreZ X1 H0 0 rfl d1_12 0 rfl (by show 0 < 5; decide) (f_bit xv (0 : Int32)) (v_nar _ _) 13 rfl ?_
  intro T2 h2 X2 H2
  replace H2 : OL n0 h2 ((xa, OA Z .boolean [(f_bit xv (0 : Int32)), (0 : Int32), (0 : Int32), (0 : Int32), (0 : Int32)]) :: L') := H2
  refine o_aloadN X2 d1_13 rfl rfl 14 rfl ?_
  refine o_arraylength X2 H2 0 rfl d1_14 (5 : Int32) rfl 15 rfl ?_
  refine o_iconst (v := (1 : Int32)) X2 d1_15 rfl 16 rfl ?_
  refine o_icmpLe X2 d1_16 27 19 (by decide) (by decide) rfl (fun q => by exfalso; exact absurd q (by decide)) ?_
  intro hc16
  refine o_aloadN X2 d1_19 rfl rfl 20 rfl ?_
  refine o_iconst (v := (1 : Int32)) X2 d1_20 rfl 21 rfl ?_
  refine o_iloadN X2 d1_21 rfl 22 rfl ?_
  refine o_iconst (v := (1 : Int32)) X2 d1_22 rfl 23 rfl ?_
  refine o_callS X2 d1_23 (rest := [(.int (1 : Int32)), (.ref xa)]) (c_bit l Z a0 hw [] n0 _ X2.size xv (1 : Int32) ) (hw _ (List.mem_of_getElem? (i := 9) rfl)) (hw _ (List.mem_of_getElem? (i := 10) rfl)) (hw _ (List.mem_of_getElem? (i := 3) rfl)) (hw _ (List.mem_of_getElem? (i := 11) rfl)) (by decide) 2 (by decide) (by decide) rfl [(.int xv), (.int (1 : Int32))] rfl pd_3 rfl rfl (Nat.le_of_eq rfl) 0 0 rfl rfl (by decide) (by decide) 26 rfl ?_
  rintro _ T3 _ X3 ⟨rfl, rfl⟩
  show OE p e ({ frames := 1, cells := 0, slots := 0, locals := 15 } : Room) below s n0 Q' T3 (mkF m 26 #[.val (.ref xa), .val (.int xv)] [(.int (f_bit xv (1 : Int32))), (.int (1 : Int32)), (.ref xa)])
  refine o_bastoreZ X3 H2 0 rfl d1_26 1 rfl (by show 1 < 5; decide) (f_bit xv (1 : Int32)) (v_nar _ _) 27 rfl ?_
  intro T4 h4 X4 H4
  replace H4 : OL n0 h4 ((xa, OA Z .boolean [(f_bit xv (0 : Int32)), (f_bit xv (1 : Int32)), (0 : Int32), (0 : Int32), (0 : Int32)]) :: L') := H4
  refine o_aloadN X4 d1_27 rfl rfl 28 rfl ?_
  refine o_arraylength X4 H4 0 rfl d1_28 (5 : Int32) rfl 29 rfl ?_
  refine o_iconst (v := (2 : Int32)) X4 d1_29 rfl 30 rfl ?_
  refine o_icmpLe X4 d1_30 41 33 (by decide) (by decide) rfl (fun q => by exfalso; exact absurd q (by decide)) ?_
  intro hc30
  refine o_aloadN X4 d1_33 rfl rfl 34 rfl ?_
  refine o_iconst (v := (2 : Int32)) X4 d1_34 rfl 35 rfl ?_
  refine o_iloadN X4 d1_35 rfl 36 rfl ?_
  refine o_iconst (v := (2 : Int32)) X4 d1_36 rfl 37 rfl ?_
  refine o_callS X4 d1_37 (rest := [(.int (2 : Int32)), (.ref xa)]) (c_bit l Z a0 hw [] n0 _ X4.size xv (2 : Int32) ) (hw _ (List.mem_of_getElem? (i := 9) rfl)) (hw _ (List.mem_of_getElem? (i := 10) rfl)) (hw _ (List.mem_of_getElem? (i := 3) rfl)) (hw _ (List.mem_of_getElem? (i := 11) rfl)) (by decide) 2 (by decide) (by decide) rfl [(.int xv), (.int (2 : Int32))] rfl pd_3 rfl rfl (Nat.le_of_eq rfl) 0 0 rfl rfl (by decide) (by decide) 40 rfl ?_
  rintro _ T5 _ X5 ⟨rfl, rfl⟩
  show OE p e ({ frames := 1, cells := 0, slots := 0, locals := 15 } : Room) below s n0 Q' T5 (mkF m 40 #[.val (.ref xa), .val (.int xv)] [(.int (f_bit xv (2 : Int32))), (.int (2 : Int32)), (.ref xa)])
  refine o_bastoreZ X5 H4 0 rfl d1_40 2 rfl (by show 2 < 5; decide) (f_bit xv (2 : Int32)) (v_nar _ _) 41 rfl ?_
  intro T6 h6 X6 H6
  replace H6 : OL n0 h6 ((xa, OA Z .boolean [(f_bit xv (0 : Int32)), (f_bit xv (1 : Int32)), (f_bit xv (2 : Int32)), (0 : Int32), (0 : Int32)]) :: L') := H6
  refine o_aloadN X6 d1_41 rfl rfl 42 rfl ?_
  refine o_arraylength X6 H6 0 rfl d1_42 (5 : Int32) rfl 43 rfl ?_
  refine o_iconst (v := (3 : Int32)) X6 d1_43 rfl 44 rfl ?_
  refine o_icmpLe X6 d1_44 55 47 (by decide) (by decide) rfl (fun q => by exfalso; exact absurd q (by decide)) ?_
  intro hc44
  refine o_aloadN X6 d1_47 rfl rfl 48 rfl ?_
  refine o_iconst (v := (3 : Int32)) X6 d1_48 rfl 49 rfl ?_
  refine o_iloadN X6 d1_49 rfl 50 rfl ?_
  refine o_iconst (v := (3 : Int32)) X6 d1_50 rfl 51 rfl ?_
  refine o_callS X6 d1_51 (rest := [(.int (3 : Int32)), (.ref xa)]) (c_bit l Z a0 hw [] n0 _ X6.size xv (3 : Int32) ) (hw _ (List.mem_of_getElem? (i := 9) rfl)) (hw _ (List.mem_of_getElem? (i := 10) rfl)) (hw _ (List.mem_of_getElem? (i := 3) rfl)) (hw _ (List.mem_of_getElem? (i := 11) rfl)) (by decide) 2 (by decide) (by decide) rfl [(.int xv), (.int (3 : Int32))] rfl pd_3 rfl rfl (Nat.le_of_eq rfl) 0 0 rfl rfl (by decide) (by decide) 54 rfl ?_
  rintro _ T7 _ X7 ⟨rfl, rfl⟩
  show OE p e ({ frames := 1, cells := 0, slots := 0, locals := 15 } : Room) below s n0 Q' T7 (mkF m 54 #[.val (.ref xa), .val (.int xv)] [(.int (f_bit xv (3 : Int32))), (.int (3 : Int32)), (.ref xa)])
  refine o_bastoreZ X7 H6 0 rfl d1_54 3 rfl (by show 3 < 5; decide) (f_bit xv (3 : Int32)) (v_nar _ _) 55 rfl ?_
  intro T8 h8 X8 H8
  replace H8 : OL n0 h8 ((xa, OA Z .boolean [(f_bit xv (0 : Int32)), (f_bit xv (1 : Int32)), (f_bit xv (2 : Int32)), (f_bit xv (3 : Int32)), (0 : Int32)]) :: L') := H8
  refine o_aloadN X8 d1_55 rfl rfl 56 rfl ?_
  refine o_arraylength X8 H8 0 rfl d1_56 (5 : Int32) rfl 57 rfl ?_
  refine o_iconst (v := (4 : Int32)) X8 d1_57 rfl 58 rfl ?_
  refine o_icmpLe X8 d1_58 69 61 (by decide) (by decide) rfl (fun q => by exfalso; exact absurd q (by decide)) ?_
  intro hc58
  refine o_aloadN X8 d1_61 rfl rfl 62 rfl ?_
  refine o_iconst (v := (4 : Int32)) X8 d1_62 rfl 63 rfl ?_
  refine o_iloadN X8 d1_63 rfl 64 rfl ?_
  refine o_iconst (v := (4 : Int32)) X8 d1_64 rfl 65 rfl ?_
  refine o_callS X8 d1_65 (rest := [(.int (4 : Int32)), (.ref xa)]) (c_bit l Z a0 hw [] n0 _ X8.size xv (4 : Int32) ) (hw _ (List.mem_of_getElem? (i := 9) rfl)) (hw _ (List.mem_of_getElem? (i := 10) rfl)) (hw _ (List.mem_of_getElem? (i := 3) rfl)) (hw _ (List.mem_of_getElem? (i := 11) rfl)) (by decide) 2 (by decide) (by decide) rfl [(.int xv), (.int (4 : Int32))] rfl pd_3 rfl rfl (Nat.le_of_eq rfl) 0 0 rfl rfl (by decide) (by decide) 68 rfl ?_
  rintro _ T9 _ X9 ⟨rfl, rfl⟩
  show OE p e ({ frames := 1, cells := 0, slots := 0, locals := 15 } : Room) below s n0 Q' T9 (mkF m 68 #[.val (.ref xa), .val (.int xv)] [(.int (f_bit xv (4 : Int32))), (.int (4 : Int32)), (.ref xa)])
  refine o_bastoreZ X9 H8 0 rfl d1_68 4 rfl (by show 4 < 5; decide) (f_bit xv (4 : Int32)) (v_nar _ _) 69 rfl ?_
  intro T10 h10 X10 H10
  replace H10 : OL n0 h10 ((xa, OA Z .boolean [(f_bit xv (0 : Int32)), (f_bit xv (1 : Int32)), (f_bit xv (2 : Int32)), (f_bit xv (3 : Int32)), (f_bit xv (4 : Int32))]) :: L') := H10
  refine o_aloadN X10 d1_69 rfl rfl 70 rfl ?_
  refine o_arraylength X10 H10 0 rfl d1_70 (5 : Int32) rfl 71 rfl ?_
  refine o_iconst (v := (5 : Int32)) X10 d1_71 rfl 72 rfl ?_
  refine o_icmpLe X10 d1_72 83 75 (by decide) (by decide) rfl ?_ (fun q => by exfalso; exact absurd q (by decide))
  intro hc72
  refine o_aloadN X10 d1_83 rfl rfl 84 rfl ?_
  refine o_arraylength X10 H10 0 rfl d1_84 (5 : Int32) rfl 85 rfl ?_
  refine o_bipush (v := (6 : Int32)) X10 d1_85 rfl 87 rfl ?_
  refine o_icmpLe X10 d1_87 100 90 (by decide) (by decide) rfl ?_ (fun q => by exfalso; exact absurd q (by decide))
  intro hc87
  exact o_ret X10 d1_100 (by decide) (by decide) (hQ _ _ ⟨rfl, H10⟩)
set_option maxRecDepth 65536 in
set_option maxHeartbeats 40000000 in
theorem c_comb5 (l : Launch) (Z : State) (a0 : Array Value) (hw : ∀ d ∈ tables_1, d.before a0 Z = true) (ws : List Jvm.Cond) (n0 : Nat) (h0 : Heap) (hn0 : n0 ≤ h0.size) (xa xb : Addr) (xx xy : Int32) (L' : List (Addr × (Cell → Prop))) (H0 : OL n0 h0 ((xa, OA Z .boolean [(f_bit xx (0 : Int32)), (f_bit xx (1 : Int32)), (f_bit xx (2 : Int32)), (f_bit xx (3 : Int32)), (f_bit xx (4 : Int32))]) :: (xb, OA Z .boolean [(f_bit xy (0 : Int32)), (f_bit xy (1 : Int32)), (f_bit xy (2 : Int32)), (f_bit xy (3 : Int32)), (f_bit xy (4 : Int32))]) :: L')) :
    OC l Z (⟨"com/example/eratosthenes/eratosthenes/tune/GeneticSearch", "comb", "([Z[Z)[Z"⟩ : MethodName) prog_27_method_3_code 4 (some (.array .boolean)) ws ({ frames := 0, cells := 1, slots := 5, locals := 0 } : Room) n0 #[(.ref xa), (.ref xb)] h0 (fun r h => ∃ a, r = some (.ref a) ∧ OL n0 h ((a, OA Z .boolean [(f_bit xx (0 : Int32)), (f_bit xy (1 : Int32)), (f_bit xx (2 : Int32)), (f_bit xy (3 : Int32)), (f_bit xx (4 : Int32))]) :: (xa, OA Z .boolean [(f_bit xx (0 : Int32)), (f_bit xx (1 : Int32)), (f_bit xx (2 : Int32)), (f_bit xx (3 : Int32)), (f_bit xx (4 : Int32))]) :: (xb, OA Z .boolean [(f_bit xy (0 : Int32)), (f_bit xy (1 : Int32)), (f_bit xy (2 : Int32)), (f_bit xy (3 : Int32)), (f_bit xy (4 : Int32))]) :: L')) := by
  refine OC.of pn_1 hn0 #[.val (.ref xa), .val (.ref xb), .unset, .unset] (fun m => by first | (simp [entryFrame, mkF, argsToLocals, Value.category, maxLocals]; done) | rfl) ?_
  intro p e s m below meth cd0 T0 X0 Q' hQ
  refine o_aloadN X0 d2_0 rfl rfl 1 rfl ?_
  refine o_arraylength X0 H0 0 rfl d2_1 (5 : Int32) rfl 2 rfl ?_
  refine o_newarray (L := ((xa, OA Z .boolean [(f_bit xx (0 : Int32)), (f_bit xx (1 : Int32)), (f_bit xx (2 : Int32)), (f_bit xx (3 : Int32)), (f_bit xx (4 : Int32))]) :: (xb, OA Z .boolean [(f_bit xy (0 : Int32)), (f_bit xy (1 : Int32)), (f_bit xy (2 : Int32)), (f_bit xy (3 : Int32)), (f_bit xy (4 : Int32))]) :: L')) X0 H0 d2_2 (hw _ (List.mem_of_getElem? (i := 0) rfl)) rfl rfl 5 5 rfl (by decide) (by decide) 1 5 rfl rfl (by decide) (by decide) 4 rfl ?_
  intro T1 h1 b1 X1 H1
  replace H1 : OL n0 h1 ((b1, OA Z .boolean [(0 : Int32), (0 : Int32), (0 : Int32), (0 : Int32), (0 : Int32)]) :: (xa, OA Z .boolean [(f_bit xx (0 : Int32)), (f_bit xx (1 : Int32)), (f_bit xx (2 : Int32)), (f_bit xx (3 : Int32)), (f_bit xx (4 : Int32))]) :: (xb, OA Z .boolean [(f_bit xy (0 : Int32)), (f_bit xy (1 : Int32)), (f_bit xy (2 : Int32)), (f_bit xy (3 : Int32)), (f_bit xy (4 : Int32))]) :: L') := H1
  refine o_astoreN X1 d2_4 rfl #[.val (.ref xa), .val (.ref xb), .val (.ref b1), .unset] rfl 5 rfl ?_
  refine o_iconst (v := (0 : Int32)) X1 d2_5 rfl 6 rfl ?_
  refine o_istoreN X1 d2_6 #[.val (.ref xa), .val (.ref xb), .val (.ref b1), .val (.int (0 : Int32))] rfl 7 rfl ?_
  refine o_iloadN X1 d2_7 rfl 8 rfl ?_
  refine o_aloadN X1 d2_8 rfl rfl 9 rfl ?_
  refine o_arraylength X1 H1 0 rfl d2_9 (5 : Int32) rfl 10 rfl ?_
  refine o_icmpGe X1 d2_10 37 13 (by decide) (by decide) rfl (fun q => by exfalso; exact absurd q (by decide)) ?_
  intro hc10
  refine o_aloadN X1 d2_13 rfl rfl 14 rfl ?_
  refine o_iloadN X1 d2_14 rfl 15 rfl ?_
  refine o_iloadN X1 d2_15 rfl 16 rfl ?_
  refine o_iconst (v := (2 : Int32)) X1 d2_16 rfl 17 rfl ?_
  refine o_irem X1 d2_17 (by decide) 18 rfl ?_
  refine o_ifNe X1 d2_18 27 21 (by decide) (by decide) rfl (fun q => by exfalso; exact absurd q (by decide)) ?_
  intro hc18
  refine o_aloadN X1 d2_21 rfl rfl 22 rfl ?_
  refine o_iloadN X1 d2_22 rfl 23 rfl ?_
  refine o_baloadZ X1 H1 1 rfl d2_23 0 rfl (f_bit xx (0 : Int32)) rfl 24 rfl ?_
  refine o_goto X1 d2_24 30 (by decide) (by decide) ?_
  refine o_bastoreZ X1 H1 0 rfl d2_30 0 rfl (by show 0 < 5; decide) (f_bit xx (0 : Int32)) (v_nar _ _) 31 rfl ?_
  intro T2 h2 X2 H2
  replace H2 : OL n0 h2 ((b1, OA Z .boolean [(f_bit xx (0 : Int32)), (0 : Int32), (0 : Int32), (0 : Int32), (0 : Int32)]) :: (xa, OA Z .boolean [(f_bit xx (0 : Int32)), (f_bit xx (1 : Int32)), (f_bit xx (2 : Int32)), (f_bit xx (3 : Int32)), (f_bit xx (4 : Int32))]) :: (xb, OA Z .boolean [(f_bit xy (0 : Int32)), (f_bit xy (1 : Int32)), (f_bit xy (2 : Int32)), (f_bit xy (3 : Int32)), (f_bit xy (4 : Int32))]) :: L') := H2
  refine o_iinc (v := (0 : Int32)) (w := (1 : Int32)) X2 d2_31 rfl rfl #[.val (.ref xa), .val (.ref xb), .val (.ref b1), .val (.int (1 : Int32))] rfl 34 rfl ?_
  refine o_goto X2 d2_34 7 (by decide) (by decide) ?_
  refine o_iloadN X2 d2_7 rfl 8 rfl ?_
  refine o_aloadN X2 d2_8 rfl rfl 9 rfl ?_
  refine o_arraylength X2 H2 0 rfl d2_9 (5 : Int32) rfl 10 rfl ?_
  refine o_icmpGe X2 d2_10 37 13 (by decide) (by decide) rfl (fun q => by exfalso; exact absurd q (by decide)) ?_
  intro hc10_1
  refine o_aloadN X2 d2_13 rfl rfl 14 rfl ?_
  refine o_iloadN X2 d2_14 rfl 15 rfl ?_
  refine o_iloadN X2 d2_15 rfl 16 rfl ?_
  refine o_iconst (v := (2 : Int32)) X2 d2_16 rfl 17 rfl ?_
  refine o_irem X2 d2_17 (by decide) 18 rfl ?_
  refine o_ifNe X2 d2_18 27 21 (by decide) (by decide) rfl ?_ (fun q => by exfalso; exact absurd q (by decide))
  intro hc18_1
  refine o_aloadN X2 d2_27 rfl rfl 28 rfl ?_
  refine o_iloadN X2 d2_28 rfl 29 rfl ?_
  refine o_baloadZ X2 H2 2 rfl d2_29 1 rfl (f_bit xy (1 : Int32)) rfl 30 rfl ?_
  refine o_bastoreZ X2 H2 0 rfl d2_30 1 rfl (by show 1 < 5; decide) (f_bit xy (1 : Int32)) (v_nar _ _) 31 rfl ?_
  intro T3 h3 X3 H3
  replace H3 : OL n0 h3 ((b1, OA Z .boolean [(f_bit xx (0 : Int32)), (f_bit xy (1 : Int32)), (0 : Int32), (0 : Int32), (0 : Int32)]) :: (xa, OA Z .boolean [(f_bit xx (0 : Int32)), (f_bit xx (1 : Int32)), (f_bit xx (2 : Int32)), (f_bit xx (3 : Int32)), (f_bit xx (4 : Int32))]) :: (xb, OA Z .boolean [(f_bit xy (0 : Int32)), (f_bit xy (1 : Int32)), (f_bit xy (2 : Int32)), (f_bit xy (3 : Int32)), (f_bit xy (4 : Int32))]) :: L') := H3
  refine o_iinc (v := (1 : Int32)) (w := (2 : Int32)) X3 d2_31 rfl rfl #[.val (.ref xa), .val (.ref xb), .val (.ref b1), .val (.int (2 : Int32))] rfl 34 rfl ?_
  refine o_goto X3 d2_34 7 (by decide) (by decide) ?_
  refine o_iloadN X3 d2_7 rfl 8 rfl ?_
  refine o_aloadN X3 d2_8 rfl rfl 9 rfl ?_
  refine o_arraylength X3 H3 0 rfl d2_9 (5 : Int32) rfl 10 rfl ?_
  refine o_icmpGe X3 d2_10 37 13 (by decide) (by decide) rfl (fun q => by exfalso; exact absurd q (by decide)) ?_
  intro hc10_2
  refine o_aloadN X3 d2_13 rfl rfl 14 rfl ?_
  refine o_iloadN X3 d2_14 rfl 15 rfl ?_
  refine o_iloadN X3 d2_15 rfl 16 rfl ?_
  refine o_iconst (v := (2 : Int32)) X3 d2_16 rfl 17 rfl ?_
  refine o_irem X3 d2_17 (by decide) 18 rfl ?_
  refine o_ifNe X3 d2_18 27 21 (by decide) (by decide) rfl (fun q => by exfalso; exact absurd q (by decide)) ?_
  intro hc18_2
  refine o_aloadN X3 d2_21 rfl rfl 22 rfl ?_
  refine o_iloadN X3 d2_22 rfl 23 rfl ?_
  refine o_baloadZ X3 H3 1 rfl d2_23 2 rfl (f_bit xx (2 : Int32)) rfl 24 rfl ?_
  refine o_goto X3 d2_24 30 (by decide) (by decide) ?_
  refine o_bastoreZ X3 H3 0 rfl d2_30 2 rfl (by show 2 < 5; decide) (f_bit xx (2 : Int32)) (v_nar _ _) 31 rfl ?_
  intro T4 h4 X4 H4
  replace H4 : OL n0 h4 ((b1, OA Z .boolean [(f_bit xx (0 : Int32)), (f_bit xy (1 : Int32)), (f_bit xx (2 : Int32)), (0 : Int32), (0 : Int32)]) :: (xa, OA Z .boolean [(f_bit xx (0 : Int32)), (f_bit xx (1 : Int32)), (f_bit xx (2 : Int32)), (f_bit xx (3 : Int32)), (f_bit xx (4 : Int32))]) :: (xb, OA Z .boolean [(f_bit xy (0 : Int32)), (f_bit xy (1 : Int32)), (f_bit xy (2 : Int32)), (f_bit xy (3 : Int32)), (f_bit xy (4 : Int32))]) :: L') := H4
  refine o_iinc (v := (2 : Int32)) (w := (3 : Int32)) X4 d2_31 rfl rfl #[.val (.ref xa), .val (.ref xb), .val (.ref b1), .val (.int (3 : Int32))] rfl 34 rfl ?_
  refine o_goto X4 d2_34 7 (by decide) (by decide) ?_
  refine o_iloadN X4 d2_7 rfl 8 rfl ?_
  refine o_aloadN X4 d2_8 rfl rfl 9 rfl ?_
  refine o_arraylength X4 H4 0 rfl d2_9 (5 : Int32) rfl 10 rfl ?_
  refine o_icmpGe X4 d2_10 37 13 (by decide) (by decide) rfl (fun q => by exfalso; exact absurd q (by decide)) ?_
  intro hc10_3
  refine o_aloadN X4 d2_13 rfl rfl 14 rfl ?_
  refine o_iloadN X4 d2_14 rfl 15 rfl ?_
  refine o_iloadN X4 d2_15 rfl 16 rfl ?_
  refine o_iconst (v := (2 : Int32)) X4 d2_16 rfl 17 rfl ?_
  refine o_irem X4 d2_17 (by decide) 18 rfl ?_
  refine o_ifNe X4 d2_18 27 21 (by decide) (by decide) rfl ?_ (fun q => by exfalso; exact absurd q (by decide))
  intro hc18_3
  refine o_aloadN X4 d2_27 rfl rfl 28 rfl ?_
  refine o_iloadN X4 d2_28 rfl 29 rfl ?_
  refine o_baloadZ X4 H4 2 rfl d2_29 3 rfl (f_bit xy (3 : Int32)) rfl 30 rfl ?_
  refine o_bastoreZ X4 H4 0 rfl d2_30 3 rfl (by show 3 < 5; decide) (f_bit xy (3 : Int32)) (v_nar _ _) 31 rfl ?_
  intro T5 h5 X5 H5
  replace H5 : OL n0 h5 ((b1, OA Z .boolean [(f_bit xx (0 : Int32)), (f_bit xy (1 : Int32)), (f_bit xx (2 : Int32)), (f_bit xy (3 : Int32)), (0 : Int32)]) :: (xa, OA Z .boolean [(f_bit xx (0 : Int32)), (f_bit xx (1 : Int32)), (f_bit xx (2 : Int32)), (f_bit xx (3 : Int32)), (f_bit xx (4 : Int32))]) :: (xb, OA Z .boolean [(f_bit xy (0 : Int32)), (f_bit xy (1 : Int32)), (f_bit xy (2 : Int32)), (f_bit xy (3 : Int32)), (f_bit xy (4 : Int32))]) :: L') := H5
  refine o_iinc (v := (3 : Int32)) (w := (4 : Int32)) X5 d2_31 rfl rfl #[.val (.ref xa), .val (.ref xb), .val (.ref b1), .val (.int (4 : Int32))] rfl 34 rfl ?_
  refine o_goto X5 d2_34 7 (by decide) (by decide) ?_
  refine o_iloadN X5 d2_7 rfl 8 rfl ?_
  refine o_aloadN X5 d2_8 rfl rfl 9 rfl ?_
  refine o_arraylength X5 H5 0 rfl d2_9 (5 : Int32) rfl 10 rfl ?_
  refine o_icmpGe X5 d2_10 37 13 (by decide) (by decide) rfl (fun q => by exfalso; exact absurd q (by decide)) ?_
  intro hc10_4
  refine o_aloadN X5 d2_13 rfl rfl 14 rfl ?_
  refine o_iloadN X5 d2_14 rfl 15 rfl ?_
  refine o_iloadN X5 d2_15 rfl 16 rfl ?_
  refine o_iconst (v := (2 : Int32)) X5 d2_16 rfl 17 rfl ?_
  refine o_irem X5 d2_17 (by decide) 18 rfl ?_
  refine o_ifNe X5 d2_18 27 21 (by decide) (by decide) rfl (fun q => by exfalso; exact absurd q (by decide)) ?_
  intro hc18_4
  refine o_aloadN X5 d2_21 rfl rfl 22 rfl ?_
  refine o_iloadN X5 d2_22 rfl 23 rfl ?_
  refine o_baloadZ X5 H5 1 rfl d2_23 4 rfl (f_bit xx (4 : Int32)) rfl 24 rfl ?_
  refine o_goto X5 d2_24 30 (by decide) (by decide) ?_
  refine o_bastoreZ X5 H5 0 rfl d2_30 4 rfl (by show 4 < 5; decide) (f_bit xx (4 : Int32)) (v_nar _ _) 31 rfl ?_
  intro T6 h6 X6 H6
  replace H6 : OL n0 h6 ((b1, OA Z .boolean [(f_bit xx (0 : Int32)), (f_bit xy (1 : Int32)), (f_bit xx (2 : Int32)), (f_bit xy (3 : Int32)), (f_bit xx (4 : Int32))]) :: (xa, OA Z .boolean [(f_bit xx (0 : Int32)), (f_bit xx (1 : Int32)), (f_bit xx (2 : Int32)), (f_bit xx (3 : Int32)), (f_bit xx (4 : Int32))]) :: (xb, OA Z .boolean [(f_bit xy (0 : Int32)), (f_bit xy (1 : Int32)), (f_bit xy (2 : Int32)), (f_bit xy (3 : Int32)), (f_bit xy (4 : Int32))]) :: L') := H6
  refine o_iinc (v := (4 : Int32)) (w := (5 : Int32)) X6 d2_31 rfl rfl #[.val (.ref xa), .val (.ref xb), .val (.ref b1), .val (.int (5 : Int32))] rfl 34 rfl ?_
  refine o_goto X6 d2_34 7 (by decide) (by decide) ?_
  refine o_iloadN X6 d2_7 rfl 8 rfl ?_
  refine o_aloadN X6 d2_8 rfl rfl 9 rfl ?_
  refine o_arraylength X6 H6 0 rfl d2_9 (5 : Int32) rfl 10 rfl ?_
  refine o_icmpGe X6 d2_10 37 13 (by decide) (by decide) rfl ?_ (fun q => by exfalso; exact absurd q (by decide))
  intro hc10_5
  refine o_aloadN X6 d2_37 rfl rfl 38 rfl ?_
  exact o_retA X6 rfl rfl d2_38 (by decide) (by decide) (hQ _ _ ⟨_, rfl, H6⟩)
set_option maxRecDepth 65536 in
set_option maxHeartbeats 40000000 in
theorem c_same5 (l : Launch) (Z : State) (a0 : Array Value) (hw : ∀ d ∈ tables_1, d.before a0 Z = true) (ws : List Jvm.Cond) (n0 : Nat) (h0 : Heap) (hn0 : n0 ≤ h0.size) (xa : Addr) (xv : Int32) (L' : List (Addr × (Cell → Prop))) (H0 : OL n0 h0 ((xa, OA Z .boolean [(f_bit xv (0 : Int32)), (f_bit xv (1 : Int32)), (f_bit xv (2 : Int32)), (f_bit xv (3 : Int32)), (f_bit xv (4 : Int32))]) :: L')) :
    OC l Z (⟨"com/example/eratosthenes/eratosthenes/tune/GeneticSearchCombPinLaw", "same", "([ZI)Z"⟩ : MethodName) method_5_code 2 (some .boolean) ws ({ frames := 1, cells := 0, slots := 0, locals := 15 } : Room) n0 #[(.ref xa), (.int xv)] h0 (fun r h => r = some (.int 1) ∧ h0 = h) := by
  refine OC.of pn_0 hn0 #[.val (.ref xa), .val (.int xv)] (fun m => by first | (simp [entryFrame, mkF, argsToLocals, Value.category, maxLocals]; done) | rfl) ?_
  intro p e s m below meth cd0 T0 X0 Q' hQ
  refine o_aloadN X0 d5_0 rfl rfl 1 rfl ?_
  refine o_iconst (v := (0 : Int32)) X0 d5_1 rfl 2 rfl ?_
  refine o_iloadN X0 d5_2 rfl 3 rfl ?_
  refine o_iconst (v := (0 : Int32)) X0 d5_3 rfl 4 rfl ?_
  refine o_callS X0 d5_4 (rest := [(.int (0 : Int32)), (.ref xa)]) (c_bit l Z a0 hw [] n0 _ X0.size xv (0 : Int32) ) (hw _ (List.mem_of_getElem? (i := 9) rfl)) (hw _ (List.mem_of_getElem? (i := 10) rfl)) (hw _ (List.mem_of_getElem? (i := 3) rfl)) (hw _ (List.mem_of_getElem? (i := 11) rfl)) (by decide) 2 (by decide) (by decide) rfl [(.int xv), (.int (0 : Int32))] rfl pd_3 rfl rfl (Nat.le_of_eq rfl) 0 0 rfl rfl (by decide) (by decide) 7 rfl ?_
  rintro _ T1 _ X1 ⟨rfl, rfl⟩
  show OE p e ({ frames := 1, cells := 0, slots := 0, locals := 15 } : Room) below s n0 Q' T1 (mkF m 7 #[.val (.ref xa), .val (.int xv)] [(.int (f_bit xv (0 : Int32))), (.int (0 : Int32)), (.ref xa)])
  refine o_callS X1 d5_7 (rest := []) (c_at l Z a0 hw [] n0 _ X1.size xa (0 : Int32) (f_bit xv (0 : Int32)) [(f_bit xv (0 : Int32)), (f_bit xv (1 : Int32)), (f_bit xv (2 : Int32)), (f_bit xv (3 : Int32)), (f_bit xv (4 : Int32))] L' H0 0 rfl (Or.inr rfl)) (hw _ (List.mem_of_getElem? (i := 12) rfl)) (hw _ (List.mem_of_getElem? (i := 13) rfl)) (hw _ (List.mem_of_getElem? (i := 3) rfl)) (hw _ (List.mem_of_getElem? (i := 14) rfl)) (by decide) 0 (by decide) (by decide) rfl [(.ref xa), (.int (0 : Int32)), (.int (f_bit xv (0 : Int32)))] rfl pd_4 rfl rfl (Nat.le_of_eq rfl) 0 0 rfl rfl (by decide) (by decide) 10 rfl ?_
  rintro _ T2 _ X2 ⟨rfl, rfl⟩
  show OE p e ({ frames := 1, cells := 0, slots := 0, locals := 15 } : Room) below s n0 Q' T2 (mkF m 10 #[.val (.ref xa), .val (.int xv)] [(.int (1 : Int32))])
  refine o_ifEq X2 d5_10 97 13 (by decide) (by decide) rfl (fun q => by exfalso; exact absurd q (by decide)) ?_
  intro hc10
  refine o_aloadN X2 d5_13 rfl rfl 14 rfl ?_
  refine o_iconst (v := (1 : Int32)) X2 d5_14 rfl 15 rfl ?_
  refine o_iloadN X2 d5_15 rfl 16 rfl ?_
  refine o_iconst (v := (1 : Int32)) X2 d5_16 rfl 17 rfl ?_
  refine o_callS X2 d5_17 (rest := [(.int (1 : Int32)), (.ref xa)]) (c_bit l Z a0 hw [] n0 _ X2.size xv (1 : Int32) ) (hw _ (List.mem_of_getElem? (i := 9) rfl)) (hw _ (List.mem_of_getElem? (i := 10) rfl)) (hw _ (List.mem_of_getElem? (i := 3) rfl)) (hw _ (List.mem_of_getElem? (i := 11) rfl)) (by decide) 2 (by decide) (by decide) rfl [(.int xv), (.int (1 : Int32))] rfl pd_3 rfl rfl (Nat.le_of_eq rfl) 0 0 rfl rfl (by decide) (by decide) 20 rfl ?_
  rintro _ T3 _ X3 ⟨rfl, rfl⟩
  show OE p e ({ frames := 1, cells := 0, slots := 0, locals := 15 } : Room) below s n0 Q' T3 (mkF m 20 #[.val (.ref xa), .val (.int xv)] [(.int (f_bit xv (1 : Int32))), (.int (1 : Int32)), (.ref xa)])
  refine o_callS X3 d5_20 (rest := []) (c_at l Z a0 hw [] n0 _ X3.size xa (1 : Int32) (f_bit xv (1 : Int32)) [(f_bit xv (0 : Int32)), (f_bit xv (1 : Int32)), (f_bit xv (2 : Int32)), (f_bit xv (3 : Int32)), (f_bit xv (4 : Int32))] L' H0 1 rfl (Or.inr rfl)) (hw _ (List.mem_of_getElem? (i := 12) rfl)) (hw _ (List.mem_of_getElem? (i := 13) rfl)) (hw _ (List.mem_of_getElem? (i := 3) rfl)) (hw _ (List.mem_of_getElem? (i := 14) rfl)) (by decide) 0 (by decide) (by decide) rfl [(.ref xa), (.int (1 : Int32)), (.int (f_bit xv (1 : Int32)))] rfl pd_4 rfl rfl (Nat.le_of_eq rfl) 0 0 rfl rfl (by decide) (by decide) 23 rfl ?_
  rintro _ T4 _ X4 ⟨rfl, rfl⟩
  show OE p e ({ frames := 1, cells := 0, slots := 0, locals := 15 } : Room) below s n0 Q' T4 (mkF m 23 #[.val (.ref xa), .val (.int xv)] [(.int (1 : Int32))])
  refine o_ifEq X4 d5_23 97 26 (by decide) (by decide) rfl (fun q => by exfalso; exact absurd q (by decide)) ?_
  intro hc23
  refine o_aloadN X4 d5_26 rfl rfl 27 rfl ?_
  refine o_iconst (v := (2 : Int32)) X4 d5_27 rfl 28 rfl ?_
  refine o_iloadN X4 d5_28 rfl 29 rfl ?_
  refine o_iconst (v := (2 : Int32)) X4 d5_29 rfl 30 rfl ?_
  refine o_callS X4 d5_30 (rest := [(.int (2 : Int32)), (.ref xa)]) (c_bit l Z a0 hw [] n0 _ X4.size xv (2 : Int32) ) (hw _ (List.mem_of_getElem? (i := 9) rfl)) (hw _ (List.mem_of_getElem? (i := 10) rfl)) (hw _ (List.mem_of_getElem? (i := 3) rfl)) (hw _ (List.mem_of_getElem? (i := 11) rfl)) (by decide) 2 (by decide) (by decide) rfl [(.int xv), (.int (2 : Int32))] rfl pd_3 rfl rfl (Nat.le_of_eq rfl) 0 0 rfl rfl (by decide) (by decide) 33 rfl ?_
  rintro _ T5 _ X5 ⟨rfl, rfl⟩
  show OE p e ({ frames := 1, cells := 0, slots := 0, locals := 15 } : Room) below s n0 Q' T5 (mkF m 33 #[.val (.ref xa), .val (.int xv)] [(.int (f_bit xv (2 : Int32))), (.int (2 : Int32)), (.ref xa)])
  refine o_callS X5 d5_33 (rest := []) (c_at l Z a0 hw [] n0 _ X5.size xa (2 : Int32) (f_bit xv (2 : Int32)) [(f_bit xv (0 : Int32)), (f_bit xv (1 : Int32)), (f_bit xv (2 : Int32)), (f_bit xv (3 : Int32)), (f_bit xv (4 : Int32))] L' H0 2 rfl (Or.inr rfl)) (hw _ (List.mem_of_getElem? (i := 12) rfl)) (hw _ (List.mem_of_getElem? (i := 13) rfl)) (hw _ (List.mem_of_getElem? (i := 3) rfl)) (hw _ (List.mem_of_getElem? (i := 14) rfl)) (by decide) 0 (by decide) (by decide) rfl [(.ref xa), (.int (2 : Int32)), (.int (f_bit xv (2 : Int32)))] rfl pd_4 rfl rfl (Nat.le_of_eq rfl) 0 0 rfl rfl (by decide) (by decide) 36 rfl ?_
  rintro _ T6 _ X6 ⟨rfl, rfl⟩
  show OE p e ({ frames := 1, cells := 0, slots := 0, locals := 15 } : Room) below s n0 Q' T6 (mkF m 36 #[.val (.ref xa), .val (.int xv)] [(.int (1 : Int32))])
  refine o_ifEq X6 d5_36 97 39 (by decide) (by decide) rfl (fun q => by exfalso; exact absurd q (by decide)) ?_
  intro hc36
  refine o_aloadN X6 d5_39 rfl rfl 40 rfl ?_
  refine o_iconst (v := (3 : Int32)) X6 d5_40 rfl 41 rfl ?_
  refine o_iloadN X6 d5_41 rfl 42 rfl ?_
  refine o_iconst (v := (3 : Int32)) X6 d5_42 rfl 43 rfl ?_
  refine o_callS X6 d5_43 (rest := [(.int (3 : Int32)), (.ref xa)]) (c_bit l Z a0 hw [] n0 _ X6.size xv (3 : Int32) ) (hw _ (List.mem_of_getElem? (i := 9) rfl)) (hw _ (List.mem_of_getElem? (i := 10) rfl)) (hw _ (List.mem_of_getElem? (i := 3) rfl)) (hw _ (List.mem_of_getElem? (i := 11) rfl)) (by decide) 2 (by decide) (by decide) rfl [(.int xv), (.int (3 : Int32))] rfl pd_3 rfl rfl (Nat.le_of_eq rfl) 0 0 rfl rfl (by decide) (by decide) 46 rfl ?_
  rintro _ T7 _ X7 ⟨rfl, rfl⟩
  show OE p e ({ frames := 1, cells := 0, slots := 0, locals := 15 } : Room) below s n0 Q' T7 (mkF m 46 #[.val (.ref xa), .val (.int xv)] [(.int (f_bit xv (3 : Int32))), (.int (3 : Int32)), (.ref xa)])
  refine o_callS X7 d5_46 (rest := []) (c_at l Z a0 hw [] n0 _ X7.size xa (3 : Int32) (f_bit xv (3 : Int32)) [(f_bit xv (0 : Int32)), (f_bit xv (1 : Int32)), (f_bit xv (2 : Int32)), (f_bit xv (3 : Int32)), (f_bit xv (4 : Int32))] L' H0 3 rfl (Or.inr rfl)) (hw _ (List.mem_of_getElem? (i := 12) rfl)) (hw _ (List.mem_of_getElem? (i := 13) rfl)) (hw _ (List.mem_of_getElem? (i := 3) rfl)) (hw _ (List.mem_of_getElem? (i := 14) rfl)) (by decide) 0 (by decide) (by decide) rfl [(.ref xa), (.int (3 : Int32)), (.int (f_bit xv (3 : Int32)))] rfl pd_4 rfl rfl (Nat.le_of_eq rfl) 0 0 rfl rfl (by decide) (by decide) 49 rfl ?_
  rintro _ T8 _ X8 ⟨rfl, rfl⟩
  show OE p e ({ frames := 1, cells := 0, slots := 0, locals := 15 } : Room) below s n0 Q' T8 (mkF m 49 #[.val (.ref xa), .val (.int xv)] [(.int (1 : Int32))])
  refine o_ifEq X8 d5_49 97 52 (by decide) (by decide) rfl (fun q => by exfalso; exact absurd q (by decide)) ?_
  intro hc49
  refine o_aloadN X8 d5_52 rfl rfl 53 rfl ?_
  refine o_iconst (v := (4 : Int32)) X8 d5_53 rfl 54 rfl ?_
  refine o_iloadN X8 d5_54 rfl 55 rfl ?_
  refine o_iconst (v := (4 : Int32)) X8 d5_55 rfl 56 rfl ?_
  refine o_callS X8 d5_56 (rest := [(.int (4 : Int32)), (.ref xa)]) (c_bit l Z a0 hw [] n0 _ X8.size xv (4 : Int32) ) (hw _ (List.mem_of_getElem? (i := 9) rfl)) (hw _ (List.mem_of_getElem? (i := 10) rfl)) (hw _ (List.mem_of_getElem? (i := 3) rfl)) (hw _ (List.mem_of_getElem? (i := 11) rfl)) (by decide) 2 (by decide) (by decide) rfl [(.int xv), (.int (4 : Int32))] rfl pd_3 rfl rfl (Nat.le_of_eq rfl) 0 0 rfl rfl (by decide) (by decide) 59 rfl ?_
  rintro _ T9 _ X9 ⟨rfl, rfl⟩
  show OE p e ({ frames := 1, cells := 0, slots := 0, locals := 15 } : Room) below s n0 Q' T9 (mkF m 59 #[.val (.ref xa), .val (.int xv)] [(.int (f_bit xv (4 : Int32))), (.int (4 : Int32)), (.ref xa)])
  refine o_callS X9 d5_59 (rest := []) (c_at l Z a0 hw [] n0 _ X9.size xa (4 : Int32) (f_bit xv (4 : Int32)) [(f_bit xv (0 : Int32)), (f_bit xv (1 : Int32)), (f_bit xv (2 : Int32)), (f_bit xv (3 : Int32)), (f_bit xv (4 : Int32))] L' H0 4 rfl (Or.inr rfl)) (hw _ (List.mem_of_getElem? (i := 12) rfl)) (hw _ (List.mem_of_getElem? (i := 13) rfl)) (hw _ (List.mem_of_getElem? (i := 3) rfl)) (hw _ (List.mem_of_getElem? (i := 14) rfl)) (by decide) 0 (by decide) (by decide) rfl [(.ref xa), (.int (4 : Int32)), (.int (f_bit xv (4 : Int32)))] rfl pd_4 rfl rfl (Nat.le_of_eq rfl) 0 0 rfl rfl (by decide) (by decide) 62 rfl ?_
  rintro _ T10 _ X10 ⟨rfl, rfl⟩
  show OE p e ({ frames := 1, cells := 0, slots := 0, locals := 15 } : Room) below s n0 Q' T10 (mkF m 62 #[.val (.ref xa), .val (.int xv)] [(.int (1 : Int32))])
  refine o_ifEq X10 d5_62 97 65 (by decide) (by decide) rfl (fun q => by exfalso; exact absurd q (by decide)) ?_
  intro hc62
  refine o_aloadN X10 d5_65 rfl rfl 66 rfl ?_
  refine o_iconst (v := (5 : Int32)) X10 d5_66 rfl 67 rfl ?_
  refine o_iloadN X10 d5_67 rfl 68 rfl ?_
  refine o_iconst (v := (5 : Int32)) X10 d5_68 rfl 69 rfl ?_
  refine o_callS X10 d5_69 (rest := [(.int (5 : Int32)), (.ref xa)]) (c_bit l Z a0 hw [] n0 _ X10.size xv (5 : Int32) ) (hw _ (List.mem_of_getElem? (i := 9) rfl)) (hw _ (List.mem_of_getElem? (i := 10) rfl)) (hw _ (List.mem_of_getElem? (i := 3) rfl)) (hw _ (List.mem_of_getElem? (i := 11) rfl)) (by decide) 2 (by decide) (by decide) rfl [(.int xv), (.int (5 : Int32))] rfl pd_3 rfl rfl (Nat.le_of_eq rfl) 0 0 rfl rfl (by decide) (by decide) 72 rfl ?_
  rintro _ T11 _ X11 ⟨rfl, rfl⟩
  show OE p e ({ frames := 1, cells := 0, slots := 0, locals := 15 } : Room) below s n0 Q' T11 (mkF m 72 #[.val (.ref xa), .val (.int xv)] [(.int (f_bit xv (5 : Int32))), (.int (5 : Int32)), (.ref xa)])
  refine o_callS X11 d5_72 (rest := []) (c_at l Z a0 hw [] n0 _ X11.size xa (5 : Int32) (f_bit xv (5 : Int32)) [(f_bit xv (0 : Int32)), (f_bit xv (1 : Int32)), (f_bit xv (2 : Int32)), (f_bit xv (3 : Int32)), (f_bit xv (4 : Int32))] L' H0 5 rfl (Or.inl (by show 5 ≤ 5; decide))) (hw _ (List.mem_of_getElem? (i := 12) rfl)) (hw _ (List.mem_of_getElem? (i := 13) rfl)) (hw _ (List.mem_of_getElem? (i := 3) rfl)) (hw _ (List.mem_of_getElem? (i := 14) rfl)) (by decide) 0 (by decide) (by decide) rfl [(.ref xa), (.int (5 : Int32)), (.int (f_bit xv (5 : Int32)))] rfl pd_4 rfl rfl (Nat.le_of_eq rfl) 0 0 rfl rfl (by decide) (by decide) 75 rfl ?_
  rintro _ T12 _ X12 ⟨rfl, rfl⟩
  show OE p e ({ frames := 1, cells := 0, slots := 0, locals := 15 } : Room) below s n0 Q' T12 (mkF m 75 #[.val (.ref xa), .val (.int xv)] [(.int (1 : Int32))])
  refine o_ifEq X12 d5_75 97 78 (by decide) (by decide) rfl (fun q => by exfalso; exact absurd q (by decide)) ?_
  intro hc75
  refine o_aloadN X12 d5_78 rfl rfl 79 rfl ?_
  refine o_bipush (v := (6 : Int32)) X12 d5_79 rfl 81 rfl ?_
  refine o_iloadN X12 d5_81 rfl 82 rfl ?_
  refine o_bipush (v := (6 : Int32)) X12 d5_82 rfl 84 rfl ?_
  refine o_callS X12 d5_84 (rest := [(.int (6 : Int32)), (.ref xa)]) (c_bit l Z a0 hw [] n0 _ X12.size xv (6 : Int32) ) (hw _ (List.mem_of_getElem? (i := 9) rfl)) (hw _ (List.mem_of_getElem? (i := 10) rfl)) (hw _ (List.mem_of_getElem? (i := 3) rfl)) (hw _ (List.mem_of_getElem? (i := 11) rfl)) (by decide) 2 (by decide) (by decide) rfl [(.int xv), (.int (6 : Int32))] rfl pd_3 rfl rfl (Nat.le_of_eq rfl) 0 0 rfl rfl (by decide) (by decide) 87 rfl ?_
  rintro _ T13 _ X13 ⟨rfl, rfl⟩
  show OE p e ({ frames := 1, cells := 0, slots := 0, locals := 15 } : Room) below s n0 Q' T13 (mkF m 87 #[.val (.ref xa), .val (.int xv)] [(.int (f_bit xv (6 : Int32))), (.int (6 : Int32)), (.ref xa)])
  refine o_callS X13 d5_87 (rest := []) (c_at l Z a0 hw [] n0 _ X13.size xa (6 : Int32) (f_bit xv (6 : Int32)) [(f_bit xv (0 : Int32)), (f_bit xv (1 : Int32)), (f_bit xv (2 : Int32)), (f_bit xv (3 : Int32)), (f_bit xv (4 : Int32))] L' H0 6 rfl (Or.inl (by show 5 ≤ 6; decide))) (hw _ (List.mem_of_getElem? (i := 12) rfl)) (hw _ (List.mem_of_getElem? (i := 13) rfl)) (hw _ (List.mem_of_getElem? (i := 3) rfl)) (hw _ (List.mem_of_getElem? (i := 14) rfl)) (by decide) 0 (by decide) (by decide) rfl [(.ref xa), (.int (6 : Int32)), (.int (f_bit xv (6 : Int32)))] rfl pd_4 rfl rfl (Nat.le_of_eq rfl) 0 0 rfl rfl (by decide) (by decide) 90 rfl ?_
  rintro _ T14 _ X14 ⟨rfl, rfl⟩
  show OE p e ({ frames := 1, cells := 0, slots := 0, locals := 15 } : Room) below s n0 Q' T14 (mkF m 90 #[.val (.ref xa), .val (.int xv)] [(.int (1 : Int32))])
  refine o_ifEq X14 d5_90 97 93 (by decide) (by decide) rfl (fun q => by exfalso; exact absurd q (by decide)) ?_
  intro hc90
  refine o_iconst (v := (1 : Int32)) X14 d5_93 rfl 94 rfl ?_
  refine o_goto X14 d5_94 98 (by decide) (by decide) ?_
  exact o_retZ X14 d5_98 (by decide) (by decide) (hQ _ _ ⟨rfl, rfl⟩)
set_option maxRecDepth 65536 in
set_option maxHeartbeats 40000000 in
theorem c_fill6 (l : Launch) (Z : State) (a0 : Array Value) (hw : ∀ d ∈ tables_1, d.before a0 Z = true) (ws : List Jvm.Cond) (n0 : Nat) (h0 : Heap) (hn0 : n0 ≤ h0.size) (xa : Addr) (xv : Int32) (L' : List (Addr × (Cell → Prop))) (H0 : OL n0 h0 ((xa, OA Z .boolean [(0 : Int32), (0 : Int32), (0 : Int32), (0 : Int32), (0 : Int32), (0 : Int32)]) :: L')) :
    OC l Z (⟨"com/example/eratosthenes/eratosthenes/tune/GeneticSearchCombPinLaw", "fill", "([ZI)V"⟩ : MethodName) method_4_code 2 none ws ({ frames := 1, cells := 0, slots := 0, locals := 15 } : Room) n0 #[(.ref xa), (.int xv)] h0 (fun r h => r = none ∧ OL n0 h ((xa, OA Z .boolean [(f_bit xv (0 : Int32)), (f_bit xv (1 : Int32)), (f_bit xv (2 : Int32)), (f_bit xv (3 : Int32)), (f_bit xv (4 : Int32)), (f_bit xv (5 : Int32))]) :: L')) := by
  refine OC.of pn_0 hn0 #[.val (.ref xa), .val (.int xv)] (fun m => by first | (simp [entryFrame, mkF, argsToLocals, Value.category, maxLocals]; done) | rfl) ?_
  intro p e s m below meth cd0 T0 X0 Q' hQ
  refine o_aloadN X0 d1_0 rfl rfl 1 rfl ?_
  refine o_arraylength X0 H0 0 rfl d1_1 (6 : Int32) rfl 2 rfl ?_
  refine o_ifLe X0 d1_2 13 5 (by decide) (by decide) rfl (fun q => by exfalso; exact absurd q (by decide)) ?_
  intro hc2
  refine o_aloadN X0 d1_5 rfl rfl 6 rfl ?_
  refine o_iconst (v := (0 : Int32)) X0 d1_6 rfl 7 rfl ?_
  refine o_iloadN X0 d1_7 rfl 8 rfl ?_
  refine o_iconst (v := (0 : Int32)) X0 d1_8 rfl 9 rfl ?_
  refine o_callS X0 d1_9 (rest := [(.int (0 : Int32)), (.ref xa)]) (c_bit l Z a0 hw [] n0 _ X0.size xv (0 : Int32) ) (hw _ (List.mem_of_getElem? (i := 9) rfl)) (hw _ (List.mem_of_getElem? (i := 10) rfl)) (hw _ (List.mem_of_getElem? (i := 3) rfl)) (hw _ (List.mem_of_getElem? (i := 11) rfl)) (by decide) 2 (by decide) (by decide) rfl [(.int xv), (.int (0 : Int32))] rfl pd_3 rfl rfl (Nat.le_of_eq rfl) 0 0 rfl rfl (by decide) (by decide) 12 rfl ?_
  rintro _ T1 _ X1 ⟨rfl, rfl⟩
  show OE p e ({ frames := 1, cells := 0, slots := 0, locals := 15 } : Room) below s n0 Q' T1 (mkF m 12 #[.val (.ref xa), .val (.int xv)] [(.int (f_bit xv (0 : Int32))), (.int (0 : Int32)), (.ref xa)])
  refine o_bastoreZ X1 H0 0 rfl d1_12 0 rfl (by show 0 < 6; decide) (f_bit xv (0 : Int32)) (v_nar _ _) 13 rfl ?_
  intro T2 h2 X2 H2
  replace H2 : OL n0 h2 ((xa, OA Z .boolean [(f_bit xv (0 : Int32)), (0 : Int32), (0 : Int32), (0 : Int32), (0 : Int32), (0 : Int32)]) :: L') := H2
  refine o_aloadN X2 d1_13 rfl rfl 14 rfl ?_
  refine o_arraylength X2 H2 0 rfl d1_14 (6 : Int32) rfl 15 rfl ?_
  refine o_iconst (v := (1 : Int32)) X2 d1_15 rfl 16 rfl ?_
  refine o_icmpLe X2 d1_16 27 19 (by decide) (by decide) rfl (fun q => by exfalso; exact absurd q (by decide)) ?_
  intro hc16
  refine o_aloadN X2 d1_19 rfl rfl 20 rfl ?_
  refine o_iconst (v := (1 : Int32)) X2 d1_20 rfl 21 rfl ?_
  refine o_iloadN X2 d1_21 rfl 22 rfl ?_
  refine o_iconst (v := (1 : Int32)) X2 d1_22 rfl 23 rfl ?_
  refine o_callS X2 d1_23 (rest := [(.int (1 : Int32)), (.ref xa)]) (c_bit l Z a0 hw [] n0 _ X2.size xv (1 : Int32) ) (hw _ (List.mem_of_getElem? (i := 9) rfl)) (hw _ (List.mem_of_getElem? (i := 10) rfl)) (hw _ (List.mem_of_getElem? (i := 3) rfl)) (hw _ (List.mem_of_getElem? (i := 11) rfl)) (by decide) 2 (by decide) (by decide) rfl [(.int xv), (.int (1 : Int32))] rfl pd_3 rfl rfl (Nat.le_of_eq rfl) 0 0 rfl rfl (by decide) (by decide) 26 rfl ?_
  rintro _ T3 _ X3 ⟨rfl, rfl⟩
  show OE p e ({ frames := 1, cells := 0, slots := 0, locals := 15 } : Room) below s n0 Q' T3 (mkF m 26 #[.val (.ref xa), .val (.int xv)] [(.int (f_bit xv (1 : Int32))), (.int (1 : Int32)), (.ref xa)])
  refine o_bastoreZ X3 H2 0 rfl d1_26 1 rfl (by show 1 < 6; decide) (f_bit xv (1 : Int32)) (v_nar _ _) 27 rfl ?_
  intro T4 h4 X4 H4
  replace H4 : OL n0 h4 ((xa, OA Z .boolean [(f_bit xv (0 : Int32)), (f_bit xv (1 : Int32)), (0 : Int32), (0 : Int32), (0 : Int32), (0 : Int32)]) :: L') := H4
  refine o_aloadN X4 d1_27 rfl rfl 28 rfl ?_
  refine o_arraylength X4 H4 0 rfl d1_28 (6 : Int32) rfl 29 rfl ?_
  refine o_iconst (v := (2 : Int32)) X4 d1_29 rfl 30 rfl ?_
  refine o_icmpLe X4 d1_30 41 33 (by decide) (by decide) rfl (fun q => by exfalso; exact absurd q (by decide)) ?_
  intro hc30
  refine o_aloadN X4 d1_33 rfl rfl 34 rfl ?_
  refine o_iconst (v := (2 : Int32)) X4 d1_34 rfl 35 rfl ?_
  refine o_iloadN X4 d1_35 rfl 36 rfl ?_
  refine o_iconst (v := (2 : Int32)) X4 d1_36 rfl 37 rfl ?_
  refine o_callS X4 d1_37 (rest := [(.int (2 : Int32)), (.ref xa)]) (c_bit l Z a0 hw [] n0 _ X4.size xv (2 : Int32) ) (hw _ (List.mem_of_getElem? (i := 9) rfl)) (hw _ (List.mem_of_getElem? (i := 10) rfl)) (hw _ (List.mem_of_getElem? (i := 3) rfl)) (hw _ (List.mem_of_getElem? (i := 11) rfl)) (by decide) 2 (by decide) (by decide) rfl [(.int xv), (.int (2 : Int32))] rfl pd_3 rfl rfl (Nat.le_of_eq rfl) 0 0 rfl rfl (by decide) (by decide) 40 rfl ?_
  rintro _ T5 _ X5 ⟨rfl, rfl⟩
  show OE p e ({ frames := 1, cells := 0, slots := 0, locals := 15 } : Room) below s n0 Q' T5 (mkF m 40 #[.val (.ref xa), .val (.int xv)] [(.int (f_bit xv (2 : Int32))), (.int (2 : Int32)), (.ref xa)])
  refine o_bastoreZ X5 H4 0 rfl d1_40 2 rfl (by show 2 < 6; decide) (f_bit xv (2 : Int32)) (v_nar _ _) 41 rfl ?_
  intro T6 h6 X6 H6
  replace H6 : OL n0 h6 ((xa, OA Z .boolean [(f_bit xv (0 : Int32)), (f_bit xv (1 : Int32)), (f_bit xv (2 : Int32)), (0 : Int32), (0 : Int32), (0 : Int32)]) :: L') := H6
  refine o_aloadN X6 d1_41 rfl rfl 42 rfl ?_
  refine o_arraylength X6 H6 0 rfl d1_42 (6 : Int32) rfl 43 rfl ?_
  refine o_iconst (v := (3 : Int32)) X6 d1_43 rfl 44 rfl ?_
  refine o_icmpLe X6 d1_44 55 47 (by decide) (by decide) rfl (fun q => by exfalso; exact absurd q (by decide)) ?_
  intro hc44
  refine o_aloadN X6 d1_47 rfl rfl 48 rfl ?_
  refine o_iconst (v := (3 : Int32)) X6 d1_48 rfl 49 rfl ?_
  refine o_iloadN X6 d1_49 rfl 50 rfl ?_
  refine o_iconst (v := (3 : Int32)) X6 d1_50 rfl 51 rfl ?_
  refine o_callS X6 d1_51 (rest := [(.int (3 : Int32)), (.ref xa)]) (c_bit l Z a0 hw [] n0 _ X6.size xv (3 : Int32) ) (hw _ (List.mem_of_getElem? (i := 9) rfl)) (hw _ (List.mem_of_getElem? (i := 10) rfl)) (hw _ (List.mem_of_getElem? (i := 3) rfl)) (hw _ (List.mem_of_getElem? (i := 11) rfl)) (by decide) 2 (by decide) (by decide) rfl [(.int xv), (.int (3 : Int32))] rfl pd_3 rfl rfl (Nat.le_of_eq rfl) 0 0 rfl rfl (by decide) (by decide) 54 rfl ?_
  rintro _ T7 _ X7 ⟨rfl, rfl⟩
  show OE p e ({ frames := 1, cells := 0, slots := 0, locals := 15 } : Room) below s n0 Q' T7 (mkF m 54 #[.val (.ref xa), .val (.int xv)] [(.int (f_bit xv (3 : Int32))), (.int (3 : Int32)), (.ref xa)])
  refine o_bastoreZ X7 H6 0 rfl d1_54 3 rfl (by show 3 < 6; decide) (f_bit xv (3 : Int32)) (v_nar _ _) 55 rfl ?_
  intro T8 h8 X8 H8
  replace H8 : OL n0 h8 ((xa, OA Z .boolean [(f_bit xv (0 : Int32)), (f_bit xv (1 : Int32)), (f_bit xv (2 : Int32)), (f_bit xv (3 : Int32)), (0 : Int32), (0 : Int32)]) :: L') := H8
  refine o_aloadN X8 d1_55 rfl rfl 56 rfl ?_
  refine o_arraylength X8 H8 0 rfl d1_56 (6 : Int32) rfl 57 rfl ?_
  refine o_iconst (v := (4 : Int32)) X8 d1_57 rfl 58 rfl ?_
  refine o_icmpLe X8 d1_58 69 61 (by decide) (by decide) rfl (fun q => by exfalso; exact absurd q (by decide)) ?_
  intro hc58
  refine o_aloadN X8 d1_61 rfl rfl 62 rfl ?_
  refine o_iconst (v := (4 : Int32)) X8 d1_62 rfl 63 rfl ?_
  refine o_iloadN X8 d1_63 rfl 64 rfl ?_
  refine o_iconst (v := (4 : Int32)) X8 d1_64 rfl 65 rfl ?_
  refine o_callS X8 d1_65 (rest := [(.int (4 : Int32)), (.ref xa)]) (c_bit l Z a0 hw [] n0 _ X8.size xv (4 : Int32) ) (hw _ (List.mem_of_getElem? (i := 9) rfl)) (hw _ (List.mem_of_getElem? (i := 10) rfl)) (hw _ (List.mem_of_getElem? (i := 3) rfl)) (hw _ (List.mem_of_getElem? (i := 11) rfl)) (by decide) 2 (by decide) (by decide) rfl [(.int xv), (.int (4 : Int32))] rfl pd_3 rfl rfl (Nat.le_of_eq rfl) 0 0 rfl rfl (by decide) (by decide) 68 rfl ?_
  rintro _ T9 _ X9 ⟨rfl, rfl⟩
  show OE p e ({ frames := 1, cells := 0, slots := 0, locals := 15 } : Room) below s n0 Q' T9 (mkF m 68 #[.val (.ref xa), .val (.int xv)] [(.int (f_bit xv (4 : Int32))), (.int (4 : Int32)), (.ref xa)])
  refine o_bastoreZ X9 H8 0 rfl d1_68 4 rfl (by show 4 < 6; decide) (f_bit xv (4 : Int32)) (v_nar _ _) 69 rfl ?_
  intro T10 h10 X10 H10
  replace H10 : OL n0 h10 ((xa, OA Z .boolean [(f_bit xv (0 : Int32)), (f_bit xv (1 : Int32)), (f_bit xv (2 : Int32)), (f_bit xv (3 : Int32)), (f_bit xv (4 : Int32)), (0 : Int32)]) :: L') := H10
  refine o_aloadN X10 d1_69 rfl rfl 70 rfl ?_
  refine o_arraylength X10 H10 0 rfl d1_70 (6 : Int32) rfl 71 rfl ?_
  refine o_iconst (v := (5 : Int32)) X10 d1_71 rfl 72 rfl ?_
  refine o_icmpLe X10 d1_72 83 75 (by decide) (by decide) rfl (fun q => by exfalso; exact absurd q (by decide)) ?_
  intro hc72
  refine o_aloadN X10 d1_75 rfl rfl 76 rfl ?_
  refine o_iconst (v := (5 : Int32)) X10 d1_76 rfl 77 rfl ?_
  refine o_iloadN X10 d1_77 rfl 78 rfl ?_
  refine o_iconst (v := (5 : Int32)) X10 d1_78 rfl 79 rfl ?_
  refine o_callS X10 d1_79 (rest := [(.int (5 : Int32)), (.ref xa)]) (c_bit l Z a0 hw [] n0 _ X10.size xv (5 : Int32) ) (hw _ (List.mem_of_getElem? (i := 9) rfl)) (hw _ (List.mem_of_getElem? (i := 10) rfl)) (hw _ (List.mem_of_getElem? (i := 3) rfl)) (hw _ (List.mem_of_getElem? (i := 11) rfl)) (by decide) 2 (by decide) (by decide) rfl [(.int xv), (.int (5 : Int32))] rfl pd_3 rfl rfl (Nat.le_of_eq rfl) 0 0 rfl rfl (by decide) (by decide) 82 rfl ?_
  rintro _ T11 _ X11 ⟨rfl, rfl⟩
  show OE p e ({ frames := 1, cells := 0, slots := 0, locals := 15 } : Room) below s n0 Q' T11 (mkF m 82 #[.val (.ref xa), .val (.int xv)] [(.int (f_bit xv (5 : Int32))), (.int (5 : Int32)), (.ref xa)])
  refine o_bastoreZ X11 H10 0 rfl d1_82 5 rfl (by show 5 < 6; decide) (f_bit xv (5 : Int32)) (v_nar _ _) 83 rfl ?_
  intro T12 h12 X12 H12
  replace H12 : OL n0 h12 ((xa, OA Z .boolean [(f_bit xv (0 : Int32)), (f_bit xv (1 : Int32)), (f_bit xv (2 : Int32)), (f_bit xv (3 : Int32)), (f_bit xv (4 : Int32)), (f_bit xv (5 : Int32))]) :: L') := H12
  refine o_aloadN X12 d1_83 rfl rfl 84 rfl ?_
  refine o_arraylength X12 H12 0 rfl d1_84 (6 : Int32) rfl 85 rfl ?_
  refine o_bipush (v := (6 : Int32)) X12 d1_85 rfl 87 rfl ?_
  refine o_icmpLe X12 d1_87 100 90 (by decide) (by decide) rfl ?_ (fun q => by exfalso; exact absurd q (by decide))
  intro hc87
  exact o_ret X12 d1_100 (by decide) (by decide) (hQ _ _ ⟨rfl, H12⟩)
set_option maxRecDepth 65536 in
set_option maxHeartbeats 40000000 in
theorem c_comb6 (l : Launch) (Z : State) (a0 : Array Value) (hw : ∀ d ∈ tables_1, d.before a0 Z = true) (ws : List Jvm.Cond) (n0 : Nat) (h0 : Heap) (hn0 : n0 ≤ h0.size) (xa xb : Addr) (xx xy : Int32) (L' : List (Addr × (Cell → Prop))) (H0 : OL n0 h0 ((xa, OA Z .boolean [(f_bit xx (0 : Int32)), (f_bit xx (1 : Int32)), (f_bit xx (2 : Int32)), (f_bit xx (3 : Int32)), (f_bit xx (4 : Int32)), (f_bit xx (5 : Int32))]) :: (xb, OA Z .boolean [(f_bit xy (0 : Int32)), (f_bit xy (1 : Int32)), (f_bit xy (2 : Int32)), (f_bit xy (3 : Int32)), (f_bit xy (4 : Int32)), (f_bit xy (5 : Int32))]) :: L')) :
    OC l Z (⟨"com/example/eratosthenes/eratosthenes/tune/GeneticSearch", "comb", "([Z[Z)[Z"⟩ : MethodName) prog_27_method_3_code 4 (some (.array .boolean)) ws ({ frames := 0, cells := 1, slots := 6, locals := 0 } : Room) n0 #[(.ref xa), (.ref xb)] h0 (fun r h => ∃ a, r = some (.ref a) ∧ OL n0 h ((a, OA Z .boolean [(f_bit xx (0 : Int32)), (f_bit xy (1 : Int32)), (f_bit xx (2 : Int32)), (f_bit xy (3 : Int32)), (f_bit xx (4 : Int32)), (f_bit xy (5 : Int32))]) :: (xa, OA Z .boolean [(f_bit xx (0 : Int32)), (f_bit xx (1 : Int32)), (f_bit xx (2 : Int32)), (f_bit xx (3 : Int32)), (f_bit xx (4 : Int32)), (f_bit xx (5 : Int32))]) :: (xb, OA Z .boolean [(f_bit xy (0 : Int32)), (f_bit xy (1 : Int32)), (f_bit xy (2 : Int32)), (f_bit xy (3 : Int32)), (f_bit xy (4 : Int32)), (f_bit xy (5 : Int32))]) :: L')) := by
  refine OC.of pn_1 hn0 #[.val (.ref xa), .val (.ref xb), .unset, .unset] (fun m => by first | (simp [entryFrame, mkF, argsToLocals, Value.category, maxLocals]; done) | rfl) ?_
  intro p e s m below meth cd0 T0 X0 Q' hQ
  refine o_aloadN X0 d2_0 rfl rfl 1 rfl ?_
  refine o_arraylength X0 H0 0 rfl d2_1 (6 : Int32) rfl 2 rfl ?_
  refine o_newarray (L := ((xa, OA Z .boolean [(f_bit xx (0 : Int32)), (f_bit xx (1 : Int32)), (f_bit xx (2 : Int32)), (f_bit xx (3 : Int32)), (f_bit xx (4 : Int32)), (f_bit xx (5 : Int32))]) :: (xb, OA Z .boolean [(f_bit xy (0 : Int32)), (f_bit xy (1 : Int32)), (f_bit xy (2 : Int32)), (f_bit xy (3 : Int32)), (f_bit xy (4 : Int32)), (f_bit xy (5 : Int32))]) :: L')) X0 H0 d2_2 (hw _ (List.mem_of_getElem? (i := 0) rfl)) rfl rfl 6 6 rfl (by decide) (by decide) 1 6 rfl rfl (by decide) (by decide) 4 rfl ?_
  intro T1 h1 b1 X1 H1
  replace H1 : OL n0 h1 ((b1, OA Z .boolean [(0 : Int32), (0 : Int32), (0 : Int32), (0 : Int32), (0 : Int32), (0 : Int32)]) :: (xa, OA Z .boolean [(f_bit xx (0 : Int32)), (f_bit xx (1 : Int32)), (f_bit xx (2 : Int32)), (f_bit xx (3 : Int32)), (f_bit xx (4 : Int32)), (f_bit xx (5 : Int32))]) :: (xb, OA Z .boolean [(f_bit xy (0 : Int32)), (f_bit xy (1 : Int32)), (f_bit xy (2 : Int32)), (f_bit xy (3 : Int32)), (f_bit xy (4 : Int32)), (f_bit xy (5 : Int32))]) :: L') := H1
  refine o_astoreN X1 d2_4 rfl #[.val (.ref xa), .val (.ref xb), .val (.ref b1), .unset] rfl 5 rfl ?_
  refine o_iconst (v := (0 : Int32)) X1 d2_5 rfl 6 rfl ?_
  refine o_istoreN X1 d2_6 #[.val (.ref xa), .val (.ref xb), .val (.ref b1), .val (.int (0 : Int32))] rfl 7 rfl ?_
  refine o_iloadN X1 d2_7 rfl 8 rfl ?_
  refine o_aloadN X1 d2_8 rfl rfl 9 rfl ?_
  refine o_arraylength X1 H1 0 rfl d2_9 (6 : Int32) rfl 10 rfl ?_
  refine o_icmpGe X1 d2_10 37 13 (by decide) (by decide) rfl (fun q => by exfalso; exact absurd q (by decide)) ?_
  intro hc10
  refine o_aloadN X1 d2_13 rfl rfl 14 rfl ?_
  refine o_iloadN X1 d2_14 rfl 15 rfl ?_
  refine o_iloadN X1 d2_15 rfl 16 rfl ?_
  refine o_iconst (v := (2 : Int32)) X1 d2_16 rfl 17 rfl ?_
  refine o_irem X1 d2_17 (by decide) 18 rfl ?_
  refine o_ifNe X1 d2_18 27 21 (by decide) (by decide) rfl (fun q => by exfalso; exact absurd q (by decide)) ?_
  intro hc18
  refine o_aloadN X1 d2_21 rfl rfl 22 rfl ?_
  refine o_iloadN X1 d2_22 rfl 23 rfl ?_
  refine o_baloadZ X1 H1 1 rfl d2_23 0 rfl (f_bit xx (0 : Int32)) rfl 24 rfl ?_
  refine o_goto X1 d2_24 30 (by decide) (by decide) ?_
  refine o_bastoreZ X1 H1 0 rfl d2_30 0 rfl (by show 0 < 6; decide) (f_bit xx (0 : Int32)) (v_nar _ _) 31 rfl ?_
  intro T2 h2 X2 H2
  replace H2 : OL n0 h2 ((b1, OA Z .boolean [(f_bit xx (0 : Int32)), (0 : Int32), (0 : Int32), (0 : Int32), (0 : Int32), (0 : Int32)]) :: (xa, OA Z .boolean [(f_bit xx (0 : Int32)), (f_bit xx (1 : Int32)), (f_bit xx (2 : Int32)), (f_bit xx (3 : Int32)), (f_bit xx (4 : Int32)), (f_bit xx (5 : Int32))]) :: (xb, OA Z .boolean [(f_bit xy (0 : Int32)), (f_bit xy (1 : Int32)), (f_bit xy (2 : Int32)), (f_bit xy (3 : Int32)), (f_bit xy (4 : Int32)), (f_bit xy (5 : Int32))]) :: L') := H2
  refine o_iinc (v := (0 : Int32)) (w := (1 : Int32)) X2 d2_31 rfl rfl #[.val (.ref xa), .val (.ref xb), .val (.ref b1), .val (.int (1 : Int32))] rfl 34 rfl ?_
  refine o_goto X2 d2_34 7 (by decide) (by decide) ?_
  refine o_iloadN X2 d2_7 rfl 8 rfl ?_
  refine o_aloadN X2 d2_8 rfl rfl 9 rfl ?_
  refine o_arraylength X2 H2 0 rfl d2_9 (6 : Int32) rfl 10 rfl ?_
  refine o_icmpGe X2 d2_10 37 13 (by decide) (by decide) rfl (fun q => by exfalso; exact absurd q (by decide)) ?_
  intro hc10_1
  refine o_aloadN X2 d2_13 rfl rfl 14 rfl ?_
  refine o_iloadN X2 d2_14 rfl 15 rfl ?_
  refine o_iloadN X2 d2_15 rfl 16 rfl ?_
  refine o_iconst (v := (2 : Int32)) X2 d2_16 rfl 17 rfl ?_
  refine o_irem X2 d2_17 (by decide) 18 rfl ?_
  refine o_ifNe X2 d2_18 27 21 (by decide) (by decide) rfl ?_ (fun q => by exfalso; exact absurd q (by decide))
  intro hc18_1
  refine o_aloadN X2 d2_27 rfl rfl 28 rfl ?_
  refine o_iloadN X2 d2_28 rfl 29 rfl ?_
  refine o_baloadZ X2 H2 2 rfl d2_29 1 rfl (f_bit xy (1 : Int32)) rfl 30 rfl ?_
  refine o_bastoreZ X2 H2 0 rfl d2_30 1 rfl (by show 1 < 6; decide) (f_bit xy (1 : Int32)) (v_nar _ _) 31 rfl ?_
  intro T3 h3 X3 H3
  replace H3 : OL n0 h3 ((b1, OA Z .boolean [(f_bit xx (0 : Int32)), (f_bit xy (1 : Int32)), (0 : Int32), (0 : Int32), (0 : Int32), (0 : Int32)]) :: (xa, OA Z .boolean [(f_bit xx (0 : Int32)), (f_bit xx (1 : Int32)), (f_bit xx (2 : Int32)), (f_bit xx (3 : Int32)), (f_bit xx (4 : Int32)), (f_bit xx (5 : Int32))]) :: (xb, OA Z .boolean [(f_bit xy (0 : Int32)), (f_bit xy (1 : Int32)), (f_bit xy (2 : Int32)), (f_bit xy (3 : Int32)), (f_bit xy (4 : Int32)), (f_bit xy (5 : Int32))]) :: L') := H3
  refine o_iinc (v := (1 : Int32)) (w := (2 : Int32)) X3 d2_31 rfl rfl #[.val (.ref xa), .val (.ref xb), .val (.ref b1), .val (.int (2 : Int32))] rfl 34 rfl ?_
  refine o_goto X3 d2_34 7 (by decide) (by decide) ?_
  refine o_iloadN X3 d2_7 rfl 8 rfl ?_
  refine o_aloadN X3 d2_8 rfl rfl 9 rfl ?_
  refine o_arraylength X3 H3 0 rfl d2_9 (6 : Int32) rfl 10 rfl ?_
  refine o_icmpGe X3 d2_10 37 13 (by decide) (by decide) rfl (fun q => by exfalso; exact absurd q (by decide)) ?_
  intro hc10_2
  refine o_aloadN X3 d2_13 rfl rfl 14 rfl ?_
  refine o_iloadN X3 d2_14 rfl 15 rfl ?_
  refine o_iloadN X3 d2_15 rfl 16 rfl ?_
  refine o_iconst (v := (2 : Int32)) X3 d2_16 rfl 17 rfl ?_
  refine o_irem X3 d2_17 (by decide) 18 rfl ?_
  refine o_ifNe X3 d2_18 27 21 (by decide) (by decide) rfl (fun q => by exfalso; exact absurd q (by decide)) ?_
  intro hc18_2
  refine o_aloadN X3 d2_21 rfl rfl 22 rfl ?_
  refine o_iloadN X3 d2_22 rfl 23 rfl ?_
  refine o_baloadZ X3 H3 1 rfl d2_23 2 rfl (f_bit xx (2 : Int32)) rfl 24 rfl ?_
  refine o_goto X3 d2_24 30 (by decide) (by decide) ?_
  refine o_bastoreZ X3 H3 0 rfl d2_30 2 rfl (by show 2 < 6; decide) (f_bit xx (2 : Int32)) (v_nar _ _) 31 rfl ?_
  intro T4 h4 X4 H4
  replace H4 : OL n0 h4 ((b1, OA Z .boolean [(f_bit xx (0 : Int32)), (f_bit xy (1 : Int32)), (f_bit xx (2 : Int32)), (0 : Int32), (0 : Int32), (0 : Int32)]) :: (xa, OA Z .boolean [(f_bit xx (0 : Int32)), (f_bit xx (1 : Int32)), (f_bit xx (2 : Int32)), (f_bit xx (3 : Int32)), (f_bit xx (4 : Int32)), (f_bit xx (5 : Int32))]) :: (xb, OA Z .boolean [(f_bit xy (0 : Int32)), (f_bit xy (1 : Int32)), (f_bit xy (2 : Int32)), (f_bit xy (3 : Int32)), (f_bit xy (4 : Int32)), (f_bit xy (5 : Int32))]) :: L') := H4
  refine o_iinc (v := (2 : Int32)) (w := (3 : Int32)) X4 d2_31 rfl rfl #[.val (.ref xa), .val (.ref xb), .val (.ref b1), .val (.int (3 : Int32))] rfl 34 rfl ?_
  refine o_goto X4 d2_34 7 (by decide) (by decide) ?_
  refine o_iloadN X4 d2_7 rfl 8 rfl ?_
  refine o_aloadN X4 d2_8 rfl rfl 9 rfl ?_
  refine o_arraylength X4 H4 0 rfl d2_9 (6 : Int32) rfl 10 rfl ?_
  refine o_icmpGe X4 d2_10 37 13 (by decide) (by decide) rfl (fun q => by exfalso; exact absurd q (by decide)) ?_
  intro hc10_3
  refine o_aloadN X4 d2_13 rfl rfl 14 rfl ?_
  refine o_iloadN X4 d2_14 rfl 15 rfl ?_
  refine o_iloadN X4 d2_15 rfl 16 rfl ?_
  refine o_iconst (v := (2 : Int32)) X4 d2_16 rfl 17 rfl ?_
  refine o_irem X4 d2_17 (by decide) 18 rfl ?_
  refine o_ifNe X4 d2_18 27 21 (by decide) (by decide) rfl ?_ (fun q => by exfalso; exact absurd q (by decide))
  intro hc18_3
  refine o_aloadN X4 d2_27 rfl rfl 28 rfl ?_
  refine o_iloadN X4 d2_28 rfl 29 rfl ?_
  refine o_baloadZ X4 H4 2 rfl d2_29 3 rfl (f_bit xy (3 : Int32)) rfl 30 rfl ?_
  refine o_bastoreZ X4 H4 0 rfl d2_30 3 rfl (by show 3 < 6; decide) (f_bit xy (3 : Int32)) (v_nar _ _) 31 rfl ?_
  intro T5 h5 X5 H5
  replace H5 : OL n0 h5 ((b1, OA Z .boolean [(f_bit xx (0 : Int32)), (f_bit xy (1 : Int32)), (f_bit xx (2 : Int32)), (f_bit xy (3 : Int32)), (0 : Int32), (0 : Int32)]) :: (xa, OA Z .boolean [(f_bit xx (0 : Int32)), (f_bit xx (1 : Int32)), (f_bit xx (2 : Int32)), (f_bit xx (3 : Int32)), (f_bit xx (4 : Int32)), (f_bit xx (5 : Int32))]) :: (xb, OA Z .boolean [(f_bit xy (0 : Int32)), (f_bit xy (1 : Int32)), (f_bit xy (2 : Int32)), (f_bit xy (3 : Int32)), (f_bit xy (4 : Int32)), (f_bit xy (5 : Int32))]) :: L') := H5
  refine o_iinc (v := (3 : Int32)) (w := (4 : Int32)) X5 d2_31 rfl rfl #[.val (.ref xa), .val (.ref xb), .val (.ref b1), .val (.int (4 : Int32))] rfl 34 rfl ?_
  refine o_goto X5 d2_34 7 (by decide) (by decide) ?_
  refine o_iloadN X5 d2_7 rfl 8 rfl ?_
  refine o_aloadN X5 d2_8 rfl rfl 9 rfl ?_
  refine o_arraylength X5 H5 0 rfl d2_9 (6 : Int32) rfl 10 rfl ?_
  refine o_icmpGe X5 d2_10 37 13 (by decide) (by decide) rfl (fun q => by exfalso; exact absurd q (by decide)) ?_
  intro hc10_4
  refine o_aloadN X5 d2_13 rfl rfl 14 rfl ?_
  refine o_iloadN X5 d2_14 rfl 15 rfl ?_
  refine o_iloadN X5 d2_15 rfl 16 rfl ?_
  refine o_iconst (v := (2 : Int32)) X5 d2_16 rfl 17 rfl ?_
  refine o_irem X5 d2_17 (by decide) 18 rfl ?_
  refine o_ifNe X5 d2_18 27 21 (by decide) (by decide) rfl (fun q => by exfalso; exact absurd q (by decide)) ?_
  intro hc18_4
  refine o_aloadN X5 d2_21 rfl rfl 22 rfl ?_
  refine o_iloadN X5 d2_22 rfl 23 rfl ?_
  refine o_baloadZ X5 H5 1 rfl d2_23 4 rfl (f_bit xx (4 : Int32)) rfl 24 rfl ?_
  refine o_goto X5 d2_24 30 (by decide) (by decide) ?_
  refine o_bastoreZ X5 H5 0 rfl d2_30 4 rfl (by show 4 < 6; decide) (f_bit xx (4 : Int32)) (v_nar _ _) 31 rfl ?_
  intro T6 h6 X6 H6
  replace H6 : OL n0 h6 ((b1, OA Z .boolean [(f_bit xx (0 : Int32)), (f_bit xy (1 : Int32)), (f_bit xx (2 : Int32)), (f_bit xy (3 : Int32)), (f_bit xx (4 : Int32)), (0 : Int32)]) :: (xa, OA Z .boolean [(f_bit xx (0 : Int32)), (f_bit xx (1 : Int32)), (f_bit xx (2 : Int32)), (f_bit xx (3 : Int32)), (f_bit xx (4 : Int32)), (f_bit xx (5 : Int32))]) :: (xb, OA Z .boolean [(f_bit xy (0 : Int32)), (f_bit xy (1 : Int32)), (f_bit xy (2 : Int32)), (f_bit xy (3 : Int32)), (f_bit xy (4 : Int32)), (f_bit xy (5 : Int32))]) :: L') := H6
  refine o_iinc (v := (4 : Int32)) (w := (5 : Int32)) X6 d2_31 rfl rfl #[.val (.ref xa), .val (.ref xb), .val (.ref b1), .val (.int (5 : Int32))] rfl 34 rfl ?_
  refine o_goto X6 d2_34 7 (by decide) (by decide) ?_
  refine o_iloadN X6 d2_7 rfl 8 rfl ?_
  refine o_aloadN X6 d2_8 rfl rfl 9 rfl ?_
  refine o_arraylength X6 H6 0 rfl d2_9 (6 : Int32) rfl 10 rfl ?_
  refine o_icmpGe X6 d2_10 37 13 (by decide) (by decide) rfl (fun q => by exfalso; exact absurd q (by decide)) ?_
  intro hc10_5
  refine o_aloadN X6 d2_13 rfl rfl 14 rfl ?_
  refine o_iloadN X6 d2_14 rfl 15 rfl ?_
  refine o_iloadN X6 d2_15 rfl 16 rfl ?_
  refine o_iconst (v := (2 : Int32)) X6 d2_16 rfl 17 rfl ?_
  refine o_irem X6 d2_17 (by decide) 18 rfl ?_
  refine o_ifNe X6 d2_18 27 21 (by decide) (by decide) rfl ?_ (fun q => by exfalso; exact absurd q (by decide))
  intro hc18_5
  refine o_aloadN X6 d2_27 rfl rfl 28 rfl ?_
  refine o_iloadN X6 d2_28 rfl 29 rfl ?_
  refine o_baloadZ X6 H6 2 rfl d2_29 5 rfl (f_bit xy (5 : Int32)) rfl 30 rfl ?_
  refine o_bastoreZ X6 H6 0 rfl d2_30 5 rfl (by show 5 < 6; decide) (f_bit xy (5 : Int32)) (v_nar _ _) 31 rfl ?_
  intro T7 h7 X7 H7
  replace H7 : OL n0 h7 ((b1, OA Z .boolean [(f_bit xx (0 : Int32)), (f_bit xy (1 : Int32)), (f_bit xx (2 : Int32)), (f_bit xy (3 : Int32)), (f_bit xx (4 : Int32)), (f_bit xy (5 : Int32))]) :: (xa, OA Z .boolean [(f_bit xx (0 : Int32)), (f_bit xx (1 : Int32)), (f_bit xx (2 : Int32)), (f_bit xx (3 : Int32)), (f_bit xx (4 : Int32)), (f_bit xx (5 : Int32))]) :: (xb, OA Z .boolean [(f_bit xy (0 : Int32)), (f_bit xy (1 : Int32)), (f_bit xy (2 : Int32)), (f_bit xy (3 : Int32)), (f_bit xy (4 : Int32)), (f_bit xy (5 : Int32))]) :: L') := H7
  refine o_iinc (v := (5 : Int32)) (w := (6 : Int32)) X7 d2_31 rfl rfl #[.val (.ref xa), .val (.ref xb), .val (.ref b1), .val (.int (6 : Int32))] rfl 34 rfl ?_
  refine o_goto X7 d2_34 7 (by decide) (by decide) ?_
  refine o_iloadN X7 d2_7 rfl 8 rfl ?_
  refine o_aloadN X7 d2_8 rfl rfl 9 rfl ?_
  refine o_arraylength X7 H7 0 rfl d2_9 (6 : Int32) rfl 10 rfl ?_
  refine o_icmpGe X7 d2_10 37 13 (by decide) (by decide) rfl ?_ (fun q => by exfalso; exact absurd q (by decide))
  intro hc10_6
  refine o_aloadN X7 d2_37 rfl rfl 38 rfl ?_
  exact o_retA X7 rfl rfl d2_38 (by decide) (by decide) (hQ _ _ ⟨_, rfl, H7⟩)
set_option maxRecDepth 65536 in
set_option maxHeartbeats 40000000 in
theorem c_same6 (l : Launch) (Z : State) (a0 : Array Value) (hw : ∀ d ∈ tables_1, d.before a0 Z = true) (ws : List Jvm.Cond) (n0 : Nat) (h0 : Heap) (hn0 : n0 ≤ h0.size) (xa : Addr) (xv : Int32) (L' : List (Addr × (Cell → Prop))) (H0 : OL n0 h0 ((xa, OA Z .boolean [(f_bit xv (0 : Int32)), (f_bit xv (1 : Int32)), (f_bit xv (2 : Int32)), (f_bit xv (3 : Int32)), (f_bit xv (4 : Int32)), (f_bit xv (5 : Int32))]) :: L')) :
    OC l Z (⟨"com/example/eratosthenes/eratosthenes/tune/GeneticSearchCombPinLaw", "same", "([ZI)Z"⟩ : MethodName) method_5_code 2 (some .boolean) ws ({ frames := 1, cells := 0, slots := 0, locals := 15 } : Room) n0 #[(.ref xa), (.int xv)] h0 (fun r h => r = some (.int 1) ∧ h0 = h) := by
  refine OC.of pn_0 hn0 #[.val (.ref xa), .val (.int xv)] (fun m => by first | (simp [entryFrame, mkF, argsToLocals, Value.category, maxLocals]; done) | rfl) ?_
  intro p e s m below meth cd0 T0 X0 Q' hQ
  refine o_aloadN X0 d5_0 rfl rfl 1 rfl ?_
  refine o_iconst (v := (0 : Int32)) X0 d5_1 rfl 2 rfl ?_
  refine o_iloadN X0 d5_2 rfl 3 rfl ?_
  refine o_iconst (v := (0 : Int32)) X0 d5_3 rfl 4 rfl ?_
  refine o_callS X0 d5_4 (rest := [(.int (0 : Int32)), (.ref xa)]) (c_bit l Z a0 hw [] n0 _ X0.size xv (0 : Int32) ) (hw _ (List.mem_of_getElem? (i := 9) rfl)) (hw _ (List.mem_of_getElem? (i := 10) rfl)) (hw _ (List.mem_of_getElem? (i := 3) rfl)) (hw _ (List.mem_of_getElem? (i := 11) rfl)) (by decide) 2 (by decide) (by decide) rfl [(.int xv), (.int (0 : Int32))] rfl pd_3 rfl rfl (Nat.le_of_eq rfl) 0 0 rfl rfl (by decide) (by decide) 7 rfl ?_
  rintro _ T1 _ X1 ⟨rfl, rfl⟩
  show OE p e ({ frames := 1, cells := 0, slots := 0, locals := 15 } : Room) below s n0 Q' T1 (mkF m 7 #[.val (.ref xa), .val (.int xv)] [(.int (f_bit xv (0 : Int32))), (.int (0 : Int32)), (.ref xa)])
  refine o_callS X1 d5_7 (rest := []) (c_at l Z a0 hw [] n0 _ X1.size xa (0 : Int32) (f_bit xv (0 : Int32)) [(f_bit xv (0 : Int32)), (f_bit xv (1 : Int32)), (f_bit xv (2 : Int32)), (f_bit xv (3 : Int32)), (f_bit xv (4 : Int32)), (f_bit xv (5 : Int32))] L' H0 0 rfl (Or.inr rfl)) (hw _ (List.mem_of_getElem? (i := 12) rfl)) (hw _ (List.mem_of_getElem? (i := 13) rfl)) (hw _ (List.mem_of_getElem? (i := 3) rfl)) (hw _ (List.mem_of_getElem? (i := 14) rfl)) (by decide) 0 (by decide) (by decide) rfl [(.ref xa), (.int (0 : Int32)), (.int (f_bit xv (0 : Int32)))] rfl pd_4 rfl rfl (Nat.le_of_eq rfl) 0 0 rfl rfl (by decide) (by decide) 10 rfl ?_
  rintro _ T2 _ X2 ⟨rfl, rfl⟩
  show OE p e ({ frames := 1, cells := 0, slots := 0, locals := 15 } : Room) below s n0 Q' T2 (mkF m 10 #[.val (.ref xa), .val (.int xv)] [(.int (1 : Int32))])
  refine o_ifEq X2 d5_10 97 13 (by decide) (by decide) rfl (fun q => by exfalso; exact absurd q (by decide)) ?_
  intro hc10
  refine o_aloadN X2 d5_13 rfl rfl 14 rfl ?_
  refine o_iconst (v := (1 : Int32)) X2 d5_14 rfl 15 rfl ?_
  refine o_iloadN X2 d5_15 rfl 16 rfl ?_
  refine o_iconst (v := (1 : Int32)) X2 d5_16 rfl 17 rfl ?_
  refine o_callS X2 d5_17 (rest := [(.int (1 : Int32)), (.ref xa)]) (c_bit l Z a0 hw [] n0 _ X2.size xv (1 : Int32) ) (hw _ (List.mem_of_getElem? (i := 9) rfl)) (hw _ (List.mem_of_getElem? (i := 10) rfl)) (hw _ (List.mem_of_getElem? (i := 3) rfl)) (hw _ (List.mem_of_getElem? (i := 11) rfl)) (by decide) 2 (by decide) (by decide) rfl [(.int xv), (.int (1 : Int32))] rfl pd_3 rfl rfl (Nat.le_of_eq rfl) 0 0 rfl rfl (by decide) (by decide) 20 rfl ?_
  rintro _ T3 _ X3 ⟨rfl, rfl⟩
  show OE p e ({ frames := 1, cells := 0, slots := 0, locals := 15 } : Room) below s n0 Q' T3 (mkF m 20 #[.val (.ref xa), .val (.int xv)] [(.int (f_bit xv (1 : Int32))), (.int (1 : Int32)), (.ref xa)])
  refine o_callS X3 d5_20 (rest := []) (c_at l Z a0 hw [] n0 _ X3.size xa (1 : Int32) (f_bit xv (1 : Int32)) [(f_bit xv (0 : Int32)), (f_bit xv (1 : Int32)), (f_bit xv (2 : Int32)), (f_bit xv (3 : Int32)), (f_bit xv (4 : Int32)), (f_bit xv (5 : Int32))] L' H0 1 rfl (Or.inr rfl)) (hw _ (List.mem_of_getElem? (i := 12) rfl)) (hw _ (List.mem_of_getElem? (i := 13) rfl)) (hw _ (List.mem_of_getElem? (i := 3) rfl)) (hw _ (List.mem_of_getElem? (i := 14) rfl)) (by decide) 0 (by decide) (by decide) rfl [(.ref xa), (.int (1 : Int32)), (.int (f_bit xv (1 : Int32)))] rfl pd_4 rfl rfl (Nat.le_of_eq rfl) 0 0 rfl rfl (by decide) (by decide) 23 rfl ?_
  rintro _ T4 _ X4 ⟨rfl, rfl⟩
  show OE p e ({ frames := 1, cells := 0, slots := 0, locals := 15 } : Room) below s n0 Q' T4 (mkF m 23 #[.val (.ref xa), .val (.int xv)] [(.int (1 : Int32))])
  refine o_ifEq X4 d5_23 97 26 (by decide) (by decide) rfl (fun q => by exfalso; exact absurd q (by decide)) ?_
  intro hc23
  refine o_aloadN X4 d5_26 rfl rfl 27 rfl ?_
  refine o_iconst (v := (2 : Int32)) X4 d5_27 rfl 28 rfl ?_
  refine o_iloadN X4 d5_28 rfl 29 rfl ?_
  refine o_iconst (v := (2 : Int32)) X4 d5_29 rfl 30 rfl ?_
  refine o_callS X4 d5_30 (rest := [(.int (2 : Int32)), (.ref xa)]) (c_bit l Z a0 hw [] n0 _ X4.size xv (2 : Int32) ) (hw _ (List.mem_of_getElem? (i := 9) rfl)) (hw _ (List.mem_of_getElem? (i := 10) rfl)) (hw _ (List.mem_of_getElem? (i := 3) rfl)) (hw _ (List.mem_of_getElem? (i := 11) rfl)) (by decide) 2 (by decide) (by decide) rfl [(.int xv), (.int (2 : Int32))] rfl pd_3 rfl rfl (Nat.le_of_eq rfl) 0 0 rfl rfl (by decide) (by decide) 33 rfl ?_
  rintro _ T5 _ X5 ⟨rfl, rfl⟩
  show OE p e ({ frames := 1, cells := 0, slots := 0, locals := 15 } : Room) below s n0 Q' T5 (mkF m 33 #[.val (.ref xa), .val (.int xv)] [(.int (f_bit xv (2 : Int32))), (.int (2 : Int32)), (.ref xa)])
  refine o_callS X5 d5_33 (rest := []) (c_at l Z a0 hw [] n0 _ X5.size xa (2 : Int32) (f_bit xv (2 : Int32)) [(f_bit xv (0 : Int32)), (f_bit xv (1 : Int32)), (f_bit xv (2 : Int32)), (f_bit xv (3 : Int32)), (f_bit xv (4 : Int32)), (f_bit xv (5 : Int32))] L' H0 2 rfl (Or.inr rfl)) (hw _ (List.mem_of_getElem? (i := 12) rfl)) (hw _ (List.mem_of_getElem? (i := 13) rfl)) (hw _ (List.mem_of_getElem? (i := 3) rfl)) (hw _ (List.mem_of_getElem? (i := 14) rfl)) (by decide) 0 (by decide) (by decide) rfl [(.ref xa), (.int (2 : Int32)), (.int (f_bit xv (2 : Int32)))] rfl pd_4 rfl rfl (Nat.le_of_eq rfl) 0 0 rfl rfl (by decide) (by decide) 36 rfl ?_
  rintro _ T6 _ X6 ⟨rfl, rfl⟩
  show OE p e ({ frames := 1, cells := 0, slots := 0, locals := 15 } : Room) below s n0 Q' T6 (mkF m 36 #[.val (.ref xa), .val (.int xv)] [(.int (1 : Int32))])
  refine o_ifEq X6 d5_36 97 39 (by decide) (by decide) rfl (fun q => by exfalso; exact absurd q (by decide)) ?_
  intro hc36
  refine o_aloadN X6 d5_39 rfl rfl 40 rfl ?_
  refine o_iconst (v := (3 : Int32)) X6 d5_40 rfl 41 rfl ?_
  refine o_iloadN X6 d5_41 rfl 42 rfl ?_
  refine o_iconst (v := (3 : Int32)) X6 d5_42 rfl 43 rfl ?_
  refine o_callS X6 d5_43 (rest := [(.int (3 : Int32)), (.ref xa)]) (c_bit l Z a0 hw [] n0 _ X6.size xv (3 : Int32) ) (hw _ (List.mem_of_getElem? (i := 9) rfl)) (hw _ (List.mem_of_getElem? (i := 10) rfl)) (hw _ (List.mem_of_getElem? (i := 3) rfl)) (hw _ (List.mem_of_getElem? (i := 11) rfl)) (by decide) 2 (by decide) (by decide) rfl [(.int xv), (.int (3 : Int32))] rfl pd_3 rfl rfl (Nat.le_of_eq rfl) 0 0 rfl rfl (by decide) (by decide) 46 rfl ?_
  rintro _ T7 _ X7 ⟨rfl, rfl⟩
  show OE p e ({ frames := 1, cells := 0, slots := 0, locals := 15 } : Room) below s n0 Q' T7 (mkF m 46 #[.val (.ref xa), .val (.int xv)] [(.int (f_bit xv (3 : Int32))), (.int (3 : Int32)), (.ref xa)])
  refine o_callS X7 d5_46 (rest := []) (c_at l Z a0 hw [] n0 _ X7.size xa (3 : Int32) (f_bit xv (3 : Int32)) [(f_bit xv (0 : Int32)), (f_bit xv (1 : Int32)), (f_bit xv (2 : Int32)), (f_bit xv (3 : Int32)), (f_bit xv (4 : Int32)), (f_bit xv (5 : Int32))] L' H0 3 rfl (Or.inr rfl)) (hw _ (List.mem_of_getElem? (i := 12) rfl)) (hw _ (List.mem_of_getElem? (i := 13) rfl)) (hw _ (List.mem_of_getElem? (i := 3) rfl)) (hw _ (List.mem_of_getElem? (i := 14) rfl)) (by decide) 0 (by decide) (by decide) rfl [(.ref xa), (.int (3 : Int32)), (.int (f_bit xv (3 : Int32)))] rfl pd_4 rfl rfl (Nat.le_of_eq rfl) 0 0 rfl rfl (by decide) (by decide) 49 rfl ?_
  rintro _ T8 _ X8 ⟨rfl, rfl⟩
  show OE p e ({ frames := 1, cells := 0, slots := 0, locals := 15 } : Room) below s n0 Q' T8 (mkF m 49 #[.val (.ref xa), .val (.int xv)] [(.int (1 : Int32))])
  refine o_ifEq X8 d5_49 97 52 (by decide) (by decide) rfl (fun q => by exfalso; exact absurd q (by decide)) ?_
  intro hc49
  refine o_aloadN X8 d5_52 rfl rfl 53 rfl ?_
  refine o_iconst (v := (4 : Int32)) X8 d5_53 rfl 54 rfl ?_
  refine o_iloadN X8 d5_54 rfl 55 rfl ?_
  refine o_iconst (v := (4 : Int32)) X8 d5_55 rfl 56 rfl ?_
  refine o_callS X8 d5_56 (rest := [(.int (4 : Int32)), (.ref xa)]) (c_bit l Z a0 hw [] n0 _ X8.size xv (4 : Int32) ) (hw _ (List.mem_of_getElem? (i := 9) rfl)) (hw _ (List.mem_of_getElem? (i := 10) rfl)) (hw _ (List.mem_of_getElem? (i := 3) rfl)) (hw _ (List.mem_of_getElem? (i := 11) rfl)) (by decide) 2 (by decide) (by decide) rfl [(.int xv), (.int (4 : Int32))] rfl pd_3 rfl rfl (Nat.le_of_eq rfl) 0 0 rfl rfl (by decide) (by decide) 59 rfl ?_
  rintro _ T9 _ X9 ⟨rfl, rfl⟩
  show OE p e ({ frames := 1, cells := 0, slots := 0, locals := 15 } : Room) below s n0 Q' T9 (mkF m 59 #[.val (.ref xa), .val (.int xv)] [(.int (f_bit xv (4 : Int32))), (.int (4 : Int32)), (.ref xa)])
  refine o_callS X9 d5_59 (rest := []) (c_at l Z a0 hw [] n0 _ X9.size xa (4 : Int32) (f_bit xv (4 : Int32)) [(f_bit xv (0 : Int32)), (f_bit xv (1 : Int32)), (f_bit xv (2 : Int32)), (f_bit xv (3 : Int32)), (f_bit xv (4 : Int32)), (f_bit xv (5 : Int32))] L' H0 4 rfl (Or.inr rfl)) (hw _ (List.mem_of_getElem? (i := 12) rfl)) (hw _ (List.mem_of_getElem? (i := 13) rfl)) (hw _ (List.mem_of_getElem? (i := 3) rfl)) (hw _ (List.mem_of_getElem? (i := 14) rfl)) (by decide) 0 (by decide) (by decide) rfl [(.ref xa), (.int (4 : Int32)), (.int (f_bit xv (4 : Int32)))] rfl pd_4 rfl rfl (Nat.le_of_eq rfl) 0 0 rfl rfl (by decide) (by decide) 62 rfl ?_
  rintro _ T10 _ X10 ⟨rfl, rfl⟩
  show OE p e ({ frames := 1, cells := 0, slots := 0, locals := 15 } : Room) below s n0 Q' T10 (mkF m 62 #[.val (.ref xa), .val (.int xv)] [(.int (1 : Int32))])
  refine o_ifEq X10 d5_62 97 65 (by decide) (by decide) rfl (fun q => by exfalso; exact absurd q (by decide)) ?_
  intro hc62
  refine o_aloadN X10 d5_65 rfl rfl 66 rfl ?_
  refine o_iconst (v := (5 : Int32)) X10 d5_66 rfl 67 rfl ?_
  refine o_iloadN X10 d5_67 rfl 68 rfl ?_
  refine o_iconst (v := (5 : Int32)) X10 d5_68 rfl 69 rfl ?_
  refine o_callS X10 d5_69 (rest := [(.int (5 : Int32)), (.ref xa)]) (c_bit l Z a0 hw [] n0 _ X10.size xv (5 : Int32) ) (hw _ (List.mem_of_getElem? (i := 9) rfl)) (hw _ (List.mem_of_getElem? (i := 10) rfl)) (hw _ (List.mem_of_getElem? (i := 3) rfl)) (hw _ (List.mem_of_getElem? (i := 11) rfl)) (by decide) 2 (by decide) (by decide) rfl [(.int xv), (.int (5 : Int32))] rfl pd_3 rfl rfl (Nat.le_of_eq rfl) 0 0 rfl rfl (by decide) (by decide) 72 rfl ?_
  rintro _ T11 _ X11 ⟨rfl, rfl⟩
  show OE p e ({ frames := 1, cells := 0, slots := 0, locals := 15 } : Room) below s n0 Q' T11 (mkF m 72 #[.val (.ref xa), .val (.int xv)] [(.int (f_bit xv (5 : Int32))), (.int (5 : Int32)), (.ref xa)])
  refine o_callS X11 d5_72 (rest := []) (c_at l Z a0 hw [] n0 _ X11.size xa (5 : Int32) (f_bit xv (5 : Int32)) [(f_bit xv (0 : Int32)), (f_bit xv (1 : Int32)), (f_bit xv (2 : Int32)), (f_bit xv (3 : Int32)), (f_bit xv (4 : Int32)), (f_bit xv (5 : Int32))] L' H0 5 rfl (Or.inr rfl)) (hw _ (List.mem_of_getElem? (i := 12) rfl)) (hw _ (List.mem_of_getElem? (i := 13) rfl)) (hw _ (List.mem_of_getElem? (i := 3) rfl)) (hw _ (List.mem_of_getElem? (i := 14) rfl)) (by decide) 0 (by decide) (by decide) rfl [(.ref xa), (.int (5 : Int32)), (.int (f_bit xv (5 : Int32)))] rfl pd_4 rfl rfl (Nat.le_of_eq rfl) 0 0 rfl rfl (by decide) (by decide) 75 rfl ?_
  rintro _ T12 _ X12 ⟨rfl, rfl⟩
  show OE p e ({ frames := 1, cells := 0, slots := 0, locals := 15 } : Room) below s n0 Q' T12 (mkF m 75 #[.val (.ref xa), .val (.int xv)] [(.int (1 : Int32))])
  refine o_ifEq X12 d5_75 97 78 (by decide) (by decide) rfl (fun q => by exfalso; exact absurd q (by decide)) ?_
  intro hc75
  refine o_aloadN X12 d5_78 rfl rfl 79 rfl ?_
  refine o_bipush (v := (6 : Int32)) X12 d5_79 rfl 81 rfl ?_
  refine o_iloadN X12 d5_81 rfl 82 rfl ?_
  refine o_bipush (v := (6 : Int32)) X12 d5_82 rfl 84 rfl ?_
  refine o_callS X12 d5_84 (rest := [(.int (6 : Int32)), (.ref xa)]) (c_bit l Z a0 hw [] n0 _ X12.size xv (6 : Int32) ) (hw _ (List.mem_of_getElem? (i := 9) rfl)) (hw _ (List.mem_of_getElem? (i := 10) rfl)) (hw _ (List.mem_of_getElem? (i := 3) rfl)) (hw _ (List.mem_of_getElem? (i := 11) rfl)) (by decide) 2 (by decide) (by decide) rfl [(.int xv), (.int (6 : Int32))] rfl pd_3 rfl rfl (Nat.le_of_eq rfl) 0 0 rfl rfl (by decide) (by decide) 87 rfl ?_
  rintro _ T13 _ X13 ⟨rfl, rfl⟩
  show OE p e ({ frames := 1, cells := 0, slots := 0, locals := 15 } : Room) below s n0 Q' T13 (mkF m 87 #[.val (.ref xa), .val (.int xv)] [(.int (f_bit xv (6 : Int32))), (.int (6 : Int32)), (.ref xa)])
  refine o_callS X13 d5_87 (rest := []) (c_at l Z a0 hw [] n0 _ X13.size xa (6 : Int32) (f_bit xv (6 : Int32)) [(f_bit xv (0 : Int32)), (f_bit xv (1 : Int32)), (f_bit xv (2 : Int32)), (f_bit xv (3 : Int32)), (f_bit xv (4 : Int32)), (f_bit xv (5 : Int32))] L' H0 6 rfl (Or.inl (by show 6 ≤ 6; decide))) (hw _ (List.mem_of_getElem? (i := 12) rfl)) (hw _ (List.mem_of_getElem? (i := 13) rfl)) (hw _ (List.mem_of_getElem? (i := 3) rfl)) (hw _ (List.mem_of_getElem? (i := 14) rfl)) (by decide) 0 (by decide) (by decide) rfl [(.ref xa), (.int (6 : Int32)), (.int (f_bit xv (6 : Int32)))] rfl pd_4 rfl rfl (Nat.le_of_eq rfl) 0 0 rfl rfl (by decide) (by decide) 90 rfl ?_
  rintro _ T14 _ X14 ⟨rfl, rfl⟩
  show OE p e ({ frames := 1, cells := 0, slots := 0, locals := 15 } : Room) below s n0 Q' T14 (mkF m 90 #[.val (.ref xa), .val (.int xv)] [(.int (1 : Int32))])
  refine o_ifEq X14 d5_90 97 93 (by decide) (by decide) rfl (fun q => by exfalso; exact absurd q (by decide)) ?_
  intro hc90
  refine o_iconst (v := (1 : Int32)) X14 d5_93 rfl 94 rfl ?_
  refine o_goto X14 d5_94 98 (by decide) (by decide) ?_
  exact o_retZ X14 d5_98 (by decide) (by decide) (hQ _ _ ⟨rfl, rfl⟩)
set_option maxRecDepth 65536 in
set_option maxHeartbeats 40000000 in
theorem c_fill7 (l : Launch) (Z : State) (a0 : Array Value) (hw : ∀ d ∈ tables_1, d.before a0 Z = true) (ws : List Jvm.Cond) (n0 : Nat) (h0 : Heap) (hn0 : n0 ≤ h0.size) (xa : Addr) (xv : Int32) (L' : List (Addr × (Cell → Prop))) (H0 : OL n0 h0 ((xa, OA Z .boolean [(0 : Int32), (0 : Int32), (0 : Int32), (0 : Int32), (0 : Int32), (0 : Int32), (0 : Int32)]) :: L')) :
    OC l Z (⟨"com/example/eratosthenes/eratosthenes/tune/GeneticSearchCombPinLaw", "fill", "([ZI)V"⟩ : MethodName) method_4_code 2 none ws ({ frames := 1, cells := 0, slots := 0, locals := 15 } : Room) n0 #[(.ref xa), (.int xv)] h0 (fun r h => r = none ∧ OL n0 h ((xa, OA Z .boolean [(f_bit xv (0 : Int32)), (f_bit xv (1 : Int32)), (f_bit xv (2 : Int32)), (f_bit xv (3 : Int32)), (f_bit xv (4 : Int32)), (f_bit xv (5 : Int32)), (f_bit xv (6 : Int32))]) :: L')) := by
  refine OC.of pn_0 hn0 #[.val (.ref xa), .val (.int xv)] (fun m => by first | (simp [entryFrame, mkF, argsToLocals, Value.category, maxLocals]; done) | rfl) ?_
  intro p e s m below meth cd0 T0 X0 Q' hQ
  refine o_aloadN X0 d1_0 rfl rfl 1 rfl ?_
  refine o_arraylength X0 H0 0 rfl d1_1 (7 : Int32) rfl 2 rfl ?_
  refine o_ifLe X0 d1_2 13 5 (by decide) (by decide) rfl (fun q => by exfalso; exact absurd q (by decide)) ?_
  intro hc2
  refine o_aloadN X0 d1_5 rfl rfl 6 rfl ?_
  refine o_iconst (v := (0 : Int32)) X0 d1_6 rfl 7 rfl ?_
  refine o_iloadN X0 d1_7 rfl 8 rfl ?_
  refine o_iconst (v := (0 : Int32)) X0 d1_8 rfl 9 rfl ?_
  refine o_callS X0 d1_9 (rest := [(.int (0 : Int32)), (.ref xa)]) (c_bit l Z a0 hw [] n0 _ X0.size xv (0 : Int32) ) (hw _ (List.mem_of_getElem? (i := 9) rfl)) (hw _ (List.mem_of_getElem? (i := 10) rfl)) (hw _ (List.mem_of_getElem? (i := 3) rfl)) (hw _ (List.mem_of_getElem? (i := 11) rfl)) (by decide) 2 (by decide) (by decide) rfl [(.int xv), (.int (0 : Int32))] rfl pd_3 rfl rfl (Nat.le_of_eq rfl) 0 0 rfl rfl (by decide) (by decide) 12 rfl ?_
  rintro _ T1 _ X1 ⟨rfl, rfl⟩
  show OE p e ({ frames := 1, cells := 0, slots := 0, locals := 15 } : Room) below s n0 Q' T1 (mkF m 12 #[.val (.ref xa), .val (.int xv)] [(.int (f_bit xv (0 : Int32))), (.int (0 : Int32)), (.ref xa)])
  refine o_bastoreZ X1 H0 0 rfl d1_12 0 rfl (by show 0 < 7; decide) (f_bit xv (0 : Int32)) (v_nar _ _) 13 rfl ?_
  intro T2 h2 X2 H2
  replace H2 : OL n0 h2 ((xa, OA Z .boolean [(f_bit xv (0 : Int32)), (0 : Int32), (0 : Int32), (0 : Int32), (0 : Int32), (0 : Int32), (0 : Int32)]) :: L') := H2
  refine o_aloadN X2 d1_13 rfl rfl 14 rfl ?_
  refine o_arraylength X2 H2 0 rfl d1_14 (7 : Int32) rfl 15 rfl ?_
  refine o_iconst (v := (1 : Int32)) X2 d1_15 rfl 16 rfl ?_
  refine o_icmpLe X2 d1_16 27 19 (by decide) (by decide) rfl (fun q => by exfalso; exact absurd q (by decide)) ?_
  intro hc16
  refine o_aloadN X2 d1_19 rfl rfl 20 rfl ?_
  refine o_iconst (v := (1 : Int32)) X2 d1_20 rfl 21 rfl ?_
  refine o_iloadN X2 d1_21 rfl 22 rfl ?_
  refine o_iconst (v := (1 : Int32)) X2 d1_22 rfl 23 rfl ?_
  refine o_callS X2 d1_23 (rest := [(.int (1 : Int32)), (.ref xa)]) (c_bit l Z a0 hw [] n0 _ X2.size xv (1 : Int32) ) (hw _ (List.mem_of_getElem? (i := 9) rfl)) (hw _ (List.mem_of_getElem? (i := 10) rfl)) (hw _ (List.mem_of_getElem? (i := 3) rfl)) (hw _ (List.mem_of_getElem? (i := 11) rfl)) (by decide) 2 (by decide) (by decide) rfl [(.int xv), (.int (1 : Int32))] rfl pd_3 rfl rfl (Nat.le_of_eq rfl) 0 0 rfl rfl (by decide) (by decide) 26 rfl ?_
  rintro _ T3 _ X3 ⟨rfl, rfl⟩
  show OE p e ({ frames := 1, cells := 0, slots := 0, locals := 15 } : Room) below s n0 Q' T3 (mkF m 26 #[.val (.ref xa), .val (.int xv)] [(.int (f_bit xv (1 : Int32))), (.int (1 : Int32)), (.ref xa)])
  refine o_bastoreZ X3 H2 0 rfl d1_26 1 rfl (by show 1 < 7; decide) (f_bit xv (1 : Int32)) (v_nar _ _) 27 rfl ?_
  intro T4 h4 X4 H4
  replace H4 : OL n0 h4 ((xa, OA Z .boolean [(f_bit xv (0 : Int32)), (f_bit xv (1 : Int32)), (0 : Int32), (0 : Int32), (0 : Int32), (0 : Int32), (0 : Int32)]) :: L') := H4
  refine o_aloadN X4 d1_27 rfl rfl 28 rfl ?_
  refine o_arraylength X4 H4 0 rfl d1_28 (7 : Int32) rfl 29 rfl ?_
  refine o_iconst (v := (2 : Int32)) X4 d1_29 rfl 30 rfl ?_
  refine o_icmpLe X4 d1_30 41 33 (by decide) (by decide) rfl (fun q => by exfalso; exact absurd q (by decide)) ?_
  intro hc30
  refine o_aloadN X4 d1_33 rfl rfl 34 rfl ?_
  refine o_iconst (v := (2 : Int32)) X4 d1_34 rfl 35 rfl ?_
  refine o_iloadN X4 d1_35 rfl 36 rfl ?_
  refine o_iconst (v := (2 : Int32)) X4 d1_36 rfl 37 rfl ?_
  refine o_callS X4 d1_37 (rest := [(.int (2 : Int32)), (.ref xa)]) (c_bit l Z a0 hw [] n0 _ X4.size xv (2 : Int32) ) (hw _ (List.mem_of_getElem? (i := 9) rfl)) (hw _ (List.mem_of_getElem? (i := 10) rfl)) (hw _ (List.mem_of_getElem? (i := 3) rfl)) (hw _ (List.mem_of_getElem? (i := 11) rfl)) (by decide) 2 (by decide) (by decide) rfl [(.int xv), (.int (2 : Int32))] rfl pd_3 rfl rfl (Nat.le_of_eq rfl) 0 0 rfl rfl (by decide) (by decide) 40 rfl ?_
  rintro _ T5 _ X5 ⟨rfl, rfl⟩
  show OE p e ({ frames := 1, cells := 0, slots := 0, locals := 15 } : Room) below s n0 Q' T5 (mkF m 40 #[.val (.ref xa), .val (.int xv)] [(.int (f_bit xv (2 : Int32))), (.int (2 : Int32)), (.ref xa)])
  refine o_bastoreZ X5 H4 0 rfl d1_40 2 rfl (by show 2 < 7; decide) (f_bit xv (2 : Int32)) (v_nar _ _) 41 rfl ?_
  intro T6 h6 X6 H6
  replace H6 : OL n0 h6 ((xa, OA Z .boolean [(f_bit xv (0 : Int32)), (f_bit xv (1 : Int32)), (f_bit xv (2 : Int32)), (0 : Int32), (0 : Int32), (0 : Int32), (0 : Int32)]) :: L') := H6
  refine o_aloadN X6 d1_41 rfl rfl 42 rfl ?_
  refine o_arraylength X6 H6 0 rfl d1_42 (7 : Int32) rfl 43 rfl ?_
  refine o_iconst (v := (3 : Int32)) X6 d1_43 rfl 44 rfl ?_
  refine o_icmpLe X6 d1_44 55 47 (by decide) (by decide) rfl (fun q => by exfalso; exact absurd q (by decide)) ?_
  intro hc44
  refine o_aloadN X6 d1_47 rfl rfl 48 rfl ?_
  refine o_iconst (v := (3 : Int32)) X6 d1_48 rfl 49 rfl ?_
  refine o_iloadN X6 d1_49 rfl 50 rfl ?_
  refine o_iconst (v := (3 : Int32)) X6 d1_50 rfl 51 rfl ?_
  refine o_callS X6 d1_51 (rest := [(.int (3 : Int32)), (.ref xa)]) (c_bit l Z a0 hw [] n0 _ X6.size xv (3 : Int32) ) (hw _ (List.mem_of_getElem? (i := 9) rfl)) (hw _ (List.mem_of_getElem? (i := 10) rfl)) (hw _ (List.mem_of_getElem? (i := 3) rfl)) (hw _ (List.mem_of_getElem? (i := 11) rfl)) (by decide) 2 (by decide) (by decide) rfl [(.int xv), (.int (3 : Int32))] rfl pd_3 rfl rfl (Nat.le_of_eq rfl) 0 0 rfl rfl (by decide) (by decide) 54 rfl ?_
  rintro _ T7 _ X7 ⟨rfl, rfl⟩
  show OE p e ({ frames := 1, cells := 0, slots := 0, locals := 15 } : Room) below s n0 Q' T7 (mkF m 54 #[.val (.ref xa), .val (.int xv)] [(.int (f_bit xv (3 : Int32))), (.int (3 : Int32)), (.ref xa)])
  refine o_bastoreZ X7 H6 0 rfl d1_54 3 rfl (by show 3 < 7; decide) (f_bit xv (3 : Int32)) (v_nar _ _) 55 rfl ?_
  intro T8 h8 X8 H8
  replace H8 : OL n0 h8 ((xa, OA Z .boolean [(f_bit xv (0 : Int32)), (f_bit xv (1 : Int32)), (f_bit xv (2 : Int32)), (f_bit xv (3 : Int32)), (0 : Int32), (0 : Int32), (0 : Int32)]) :: L') := H8
  refine o_aloadN X8 d1_55 rfl rfl 56 rfl ?_
  refine o_arraylength X8 H8 0 rfl d1_56 (7 : Int32) rfl 57 rfl ?_
  refine o_iconst (v := (4 : Int32)) X8 d1_57 rfl 58 rfl ?_
  refine o_icmpLe X8 d1_58 69 61 (by decide) (by decide) rfl (fun q => by exfalso; exact absurd q (by decide)) ?_
  intro hc58
  refine o_aloadN X8 d1_61 rfl rfl 62 rfl ?_
  refine o_iconst (v := (4 : Int32)) X8 d1_62 rfl 63 rfl ?_
  refine o_iloadN X8 d1_63 rfl 64 rfl ?_
  refine o_iconst (v := (4 : Int32)) X8 d1_64 rfl 65 rfl ?_
  refine o_callS X8 d1_65 (rest := [(.int (4 : Int32)), (.ref xa)]) (c_bit l Z a0 hw [] n0 _ X8.size xv (4 : Int32) ) (hw _ (List.mem_of_getElem? (i := 9) rfl)) (hw _ (List.mem_of_getElem? (i := 10) rfl)) (hw _ (List.mem_of_getElem? (i := 3) rfl)) (hw _ (List.mem_of_getElem? (i := 11) rfl)) (by decide) 2 (by decide) (by decide) rfl [(.int xv), (.int (4 : Int32))] rfl pd_3 rfl rfl (Nat.le_of_eq rfl) 0 0 rfl rfl (by decide) (by decide) 68 rfl ?_
  rintro _ T9 _ X9 ⟨rfl, rfl⟩
  show OE p e ({ frames := 1, cells := 0, slots := 0, locals := 15 } : Room) below s n0 Q' T9 (mkF m 68 #[.val (.ref xa), .val (.int xv)] [(.int (f_bit xv (4 : Int32))), (.int (4 : Int32)), (.ref xa)])
  refine o_bastoreZ X9 H8 0 rfl d1_68 4 rfl (by show 4 < 7; decide) (f_bit xv (4 : Int32)) (v_nar _ _) 69 rfl ?_
  intro T10 h10 X10 H10
  replace H10 : OL n0 h10 ((xa, OA Z .boolean [(f_bit xv (0 : Int32)), (f_bit xv (1 : Int32)), (f_bit xv (2 : Int32)), (f_bit xv (3 : Int32)), (f_bit xv (4 : Int32)), (0 : Int32), (0 : Int32)]) :: L') := H10
  refine o_aloadN X10 d1_69 rfl rfl 70 rfl ?_
  refine o_arraylength X10 H10 0 rfl d1_70 (7 : Int32) rfl 71 rfl ?_
  refine o_iconst (v := (5 : Int32)) X10 d1_71 rfl 72 rfl ?_
  refine o_icmpLe X10 d1_72 83 75 (by decide) (by decide) rfl (fun q => by exfalso; exact absurd q (by decide)) ?_
  intro hc72
  refine o_aloadN X10 d1_75 rfl rfl 76 rfl ?_
  refine o_iconst (v := (5 : Int32)) X10 d1_76 rfl 77 rfl ?_
  refine o_iloadN X10 d1_77 rfl 78 rfl ?_
  refine o_iconst (v := (5 : Int32)) X10 d1_78 rfl 79 rfl ?_
  refine o_callS X10 d1_79 (rest := [(.int (5 : Int32)), (.ref xa)]) (c_bit l Z a0 hw [] n0 _ X10.size xv (5 : Int32) ) (hw _ (List.mem_of_getElem? (i := 9) rfl)) (hw _ (List.mem_of_getElem? (i := 10) rfl)) (hw _ (List.mem_of_getElem? (i := 3) rfl)) (hw _ (List.mem_of_getElem? (i := 11) rfl)) (by decide) 2 (by decide) (by decide) rfl [(.int xv), (.int (5 : Int32))] rfl pd_3 rfl rfl (Nat.le_of_eq rfl) 0 0 rfl rfl (by decide) (by decide) 82 rfl ?_
  rintro _ T11 _ X11 ⟨rfl, rfl⟩
  show OE p e ({ frames := 1, cells := 0, slots := 0, locals := 15 } : Room) below s n0 Q' T11 (mkF m 82 #[.val (.ref xa), .val (.int xv)] [(.int (f_bit xv (5 : Int32))), (.int (5 : Int32)), (.ref xa)])
  refine o_bastoreZ X11 H10 0 rfl d1_82 5 rfl (by show 5 < 7; decide) (f_bit xv (5 : Int32)) (v_nar _ _) 83 rfl ?_
  intro T12 h12 X12 H12
  replace H12 : OL n0 h12 ((xa, OA Z .boolean [(f_bit xv (0 : Int32)), (f_bit xv (1 : Int32)), (f_bit xv (2 : Int32)), (f_bit xv (3 : Int32)), (f_bit xv (4 : Int32)), (f_bit xv (5 : Int32)), (0 : Int32)]) :: L') := H12
  refine o_aloadN X12 d1_83 rfl rfl 84 rfl ?_
  refine o_arraylength X12 H12 0 rfl d1_84 (7 : Int32) rfl 85 rfl ?_
  refine o_bipush (v := (6 : Int32)) X12 d1_85 rfl 87 rfl ?_
  refine o_icmpLe X12 d1_87 100 90 (by decide) (by decide) rfl (fun q => by exfalso; exact absurd q (by decide)) ?_
  intro hc87
  refine o_aloadN X12 d1_90 rfl rfl 91 rfl ?_
  refine o_bipush (v := (6 : Int32)) X12 d1_91 rfl 93 rfl ?_
  refine o_iloadN X12 d1_93 rfl 94 rfl ?_
  refine o_bipush (v := (6 : Int32)) X12 d1_94 rfl 96 rfl ?_
  refine o_callS X12 d1_96 (rest := [(.int (6 : Int32)), (.ref xa)]) (c_bit l Z a0 hw [] n0 _ X12.size xv (6 : Int32) ) (hw _ (List.mem_of_getElem? (i := 9) rfl)) (hw _ (List.mem_of_getElem? (i := 10) rfl)) (hw _ (List.mem_of_getElem? (i := 3) rfl)) (hw _ (List.mem_of_getElem? (i := 11) rfl)) (by decide) 2 (by decide) (by decide) rfl [(.int xv), (.int (6 : Int32))] rfl pd_3 rfl rfl (Nat.le_of_eq rfl) 0 0 rfl rfl (by decide) (by decide) 99 rfl ?_
  rintro _ T13 _ X13 ⟨rfl, rfl⟩
  show OE p e ({ frames := 1, cells := 0, slots := 0, locals := 15 } : Room) below s n0 Q' T13 (mkF m 99 #[.val (.ref xa), .val (.int xv)] [(.int (f_bit xv (6 : Int32))), (.int (6 : Int32)), (.ref xa)])
  refine o_bastoreZ X13 H12 0 rfl d1_99 6 rfl (by show 6 < 7; decide) (f_bit xv (6 : Int32)) (v_nar _ _) 100 rfl ?_
  intro T14 h14 X14 H14
  replace H14 : OL n0 h14 ((xa, OA Z .boolean [(f_bit xv (0 : Int32)), (f_bit xv (1 : Int32)), (f_bit xv (2 : Int32)), (f_bit xv (3 : Int32)), (f_bit xv (4 : Int32)), (f_bit xv (5 : Int32)), (f_bit xv (6 : Int32))]) :: L') := H14
  exact o_ret X14 d1_100 (by decide) (by decide) (hQ _ _ ⟨rfl, H14⟩)
set_option maxRecDepth 65536 in
set_option maxHeartbeats 40000000 in
theorem c_comb7 (l : Launch) (Z : State) (a0 : Array Value) (hw : ∀ d ∈ tables_1, d.before a0 Z = true) (ws : List Jvm.Cond) (n0 : Nat) (h0 : Heap) (hn0 : n0 ≤ h0.size) (xa xb : Addr) (xx xy : Int32) (L' : List (Addr × (Cell → Prop))) (H0 : OL n0 h0 ((xa, OA Z .boolean [(f_bit xx (0 : Int32)), (f_bit xx (1 : Int32)), (f_bit xx (2 : Int32)), (f_bit xx (3 : Int32)), (f_bit xx (4 : Int32)), (f_bit xx (5 : Int32)), (f_bit xx (6 : Int32))]) :: (xb, OA Z .boolean [(f_bit xy (0 : Int32)), (f_bit xy (1 : Int32)), (f_bit xy (2 : Int32)), (f_bit xy (3 : Int32)), (f_bit xy (4 : Int32)), (f_bit xy (5 : Int32)), (f_bit xy (6 : Int32))]) :: L')) :
    OC l Z (⟨"com/example/eratosthenes/eratosthenes/tune/GeneticSearch", "comb", "([Z[Z)[Z"⟩ : MethodName) prog_27_method_3_code 4 (some (.array .boolean)) ws ({ frames := 0, cells := 1, slots := 7, locals := 0 } : Room) n0 #[(.ref xa), (.ref xb)] h0 (fun r h => ∃ a, r = some (.ref a) ∧ OL n0 h ((a, OA Z .boolean [(f_bit xx (0 : Int32)), (f_bit xy (1 : Int32)), (f_bit xx (2 : Int32)), (f_bit xy (3 : Int32)), (f_bit xx (4 : Int32)), (f_bit xy (5 : Int32)), (f_bit xx (6 : Int32))]) :: (xa, OA Z .boolean [(f_bit xx (0 : Int32)), (f_bit xx (1 : Int32)), (f_bit xx (2 : Int32)), (f_bit xx (3 : Int32)), (f_bit xx (4 : Int32)), (f_bit xx (5 : Int32)), (f_bit xx (6 : Int32))]) :: (xb, OA Z .boolean [(f_bit xy (0 : Int32)), (f_bit xy (1 : Int32)), (f_bit xy (2 : Int32)), (f_bit xy (3 : Int32)), (f_bit xy (4 : Int32)), (f_bit xy (5 : Int32)), (f_bit xy (6 : Int32))]) :: L')) := by
  refine OC.of pn_1 hn0 #[.val (.ref xa), .val (.ref xb), .unset, .unset] (fun m => by first | (simp [entryFrame, mkF, argsToLocals, Value.category, maxLocals]; done) | rfl) ?_
  intro p e s m below meth cd0 T0 X0 Q' hQ
  refine o_aloadN X0 d2_0 rfl rfl 1 rfl ?_
  refine o_arraylength X0 H0 0 rfl d2_1 (7 : Int32) rfl 2 rfl ?_
  refine o_newarray (L := ((xa, OA Z .boolean [(f_bit xx (0 : Int32)), (f_bit xx (1 : Int32)), (f_bit xx (2 : Int32)), (f_bit xx (3 : Int32)), (f_bit xx (4 : Int32)), (f_bit xx (5 : Int32)), (f_bit xx (6 : Int32))]) :: (xb, OA Z .boolean [(f_bit xy (0 : Int32)), (f_bit xy (1 : Int32)), (f_bit xy (2 : Int32)), (f_bit xy (3 : Int32)), (f_bit xy (4 : Int32)), (f_bit xy (5 : Int32)), (f_bit xy (6 : Int32))]) :: L')) X0 H0 d2_2 (hw _ (List.mem_of_getElem? (i := 0) rfl)) rfl rfl 7 7 rfl (by decide) (by decide) 1 7 rfl rfl (by decide) (by decide) 4 rfl ?_
  intro T1 h1 b1 X1 H1
  replace H1 : OL n0 h1 ((b1, OA Z .boolean [(0 : Int32), (0 : Int32), (0 : Int32), (0 : Int32), (0 : Int32), (0 : Int32), (0 : Int32)]) :: (xa, OA Z .boolean [(f_bit xx (0 : Int32)), (f_bit xx (1 : Int32)), (f_bit xx (2 : Int32)), (f_bit xx (3 : Int32)), (f_bit xx (4 : Int32)), (f_bit xx (5 : Int32)), (f_bit xx (6 : Int32))]) :: (xb, OA Z .boolean [(f_bit xy (0 : Int32)), (f_bit xy (1 : Int32)), (f_bit xy (2 : Int32)), (f_bit xy (3 : Int32)), (f_bit xy (4 : Int32)), (f_bit xy (5 : Int32)), (f_bit xy (6 : Int32))]) :: L') := H1
  refine o_astoreN X1 d2_4 rfl #[.val (.ref xa), .val (.ref xb), .val (.ref b1), .unset] rfl 5 rfl ?_
  refine o_iconst (v := (0 : Int32)) X1 d2_5 rfl 6 rfl ?_
  refine o_istoreN X1 d2_6 #[.val (.ref xa), .val (.ref xb), .val (.ref b1), .val (.int (0 : Int32))] rfl 7 rfl ?_
  refine o_iloadN X1 d2_7 rfl 8 rfl ?_
  refine o_aloadN X1 d2_8 rfl rfl 9 rfl ?_
  refine o_arraylength X1 H1 0 rfl d2_9 (7 : Int32) rfl 10 rfl ?_
  refine o_icmpGe X1 d2_10 37 13 (by decide) (by decide) rfl (fun q => by exfalso; exact absurd q (by decide)) ?_
  intro hc10
  refine o_aloadN X1 d2_13 rfl rfl 14 rfl ?_
  refine o_iloadN X1 d2_14 rfl 15 rfl ?_
  refine o_iloadN X1 d2_15 rfl 16 rfl ?_
  refine o_iconst (v := (2 : Int32)) X1 d2_16 rfl 17 rfl ?_
  refine o_irem X1 d2_17 (by decide) 18 rfl ?_
  refine o_ifNe X1 d2_18 27 21 (by decide) (by decide) rfl (fun q => by exfalso; exact absurd q (by decide)) ?_
  intro hc18
  refine o_aloadN X1 d2_21 rfl rfl 22 rfl ?_
  refine o_iloadN X1 d2_22 rfl 23 rfl ?_
  refine o_baloadZ X1 H1 1 rfl d2_23 0 rfl (f_bit xx (0 : Int32)) rfl 24 rfl ?_
  refine o_goto X1 d2_24 30 (by decide) (by decide) ?_
  refine o_bastoreZ X1 H1 0 rfl d2_30 0 rfl (by show 0 < 7; decide) (f_bit xx (0 : Int32)) (v_nar _ _) 31 rfl ?_
  intro T2 h2 X2 H2
  replace H2 : OL n0 h2 ((b1, OA Z .boolean [(f_bit xx (0 : Int32)), (0 : Int32), (0 : Int32), (0 : Int32), (0 : Int32), (0 : Int32), (0 : Int32)]) :: (xa, OA Z .boolean [(f_bit xx (0 : Int32)), (f_bit xx (1 : Int32)), (f_bit xx (2 : Int32)), (f_bit xx (3 : Int32)), (f_bit xx (4 : Int32)), (f_bit xx (5 : Int32)), (f_bit xx (6 : Int32))]) :: (xb, OA Z .boolean [(f_bit xy (0 : Int32)), (f_bit xy (1 : Int32)), (f_bit xy (2 : Int32)), (f_bit xy (3 : Int32)), (f_bit xy (4 : Int32)), (f_bit xy (5 : Int32)), (f_bit xy (6 : Int32))]) :: L') := H2
  refine o_iinc (v := (0 : Int32)) (w := (1 : Int32)) X2 d2_31 rfl rfl #[.val (.ref xa), .val (.ref xb), .val (.ref b1), .val (.int (1 : Int32))] rfl 34 rfl ?_
  refine o_goto X2 d2_34 7 (by decide) (by decide) ?_
  refine o_iloadN X2 d2_7 rfl 8 rfl ?_
  refine o_aloadN X2 d2_8 rfl rfl 9 rfl ?_
  refine o_arraylength X2 H2 0 rfl d2_9 (7 : Int32) rfl 10 rfl ?_
  refine o_icmpGe X2 d2_10 37 13 (by decide) (by decide) rfl (fun q => by exfalso; exact absurd q (by decide)) ?_
  intro hc10_1
  refine o_aloadN X2 d2_13 rfl rfl 14 rfl ?_
  refine o_iloadN X2 d2_14 rfl 15 rfl ?_
  refine o_iloadN X2 d2_15 rfl 16 rfl ?_
  refine o_iconst (v := (2 : Int32)) X2 d2_16 rfl 17 rfl ?_
  refine o_irem X2 d2_17 (by decide) 18 rfl ?_
  refine o_ifNe X2 d2_18 27 21 (by decide) (by decide) rfl ?_ (fun q => by exfalso; exact absurd q (by decide))
  intro hc18_1
  refine o_aloadN X2 d2_27 rfl rfl 28 rfl ?_
  refine o_iloadN X2 d2_28 rfl 29 rfl ?_
  refine o_baloadZ X2 H2 2 rfl d2_29 1 rfl (f_bit xy (1 : Int32)) rfl 30 rfl ?_
  refine o_bastoreZ X2 H2 0 rfl d2_30 1 rfl (by show 1 < 7; decide) (f_bit xy (1 : Int32)) (v_nar _ _) 31 rfl ?_
  intro T3 h3 X3 H3
  replace H3 : OL n0 h3 ((b1, OA Z .boolean [(f_bit xx (0 : Int32)), (f_bit xy (1 : Int32)), (0 : Int32), (0 : Int32), (0 : Int32), (0 : Int32), (0 : Int32)]) :: (xa, OA Z .boolean [(f_bit xx (0 : Int32)), (f_bit xx (1 : Int32)), (f_bit xx (2 : Int32)), (f_bit xx (3 : Int32)), (f_bit xx (4 : Int32)), (f_bit xx (5 : Int32)), (f_bit xx (6 : Int32))]) :: (xb, OA Z .boolean [(f_bit xy (0 : Int32)), (f_bit xy (1 : Int32)), (f_bit xy (2 : Int32)), (f_bit xy (3 : Int32)), (f_bit xy (4 : Int32)), (f_bit xy (5 : Int32)), (f_bit xy (6 : Int32))]) :: L') := H3
  refine o_iinc (v := (1 : Int32)) (w := (2 : Int32)) X3 d2_31 rfl rfl #[.val (.ref xa), .val (.ref xb), .val (.ref b1), .val (.int (2 : Int32))] rfl 34 rfl ?_
  refine o_goto X3 d2_34 7 (by decide) (by decide) ?_
  refine o_iloadN X3 d2_7 rfl 8 rfl ?_
  refine o_aloadN X3 d2_8 rfl rfl 9 rfl ?_
  refine o_arraylength X3 H3 0 rfl d2_9 (7 : Int32) rfl 10 rfl ?_
  refine o_icmpGe X3 d2_10 37 13 (by decide) (by decide) rfl (fun q => by exfalso; exact absurd q (by decide)) ?_
  intro hc10_2
  refine o_aloadN X3 d2_13 rfl rfl 14 rfl ?_
  refine o_iloadN X3 d2_14 rfl 15 rfl ?_
  refine o_iloadN X3 d2_15 rfl 16 rfl ?_
  refine o_iconst (v := (2 : Int32)) X3 d2_16 rfl 17 rfl ?_
  refine o_irem X3 d2_17 (by decide) 18 rfl ?_
  refine o_ifNe X3 d2_18 27 21 (by decide) (by decide) rfl (fun q => by exfalso; exact absurd q (by decide)) ?_
  intro hc18_2
  refine o_aloadN X3 d2_21 rfl rfl 22 rfl ?_
  refine o_iloadN X3 d2_22 rfl 23 rfl ?_
  refine o_baloadZ X3 H3 1 rfl d2_23 2 rfl (f_bit xx (2 : Int32)) rfl 24 rfl ?_
  refine o_goto X3 d2_24 30 (by decide) (by decide) ?_
  refine o_bastoreZ X3 H3 0 rfl d2_30 2 rfl (by show 2 < 7; decide) (f_bit xx (2 : Int32)) (v_nar _ _) 31 rfl ?_
  intro T4 h4 X4 H4
  replace H4 : OL n0 h4 ((b1, OA Z .boolean [(f_bit xx (0 : Int32)), (f_bit xy (1 : Int32)), (f_bit xx (2 : Int32)), (0 : Int32), (0 : Int32), (0 : Int32), (0 : Int32)]) :: (xa, OA Z .boolean [(f_bit xx (0 : Int32)), (f_bit xx (1 : Int32)), (f_bit xx (2 : Int32)), (f_bit xx (3 : Int32)), (f_bit xx (4 : Int32)), (f_bit xx (5 : Int32)), (f_bit xx (6 : Int32))]) :: (xb, OA Z .boolean [(f_bit xy (0 : Int32)), (f_bit xy (1 : Int32)), (f_bit xy (2 : Int32)), (f_bit xy (3 : Int32)), (f_bit xy (4 : Int32)), (f_bit xy (5 : Int32)), (f_bit xy (6 : Int32))]) :: L') := H4
  refine o_iinc (v := (2 : Int32)) (w := (3 : Int32)) X4 d2_31 rfl rfl #[.val (.ref xa), .val (.ref xb), .val (.ref b1), .val (.int (3 : Int32))] rfl 34 rfl ?_
  refine o_goto X4 d2_34 7 (by decide) (by decide) ?_
  refine o_iloadN X4 d2_7 rfl 8 rfl ?_
  refine o_aloadN X4 d2_8 rfl rfl 9 rfl ?_
  refine o_arraylength X4 H4 0 rfl d2_9 (7 : Int32) rfl 10 rfl ?_
  refine o_icmpGe X4 d2_10 37 13 (by decide) (by decide) rfl (fun q => by exfalso; exact absurd q (by decide)) ?_
  intro hc10_3
  refine o_aloadN X4 d2_13 rfl rfl 14 rfl ?_
  refine o_iloadN X4 d2_14 rfl 15 rfl ?_
  refine o_iloadN X4 d2_15 rfl 16 rfl ?_
  refine o_iconst (v := (2 : Int32)) X4 d2_16 rfl 17 rfl ?_
  refine o_irem X4 d2_17 (by decide) 18 rfl ?_
  refine o_ifNe X4 d2_18 27 21 (by decide) (by decide) rfl ?_ (fun q => by exfalso; exact absurd q (by decide))
  intro hc18_3
  refine o_aloadN X4 d2_27 rfl rfl 28 rfl ?_
  refine o_iloadN X4 d2_28 rfl 29 rfl ?_
  refine o_baloadZ X4 H4 2 rfl d2_29 3 rfl (f_bit xy (3 : Int32)) rfl 30 rfl ?_
  refine o_bastoreZ X4 H4 0 rfl d2_30 3 rfl (by show 3 < 7; decide) (f_bit xy (3 : Int32)) (v_nar _ _) 31 rfl ?_
  intro T5 h5 X5 H5
  replace H5 : OL n0 h5 ((b1, OA Z .boolean [(f_bit xx (0 : Int32)), (f_bit xy (1 : Int32)), (f_bit xx (2 : Int32)), (f_bit xy (3 : Int32)), (0 : Int32), (0 : Int32), (0 : Int32)]) :: (xa, OA Z .boolean [(f_bit xx (0 : Int32)), (f_bit xx (1 : Int32)), (f_bit xx (2 : Int32)), (f_bit xx (3 : Int32)), (f_bit xx (4 : Int32)), (f_bit xx (5 : Int32)), (f_bit xx (6 : Int32))]) :: (xb, OA Z .boolean [(f_bit xy (0 : Int32)), (f_bit xy (1 : Int32)), (f_bit xy (2 : Int32)), (f_bit xy (3 : Int32)), (f_bit xy (4 : Int32)), (f_bit xy (5 : Int32)), (f_bit xy (6 : Int32))]) :: L') := H5
  refine o_iinc (v := (3 : Int32)) (w := (4 : Int32)) X5 d2_31 rfl rfl #[.val (.ref xa), .val (.ref xb), .val (.ref b1), .val (.int (4 : Int32))] rfl 34 rfl ?_
  refine o_goto X5 d2_34 7 (by decide) (by decide) ?_
  refine o_iloadN X5 d2_7 rfl 8 rfl ?_
  refine o_aloadN X5 d2_8 rfl rfl 9 rfl ?_
  refine o_arraylength X5 H5 0 rfl d2_9 (7 : Int32) rfl 10 rfl ?_
  refine o_icmpGe X5 d2_10 37 13 (by decide) (by decide) rfl (fun q => by exfalso; exact absurd q (by decide)) ?_
  intro hc10_4
  refine o_aloadN X5 d2_13 rfl rfl 14 rfl ?_
  refine o_iloadN X5 d2_14 rfl 15 rfl ?_
  refine o_iloadN X5 d2_15 rfl 16 rfl ?_
  refine o_iconst (v := (2 : Int32)) X5 d2_16 rfl 17 rfl ?_
  refine o_irem X5 d2_17 (by decide) 18 rfl ?_
  refine o_ifNe X5 d2_18 27 21 (by decide) (by decide) rfl (fun q => by exfalso; exact absurd q (by decide)) ?_
  intro hc18_4
  refine o_aloadN X5 d2_21 rfl rfl 22 rfl ?_
  refine o_iloadN X5 d2_22 rfl 23 rfl ?_
  refine o_baloadZ X5 H5 1 rfl d2_23 4 rfl (f_bit xx (4 : Int32)) rfl 24 rfl ?_
  refine o_goto X5 d2_24 30 (by decide) (by decide) ?_
  refine o_bastoreZ X5 H5 0 rfl d2_30 4 rfl (by show 4 < 7; decide) (f_bit xx (4 : Int32)) (v_nar _ _) 31 rfl ?_
  intro T6 h6 X6 H6
  replace H6 : OL n0 h6 ((b1, OA Z .boolean [(f_bit xx (0 : Int32)), (f_bit xy (1 : Int32)), (f_bit xx (2 : Int32)), (f_bit xy (3 : Int32)), (f_bit xx (4 : Int32)), (0 : Int32), (0 : Int32)]) :: (xa, OA Z .boolean [(f_bit xx (0 : Int32)), (f_bit xx (1 : Int32)), (f_bit xx (2 : Int32)), (f_bit xx (3 : Int32)), (f_bit xx (4 : Int32)), (f_bit xx (5 : Int32)), (f_bit xx (6 : Int32))]) :: (xb, OA Z .boolean [(f_bit xy (0 : Int32)), (f_bit xy (1 : Int32)), (f_bit xy (2 : Int32)), (f_bit xy (3 : Int32)), (f_bit xy (4 : Int32)), (f_bit xy (5 : Int32)), (f_bit xy (6 : Int32))]) :: L') := H6
  refine o_iinc (v := (4 : Int32)) (w := (5 : Int32)) X6 d2_31 rfl rfl #[.val (.ref xa), .val (.ref xb), .val (.ref b1), .val (.int (5 : Int32))] rfl 34 rfl ?_
  refine o_goto X6 d2_34 7 (by decide) (by decide) ?_
  refine o_iloadN X6 d2_7 rfl 8 rfl ?_
  refine o_aloadN X6 d2_8 rfl rfl 9 rfl ?_
  refine o_arraylength X6 H6 0 rfl d2_9 (7 : Int32) rfl 10 rfl ?_
  refine o_icmpGe X6 d2_10 37 13 (by decide) (by decide) rfl (fun q => by exfalso; exact absurd q (by decide)) ?_
  intro hc10_5
  refine o_aloadN X6 d2_13 rfl rfl 14 rfl ?_
  refine o_iloadN X6 d2_14 rfl 15 rfl ?_
  refine o_iloadN X6 d2_15 rfl 16 rfl ?_
  refine o_iconst (v := (2 : Int32)) X6 d2_16 rfl 17 rfl ?_
  refine o_irem X6 d2_17 (by decide) 18 rfl ?_
  refine o_ifNe X6 d2_18 27 21 (by decide) (by decide) rfl ?_ (fun q => by exfalso; exact absurd q (by decide))
  intro hc18_5
  refine o_aloadN X6 d2_27 rfl rfl 28 rfl ?_
  refine o_iloadN X6 d2_28 rfl 29 rfl ?_
  refine o_baloadZ X6 H6 2 rfl d2_29 5 rfl (f_bit xy (5 : Int32)) rfl 30 rfl ?_
  refine o_bastoreZ X6 H6 0 rfl d2_30 5 rfl (by show 5 < 7; decide) (f_bit xy (5 : Int32)) (v_nar _ _) 31 rfl ?_
  intro T7 h7 X7 H7
  replace H7 : OL n0 h7 ((b1, OA Z .boolean [(f_bit xx (0 : Int32)), (f_bit xy (1 : Int32)), (f_bit xx (2 : Int32)), (f_bit xy (3 : Int32)), (f_bit xx (4 : Int32)), (f_bit xy (5 : Int32)), (0 : Int32)]) :: (xa, OA Z .boolean [(f_bit xx (0 : Int32)), (f_bit xx (1 : Int32)), (f_bit xx (2 : Int32)), (f_bit xx (3 : Int32)), (f_bit xx (4 : Int32)), (f_bit xx (5 : Int32)), (f_bit xx (6 : Int32))]) :: (xb, OA Z .boolean [(f_bit xy (0 : Int32)), (f_bit xy (1 : Int32)), (f_bit xy (2 : Int32)), (f_bit xy (3 : Int32)), (f_bit xy (4 : Int32)), (f_bit xy (5 : Int32)), (f_bit xy (6 : Int32))]) :: L') := H7
  refine o_iinc (v := (5 : Int32)) (w := (6 : Int32)) X7 d2_31 rfl rfl #[.val (.ref xa), .val (.ref xb), .val (.ref b1), .val (.int (6 : Int32))] rfl 34 rfl ?_
  refine o_goto X7 d2_34 7 (by decide) (by decide) ?_
  refine o_iloadN X7 d2_7 rfl 8 rfl ?_
  refine o_aloadN X7 d2_8 rfl rfl 9 rfl ?_
  refine o_arraylength X7 H7 0 rfl d2_9 (7 : Int32) rfl 10 rfl ?_
  refine o_icmpGe X7 d2_10 37 13 (by decide) (by decide) rfl (fun q => by exfalso; exact absurd q (by decide)) ?_
  intro hc10_6
  refine o_aloadN X7 d2_13 rfl rfl 14 rfl ?_
  refine o_iloadN X7 d2_14 rfl 15 rfl ?_
  refine o_iloadN X7 d2_15 rfl 16 rfl ?_
  refine o_iconst (v := (2 : Int32)) X7 d2_16 rfl 17 rfl ?_
  refine o_irem X7 d2_17 (by decide) 18 rfl ?_
  refine o_ifNe X7 d2_18 27 21 (by decide) (by decide) rfl (fun q => by exfalso; exact absurd q (by decide)) ?_
  intro hc18_6
  refine o_aloadN X7 d2_21 rfl rfl 22 rfl ?_
  refine o_iloadN X7 d2_22 rfl 23 rfl ?_
  refine o_baloadZ X7 H7 1 rfl d2_23 6 rfl (f_bit xx (6 : Int32)) rfl 24 rfl ?_
  refine o_goto X7 d2_24 30 (by decide) (by decide) ?_
  refine o_bastoreZ X7 H7 0 rfl d2_30 6 rfl (by show 6 < 7; decide) (f_bit xx (6 : Int32)) (v_nar _ _) 31 rfl ?_
  intro T8 h8 X8 H8
  replace H8 : OL n0 h8 ((b1, OA Z .boolean [(f_bit xx (0 : Int32)), (f_bit xy (1 : Int32)), (f_bit xx (2 : Int32)), (f_bit xy (3 : Int32)), (f_bit xx (4 : Int32)), (f_bit xy (5 : Int32)), (f_bit xx (6 : Int32))]) :: (xa, OA Z .boolean [(f_bit xx (0 : Int32)), (f_bit xx (1 : Int32)), (f_bit xx (2 : Int32)), (f_bit xx (3 : Int32)), (f_bit xx (4 : Int32)), (f_bit xx (5 : Int32)), (f_bit xx (6 : Int32))]) :: (xb, OA Z .boolean [(f_bit xy (0 : Int32)), (f_bit xy (1 : Int32)), (f_bit xy (2 : Int32)), (f_bit xy (3 : Int32)), (f_bit xy (4 : Int32)), (f_bit xy (5 : Int32)), (f_bit xy (6 : Int32))]) :: L') := H8
  refine o_iinc (v := (6 : Int32)) (w := (7 : Int32)) X8 d2_31 rfl rfl #[.val (.ref xa), .val (.ref xb), .val (.ref b1), .val (.int (7 : Int32))] rfl 34 rfl ?_
  refine o_goto X8 d2_34 7 (by decide) (by decide) ?_
  refine o_iloadN X8 d2_7 rfl 8 rfl ?_
  refine o_aloadN X8 d2_8 rfl rfl 9 rfl ?_
  refine o_arraylength X8 H8 0 rfl d2_9 (7 : Int32) rfl 10 rfl ?_
  refine o_icmpGe X8 d2_10 37 13 (by decide) (by decide) rfl ?_ (fun q => by exfalso; exact absurd q (by decide))
  intro hc10_7
  refine o_aloadN X8 d2_37 rfl rfl 38 rfl ?_
  exact o_retA X8 rfl rfl d2_38 (by decide) (by decide) (hQ _ _ ⟨_, rfl, H8⟩)
set_option maxRecDepth 65536 in
set_option maxHeartbeats 40000000 in
theorem c_same7 (l : Launch) (Z : State) (a0 : Array Value) (hw : ∀ d ∈ tables_1, d.before a0 Z = true) (ws : List Jvm.Cond) (n0 : Nat) (h0 : Heap) (hn0 : n0 ≤ h0.size) (xa : Addr) (xv : Int32) (L' : List (Addr × (Cell → Prop))) (H0 : OL n0 h0 ((xa, OA Z .boolean [(f_bit xv (0 : Int32)), (f_bit xv (1 : Int32)), (f_bit xv (2 : Int32)), (f_bit xv (3 : Int32)), (f_bit xv (4 : Int32)), (f_bit xv (5 : Int32)), (f_bit xv (6 : Int32))]) :: L')) :
    OC l Z (⟨"com/example/eratosthenes/eratosthenes/tune/GeneticSearchCombPinLaw", "same", "([ZI)Z"⟩ : MethodName) method_5_code 2 (some .boolean) ws ({ frames := 1, cells := 0, slots := 0, locals := 15 } : Room) n0 #[(.ref xa), (.int xv)] h0 (fun r h => r = some (.int 1) ∧ h0 = h) := by
  refine OC.of pn_0 hn0 #[.val (.ref xa), .val (.int xv)] (fun m => by first | (simp [entryFrame, mkF, argsToLocals, Value.category, maxLocals]; done) | rfl) ?_
  intro p e s m below meth cd0 T0 X0 Q' hQ
  refine o_aloadN X0 d5_0 rfl rfl 1 rfl ?_
  refine o_iconst (v := (0 : Int32)) X0 d5_1 rfl 2 rfl ?_
  refine o_iloadN X0 d5_2 rfl 3 rfl ?_
  refine o_iconst (v := (0 : Int32)) X0 d5_3 rfl 4 rfl ?_
  refine o_callS X0 d5_4 (rest := [(.int (0 : Int32)), (.ref xa)]) (c_bit l Z a0 hw [] n0 _ X0.size xv (0 : Int32) ) (hw _ (List.mem_of_getElem? (i := 9) rfl)) (hw _ (List.mem_of_getElem? (i := 10) rfl)) (hw _ (List.mem_of_getElem? (i := 3) rfl)) (hw _ (List.mem_of_getElem? (i := 11) rfl)) (by decide) 2 (by decide) (by decide) rfl [(.int xv), (.int (0 : Int32))] rfl pd_3 rfl rfl (Nat.le_of_eq rfl) 0 0 rfl rfl (by decide) (by decide) 7 rfl ?_
  rintro _ T1 _ X1 ⟨rfl, rfl⟩
  show OE p e ({ frames := 1, cells := 0, slots := 0, locals := 15 } : Room) below s n0 Q' T1 (mkF m 7 #[.val (.ref xa), .val (.int xv)] [(.int (f_bit xv (0 : Int32))), (.int (0 : Int32)), (.ref xa)])
  refine o_callS X1 d5_7 (rest := []) (c_at l Z a0 hw [] n0 _ X1.size xa (0 : Int32) (f_bit xv (0 : Int32)) [(f_bit xv (0 : Int32)), (f_bit xv (1 : Int32)), (f_bit xv (2 : Int32)), (f_bit xv (3 : Int32)), (f_bit xv (4 : Int32)), (f_bit xv (5 : Int32)), (f_bit xv (6 : Int32))] L' H0 0 rfl (Or.inr rfl)) (hw _ (List.mem_of_getElem? (i := 12) rfl)) (hw _ (List.mem_of_getElem? (i := 13) rfl)) (hw _ (List.mem_of_getElem? (i := 3) rfl)) (hw _ (List.mem_of_getElem? (i := 14) rfl)) (by decide) 0 (by decide) (by decide) rfl [(.ref xa), (.int (0 : Int32)), (.int (f_bit xv (0 : Int32)))] rfl pd_4 rfl rfl (Nat.le_of_eq rfl) 0 0 rfl rfl (by decide) (by decide) 10 rfl ?_
  rintro _ T2 _ X2 ⟨rfl, rfl⟩
  show OE p e ({ frames := 1, cells := 0, slots := 0, locals := 15 } : Room) below s n0 Q' T2 (mkF m 10 #[.val (.ref xa), .val (.int xv)] [(.int (1 : Int32))])
  refine o_ifEq X2 d5_10 97 13 (by decide) (by decide) rfl (fun q => by exfalso; exact absurd q (by decide)) ?_
  intro hc10
  refine o_aloadN X2 d5_13 rfl rfl 14 rfl ?_
  refine o_iconst (v := (1 : Int32)) X2 d5_14 rfl 15 rfl ?_
  refine o_iloadN X2 d5_15 rfl 16 rfl ?_
  refine o_iconst (v := (1 : Int32)) X2 d5_16 rfl 17 rfl ?_
  refine o_callS X2 d5_17 (rest := [(.int (1 : Int32)), (.ref xa)]) (c_bit l Z a0 hw [] n0 _ X2.size xv (1 : Int32) ) (hw _ (List.mem_of_getElem? (i := 9) rfl)) (hw _ (List.mem_of_getElem? (i := 10) rfl)) (hw _ (List.mem_of_getElem? (i := 3) rfl)) (hw _ (List.mem_of_getElem? (i := 11) rfl)) (by decide) 2 (by decide) (by decide) rfl [(.int xv), (.int (1 : Int32))] rfl pd_3 rfl rfl (Nat.le_of_eq rfl) 0 0 rfl rfl (by decide) (by decide) 20 rfl ?_
  rintro _ T3 _ X3 ⟨rfl, rfl⟩
  show OE p e ({ frames := 1, cells := 0, slots := 0, locals := 15 } : Room) below s n0 Q' T3 (mkF m 20 #[.val (.ref xa), .val (.int xv)] [(.int (f_bit xv (1 : Int32))), (.int (1 : Int32)), (.ref xa)])
  refine o_callS X3 d5_20 (rest := []) (c_at l Z a0 hw [] n0 _ X3.size xa (1 : Int32) (f_bit xv (1 : Int32)) [(f_bit xv (0 : Int32)), (f_bit xv (1 : Int32)), (f_bit xv (2 : Int32)), (f_bit xv (3 : Int32)), (f_bit xv (4 : Int32)), (f_bit xv (5 : Int32)), (f_bit xv (6 : Int32))] L' H0 1 rfl (Or.inr rfl)) (hw _ (List.mem_of_getElem? (i := 12) rfl)) (hw _ (List.mem_of_getElem? (i := 13) rfl)) (hw _ (List.mem_of_getElem? (i := 3) rfl)) (hw _ (List.mem_of_getElem? (i := 14) rfl)) (by decide) 0 (by decide) (by decide) rfl [(.ref xa), (.int (1 : Int32)), (.int (f_bit xv (1 : Int32)))] rfl pd_4 rfl rfl (Nat.le_of_eq rfl) 0 0 rfl rfl (by decide) (by decide) 23 rfl ?_
  rintro _ T4 _ X4 ⟨rfl, rfl⟩
  show OE p e ({ frames := 1, cells := 0, slots := 0, locals := 15 } : Room) below s n0 Q' T4 (mkF m 23 #[.val (.ref xa), .val (.int xv)] [(.int (1 : Int32))])
  refine o_ifEq X4 d5_23 97 26 (by decide) (by decide) rfl (fun q => by exfalso; exact absurd q (by decide)) ?_
  intro hc23
  refine o_aloadN X4 d5_26 rfl rfl 27 rfl ?_
  refine o_iconst (v := (2 : Int32)) X4 d5_27 rfl 28 rfl ?_
  refine o_iloadN X4 d5_28 rfl 29 rfl ?_
  refine o_iconst (v := (2 : Int32)) X4 d5_29 rfl 30 rfl ?_
  refine o_callS X4 d5_30 (rest := [(.int (2 : Int32)), (.ref xa)]) (c_bit l Z a0 hw [] n0 _ X4.size xv (2 : Int32) ) (hw _ (List.mem_of_getElem? (i := 9) rfl)) (hw _ (List.mem_of_getElem? (i := 10) rfl)) (hw _ (List.mem_of_getElem? (i := 3) rfl)) (hw _ (List.mem_of_getElem? (i := 11) rfl)) (by decide) 2 (by decide) (by decide) rfl [(.int xv), (.int (2 : Int32))] rfl pd_3 rfl rfl (Nat.le_of_eq rfl) 0 0 rfl rfl (by decide) (by decide) 33 rfl ?_
  rintro _ T5 _ X5 ⟨rfl, rfl⟩
  show OE p e ({ frames := 1, cells := 0, slots := 0, locals := 15 } : Room) below s n0 Q' T5 (mkF m 33 #[.val (.ref xa), .val (.int xv)] [(.int (f_bit xv (2 : Int32))), (.int (2 : Int32)), (.ref xa)])
  refine o_callS X5 d5_33 (rest := []) (c_at l Z a0 hw [] n0 _ X5.size xa (2 : Int32) (f_bit xv (2 : Int32)) [(f_bit xv (0 : Int32)), (f_bit xv (1 : Int32)), (f_bit xv (2 : Int32)), (f_bit xv (3 : Int32)), (f_bit xv (4 : Int32)), (f_bit xv (5 : Int32)), (f_bit xv (6 : Int32))] L' H0 2 rfl (Or.inr rfl)) (hw _ (List.mem_of_getElem? (i := 12) rfl)) (hw _ (List.mem_of_getElem? (i := 13) rfl)) (hw _ (List.mem_of_getElem? (i := 3) rfl)) (hw _ (List.mem_of_getElem? (i := 14) rfl)) (by decide) 0 (by decide) (by decide) rfl [(.ref xa), (.int (2 : Int32)), (.int (f_bit xv (2 : Int32)))] rfl pd_4 rfl rfl (Nat.le_of_eq rfl) 0 0 rfl rfl (by decide) (by decide) 36 rfl ?_
  rintro _ T6 _ X6 ⟨rfl, rfl⟩
  show OE p e ({ frames := 1, cells := 0, slots := 0, locals := 15 } : Room) below s n0 Q' T6 (mkF m 36 #[.val (.ref xa), .val (.int xv)] [(.int (1 : Int32))])
  refine o_ifEq X6 d5_36 97 39 (by decide) (by decide) rfl (fun q => by exfalso; exact absurd q (by decide)) ?_
  intro hc36
  refine o_aloadN X6 d5_39 rfl rfl 40 rfl ?_
  refine o_iconst (v := (3 : Int32)) X6 d5_40 rfl 41 rfl ?_
  refine o_iloadN X6 d5_41 rfl 42 rfl ?_
  refine o_iconst (v := (3 : Int32)) X6 d5_42 rfl 43 rfl ?_
  refine o_callS X6 d5_43 (rest := [(.int (3 : Int32)), (.ref xa)]) (c_bit l Z a0 hw [] n0 _ X6.size xv (3 : Int32) ) (hw _ (List.mem_of_getElem? (i := 9) rfl)) (hw _ (List.mem_of_getElem? (i := 10) rfl)) (hw _ (List.mem_of_getElem? (i := 3) rfl)) (hw _ (List.mem_of_getElem? (i := 11) rfl)) (by decide) 2 (by decide) (by decide) rfl [(.int xv), (.int (3 : Int32))] rfl pd_3 rfl rfl (Nat.le_of_eq rfl) 0 0 rfl rfl (by decide) (by decide) 46 rfl ?_
  rintro _ T7 _ X7 ⟨rfl, rfl⟩
  show OE p e ({ frames := 1, cells := 0, slots := 0, locals := 15 } : Room) below s n0 Q' T7 (mkF m 46 #[.val (.ref xa), .val (.int xv)] [(.int (f_bit xv (3 : Int32))), (.int (3 : Int32)), (.ref xa)])
  refine o_callS X7 d5_46 (rest := []) (c_at l Z a0 hw [] n0 _ X7.size xa (3 : Int32) (f_bit xv (3 : Int32)) [(f_bit xv (0 : Int32)), (f_bit xv (1 : Int32)), (f_bit xv (2 : Int32)), (f_bit xv (3 : Int32)), (f_bit xv (4 : Int32)), (f_bit xv (5 : Int32)), (f_bit xv (6 : Int32))] L' H0 3 rfl (Or.inr rfl)) (hw _ (List.mem_of_getElem? (i := 12) rfl)) (hw _ (List.mem_of_getElem? (i := 13) rfl)) (hw _ (List.mem_of_getElem? (i := 3) rfl)) (hw _ (List.mem_of_getElem? (i := 14) rfl)) (by decide) 0 (by decide) (by decide) rfl [(.ref xa), (.int (3 : Int32)), (.int (f_bit xv (3 : Int32)))] rfl pd_4 rfl rfl (Nat.le_of_eq rfl) 0 0 rfl rfl (by decide) (by decide) 49 rfl ?_
  rintro _ T8 _ X8 ⟨rfl, rfl⟩
  show OE p e ({ frames := 1, cells := 0, slots := 0, locals := 15 } : Room) below s n0 Q' T8 (mkF m 49 #[.val (.ref xa), .val (.int xv)] [(.int (1 : Int32))])
  refine o_ifEq X8 d5_49 97 52 (by decide) (by decide) rfl (fun q => by exfalso; exact absurd q (by decide)) ?_
  intro hc49
  refine o_aloadN X8 d5_52 rfl rfl 53 rfl ?_
  refine o_iconst (v := (4 : Int32)) X8 d5_53 rfl 54 rfl ?_
  refine o_iloadN X8 d5_54 rfl 55 rfl ?_
  refine o_iconst (v := (4 : Int32)) X8 d5_55 rfl 56 rfl ?_
  refine o_callS X8 d5_56 (rest := [(.int (4 : Int32)), (.ref xa)]) (c_bit l Z a0 hw [] n0 _ X8.size xv (4 : Int32) ) (hw _ (List.mem_of_getElem? (i := 9) rfl)) (hw _ (List.mem_of_getElem? (i := 10) rfl)) (hw _ (List.mem_of_getElem? (i := 3) rfl)) (hw _ (List.mem_of_getElem? (i := 11) rfl)) (by decide) 2 (by decide) (by decide) rfl [(.int xv), (.int (4 : Int32))] rfl pd_3 rfl rfl (Nat.le_of_eq rfl) 0 0 rfl rfl (by decide) (by decide) 59 rfl ?_
  rintro _ T9 _ X9 ⟨rfl, rfl⟩
  show OE p e ({ frames := 1, cells := 0, slots := 0, locals := 15 } : Room) below s n0 Q' T9 (mkF m 59 #[.val (.ref xa), .val (.int xv)] [(.int (f_bit xv (4 : Int32))), (.int (4 : Int32)), (.ref xa)])
  refine o_callS X9 d5_59 (rest := []) (c_at l Z a0 hw [] n0 _ X9.size xa (4 : Int32) (f_bit xv (4 : Int32)) [(f_bit xv (0 : Int32)), (f_bit xv (1 : Int32)), (f_bit xv (2 : Int32)), (f_bit xv (3 : Int32)), (f_bit xv (4 : Int32)), (f_bit xv (5 : Int32)), (f_bit xv (6 : Int32))] L' H0 4 rfl (Or.inr rfl)) (hw _ (List.mem_of_getElem? (i := 12) rfl)) (hw _ (List.mem_of_getElem? (i := 13) rfl)) (hw _ (List.mem_of_getElem? (i := 3) rfl)) (hw _ (List.mem_of_getElem? (i := 14) rfl)) (by decide) 0 (by decide) (by decide) rfl [(.ref xa), (.int (4 : Int32)), (.int (f_bit xv (4 : Int32)))] rfl pd_4 rfl rfl (Nat.le_of_eq rfl) 0 0 rfl rfl (by decide) (by decide) 62 rfl ?_
  rintro _ T10 _ X10 ⟨rfl, rfl⟩
  show OE p e ({ frames := 1, cells := 0, slots := 0, locals := 15 } : Room) below s n0 Q' T10 (mkF m 62 #[.val (.ref xa), .val (.int xv)] [(.int (1 : Int32))])
  refine o_ifEq X10 d5_62 97 65 (by decide) (by decide) rfl (fun q => by exfalso; exact absurd q (by decide)) ?_
  intro hc62
  refine o_aloadN X10 d5_65 rfl rfl 66 rfl ?_
  refine o_iconst (v := (5 : Int32)) X10 d5_66 rfl 67 rfl ?_
  refine o_iloadN X10 d5_67 rfl 68 rfl ?_
  refine o_iconst (v := (5 : Int32)) X10 d5_68 rfl 69 rfl ?_
  refine o_callS X10 d5_69 (rest := [(.int (5 : Int32)), (.ref xa)]) (c_bit l Z a0 hw [] n0 _ X10.size xv (5 : Int32) ) (hw _ (List.mem_of_getElem? (i := 9) rfl)) (hw _ (List.mem_of_getElem? (i := 10) rfl)) (hw _ (List.mem_of_getElem? (i := 3) rfl)) (hw _ (List.mem_of_getElem? (i := 11) rfl)) (by decide) 2 (by decide) (by decide) rfl [(.int xv), (.int (5 : Int32))] rfl pd_3 rfl rfl (Nat.le_of_eq rfl) 0 0 rfl rfl (by decide) (by decide) 72 rfl ?_
  rintro _ T11 _ X11 ⟨rfl, rfl⟩
  show OE p e ({ frames := 1, cells := 0, slots := 0, locals := 15 } : Room) below s n0 Q' T11 (mkF m 72 #[.val (.ref xa), .val (.int xv)] [(.int (f_bit xv (5 : Int32))), (.int (5 : Int32)), (.ref xa)])
  refine o_callS X11 d5_72 (rest := []) (c_at l Z a0 hw [] n0 _ X11.size xa (5 : Int32) (f_bit xv (5 : Int32)) [(f_bit xv (0 : Int32)), (f_bit xv (1 : Int32)), (f_bit xv (2 : Int32)), (f_bit xv (3 : Int32)), (f_bit xv (4 : Int32)), (f_bit xv (5 : Int32)), (f_bit xv (6 : Int32))] L' H0 5 rfl (Or.inr rfl)) (hw _ (List.mem_of_getElem? (i := 12) rfl)) (hw _ (List.mem_of_getElem? (i := 13) rfl)) (hw _ (List.mem_of_getElem? (i := 3) rfl)) (hw _ (List.mem_of_getElem? (i := 14) rfl)) (by decide) 0 (by decide) (by decide) rfl [(.ref xa), (.int (5 : Int32)), (.int (f_bit xv (5 : Int32)))] rfl pd_4 rfl rfl (Nat.le_of_eq rfl) 0 0 rfl rfl (by decide) (by decide) 75 rfl ?_
  rintro _ T12 _ X12 ⟨rfl, rfl⟩
  show OE p e ({ frames := 1, cells := 0, slots := 0, locals := 15 } : Room) below s n0 Q' T12 (mkF m 75 #[.val (.ref xa), .val (.int xv)] [(.int (1 : Int32))])
  refine o_ifEq X12 d5_75 97 78 (by decide) (by decide) rfl (fun q => by exfalso; exact absurd q (by decide)) ?_
  intro hc75
  refine o_aloadN X12 d5_78 rfl rfl 79 rfl ?_
  refine o_bipush (v := (6 : Int32)) X12 d5_79 rfl 81 rfl ?_
  refine o_iloadN X12 d5_81 rfl 82 rfl ?_
  refine o_bipush (v := (6 : Int32)) X12 d5_82 rfl 84 rfl ?_
  refine o_callS X12 d5_84 (rest := [(.int (6 : Int32)), (.ref xa)]) (c_bit l Z a0 hw [] n0 _ X12.size xv (6 : Int32) ) (hw _ (List.mem_of_getElem? (i := 9) rfl)) (hw _ (List.mem_of_getElem? (i := 10) rfl)) (hw _ (List.mem_of_getElem? (i := 3) rfl)) (hw _ (List.mem_of_getElem? (i := 11) rfl)) (by decide) 2 (by decide) (by decide) rfl [(.int xv), (.int (6 : Int32))] rfl pd_3 rfl rfl (Nat.le_of_eq rfl) 0 0 rfl rfl (by decide) (by decide) 87 rfl ?_
  rintro _ T13 _ X13 ⟨rfl, rfl⟩
  show OE p e ({ frames := 1, cells := 0, slots := 0, locals := 15 } : Room) below s n0 Q' T13 (mkF m 87 #[.val (.ref xa), .val (.int xv)] [(.int (f_bit xv (6 : Int32))), (.int (6 : Int32)), (.ref xa)])
  refine o_callS X13 d5_87 (rest := []) (c_at l Z a0 hw [] n0 _ X13.size xa (6 : Int32) (f_bit xv (6 : Int32)) [(f_bit xv (0 : Int32)), (f_bit xv (1 : Int32)), (f_bit xv (2 : Int32)), (f_bit xv (3 : Int32)), (f_bit xv (4 : Int32)), (f_bit xv (5 : Int32)), (f_bit xv (6 : Int32))] L' H0 6 rfl (Or.inr rfl)) (hw _ (List.mem_of_getElem? (i := 12) rfl)) (hw _ (List.mem_of_getElem? (i := 13) rfl)) (hw _ (List.mem_of_getElem? (i := 3) rfl)) (hw _ (List.mem_of_getElem? (i := 14) rfl)) (by decide) 0 (by decide) (by decide) rfl [(.ref xa), (.int (6 : Int32)), (.int (f_bit xv (6 : Int32)))] rfl pd_4 rfl rfl (Nat.le_of_eq rfl) 0 0 rfl rfl (by decide) (by decide) 90 rfl ?_
  rintro _ T14 _ X14 ⟨rfl, rfl⟩
  show OE p e ({ frames := 1, cells := 0, slots := 0, locals := 15 } : Room) below s n0 Q' T14 (mkF m 90 #[.val (.ref xa), .val (.int xv)] [(.int (1 : Int32))])
  refine o_ifEq X14 d5_90 97 93 (by decide) (by decide) rfl (fun q => by exfalso; exact absurd q (by decide)) ?_
  intro hc90
  refine o_iconst (v := (1 : Int32)) X14 d5_93 rfl 94 rfl ?_
  refine o_goto X14 d5_94 98 (by decide) (by decide) ?_
  exact o_retZ X14 d5_98 (by decide) (by decide) (hQ _ _ ⟨rfl, rfl⟩)
set_option maxRecDepth 65536 in
set_option maxHeartbeats 40000000 in
theorem c_law (l : Launch) (Z : State) (a0 : Array Value) (hw : ∀ d ∈ tables_1, d.before a0 Z = true) (ws : List Jvm.Cond) (n0 : Nat) (h0 : Heap) (hn0 : n0 ≤ h0.size) (xl : Int32) (xx : Int32) (xy : Int32) :
    OC l Z x code maxLocals ret ws room_1 n0 #[(.int xl), (.int xx), (.int xy)] h0 (fun r h => r = some (.int 1)) := by
  refine OC.of pn_0 hn0 #[.val (.int xl), .val (.int xx), .val (.int xy), .unset, .unset, .unset, .unset, .unset] (fun m => by first | (simp [entryFrame, mkF, argsToLocals, Value.category, maxLocals]; done) | rfl) ?_
  intro p e s m below meth cd0 T0 X0 Q' hQ
  refine o_iloadN X0 at_0 rfl 1 rfl ?_
  refine o_bipush (v := (7 : Int32)) X0 at_1 rfl 3 rfl ?_
  refine o_iand X0 at_3 4 rfl ?_
  refine o_istoreN X0 at_4 #[.val (.int xl), .val (.int xx), .val (.int xy), .val (.int (xl &&& (7 : Int32))), .unset, .unset, .unset, .unset] rfl 5 rfl ?_
  rcases v_n xl with hv | hv | hv | hv | hv | hv | hv | hv
  · rw [hv]
    refine o_iloadN X0 at_5 rfl 6 rfl ?_
    refine o_newarray (L := []) X0 OL.nil at_6 (hw _ (List.mem_of_getElem? (i := 0) rfl)) rfl rfl 0 0 rfl (by decide) (by decide) 1 0 rfl rfl (by decide) (by decide) 8 rfl ?_
    intro T1 h1 b1 X1 H1
    replace H1 : OL n0 h1 ((b1, OA Z .boolean []) :: []) := H1
    refine o_astore X1 at_8 rfl #[.val (.int xl), .val (.int xx), .val (.int xy), .val (.int (0 : Int32)), .val (.ref b1), .unset, .unset, .unset] rfl 10 rfl ?_
    refine o_iloadN X1 at_10 rfl 11 rfl ?_
    refine o_newarray (L := ((b1, OA Z .boolean []) :: [])) X1 H1 at_11 (hw _ (List.mem_of_getElem? (i := 0) rfl)) rfl rfl 0 0 rfl (by decide) (by decide) 2 0 rfl rfl (by decide) (by decide) 13 rfl ?_
    intro T2 h2 b2 X2 H2
    replace H2 : OL n0 h2 ((b2, OA Z .boolean []) :: (b1, OA Z .boolean []) :: []) := H2
    refine o_astore X2 at_13 rfl #[.val (.int xl), .val (.int xx), .val (.int xy), .val (.int (0 : Int32)), .val (.ref b1), .val (.ref b2), .unset, .unset] rfl 15 rfl ?_
    refine o_aload X2 at_15 rfl rfl 17 rfl ?_
    refine o_iloadN X2 at_17 rfl 18 rfl ?_
    have H4 : OL n0 h2 ((b1, OA Z .boolean []) :: (b2, OA Z .boolean []) :: []) := H2.front 1 rfl
    refine o_callS X2 at_18 (rest := []) (c_fill0 l Z a0 hw [] n0 _ X2.size b1 xx ((b2, OA Z .boolean []) :: []) H4) (hw _ (List.mem_of_getElem? (i := 1) rfl)) (hw _ (List.mem_of_getElem? (i := 2) rfl)) (hw _ (List.mem_of_getElem? (i := 3) rfl)) (hw _ (List.mem_of_getElem? (i := 4) rfl)) (by decide) 0 (by decide) (by decide) rfl [(.ref b1), (.int xx)] rfl pd_1 rfl rfl (Nat.le_of_eq rfl) 2 0 rfl rfl (by decide) (by decide) 21 rfl ?_
    rintro _ T3 h3 X3 ⟨rfl, H3⟩
    replace H3 : OL n0 h3 ((b1, OA Z .boolean []) :: (b2, OA Z .boolean []) :: []) := H3
    show OE p e room_1 below s n0 Q' T3 (mkF m 21 #[.val (.int xl), .val (.int xx), .val (.int xy), .val (.int (0 : Int32)), .val (.ref b1), .val (.ref b2), .unset, .unset] [])
    refine o_aload X3 at_21 rfl rfl 23 rfl ?_
    refine o_iloadN X3 at_23 rfl 24 rfl ?_
    have H6 : OL n0 h3 ((b2, OA Z .boolean []) :: (b1, OA Z .boolean []) :: []) := H3.front 1 rfl
    refine o_callS X3 at_24 (rest := []) (c_fill0 l Z a0 hw [] n0 _ X3.size b2 xy ((b1, OA Z .boolean []) :: []) H6) (hw _ (List.mem_of_getElem? (i := 1) rfl)) (hw _ (List.mem_of_getElem? (i := 2) rfl)) (hw _ (List.mem_of_getElem? (i := 3) rfl)) (hw _ (List.mem_of_getElem? (i := 4) rfl)) (by decide) 0 (by decide) (by decide) rfl [(.ref b2), (.int xy)] rfl pd_1 rfl rfl (Nat.le_of_eq rfl) 2 0 rfl rfl (by decide) (by decide) 27 rfl ?_
    rintro _ T5 h5 X5 ⟨rfl, H5⟩
    replace H5 : OL n0 h5 ((b2, OA Z .boolean []) :: (b1, OA Z .boolean []) :: []) := H5
    show OE p e room_1 below s n0 Q' T5 (mkF m 27 #[.val (.int xl), .val (.int xx), .val (.int xy), .val (.int (0 : Int32)), .val (.ref b1), .val (.ref b2), .unset, .unset] [])
    refine o_aload X5 at_27 rfl rfl 29 rfl ?_
    refine o_aload X5 at_29 rfl rfl 31 rfl ?_
    have H8 : OL n0 h5 ((b1, OA Z .boolean []) :: (b2, OA Z .boolean []) :: []) := H5.front 1 rfl
    refine o_callS X5 at_31 (rest := []) (c_comb0 l Z a0 hw [] n0 _ X5.size b1 b2 xx xy [] H8) (hw _ (List.mem_of_getElem? (i := 5) rfl)) (hw _ (List.mem_of_getElem? (i := 6) rfl)) (hw _ (List.mem_of_getElem? (i := 7) rfl)) (hw _ (List.mem_of_getElem? (i := 8) rfl)) (by decide) 0 (by decide) (by decide) rfl [(.ref b1), (.ref b2)] rfl pd_2 rfl rfl (Nat.le_of_eq rfl) 3 0 rfl rfl (by decide) (by decide) 34 rfl ?_
    rintro _ T7 h7 X7 ⟨a7, rfl, H7⟩
    replace H7 : OL n0 h7 ((a7, OA Z .boolean []) :: (b1, OA Z .boolean []) :: (b2, OA Z .boolean []) :: []) := H7
    show OE p e room_1 below s n0 Q' T7 (mkF m 34 #[.val (.int xl), .val (.int xx), .val (.int xy), .val (.int (0 : Int32)), .val (.ref b1), .val (.ref b2), .unset, .unset] [(.ref a7)])
    refine o_astore X7 at_34 rfl #[.val (.int xl), .val (.int xx), .val (.int xy), .val (.int (0 : Int32)), .val (.ref b1), .val (.ref b2), .val (.ref a7), .unset] rfl 36 rfl ?_
    refine o_aload X7 at_36 rfl rfl 38 rfl ?_
    refine o_ifnullR X7 at_38 41 rfl ?_
    refine o_aload X7 at_41 rfl rfl 43 rfl ?_
    refine o_arraylength X7 H7 0 rfl at_43 (0 : Int32) rfl 44 rfl ?_
    refine o_iloadN X7 at_44 rfl 45 rfl ?_
    refine o_icmpEq X7 at_45 50 48 (by decide) (by decide) rfl ?_ (fun q => by exfalso; exact absurd q (by decide))
    intro hc45
    refine o_aload X7 at_50 rfl rfl 52 rfl ?_
    refine o_aload X7 at_52 rfl rfl 54 rfl ?_
    refine o_acmpEqN X7 at_54 (H7.ne (i := 0) (j := 1) rfl rfl (by decide)) 57 rfl ?_
    refine o_aload X7 at_57 rfl rfl 59 rfl ?_
    refine o_aload X7 at_59 rfl rfl 61 rfl ?_
    refine o_acmpNeY X7 at_61 (H7.ne (i := 0) (j := 2) rfl rfl (by decide)) 66 (by decide) (by decide) ?_
    refine o_aload X7 at_66 rfl rfl 68 rfl ?_
    refine o_iconst (v := (0 : Int32)) X7 at_68 rfl 69 rfl ?_
    refine o_iloadN X7 at_69 rfl 70 rfl ?_
    refine o_iconst (v := (0 : Int32)) X7 at_70 rfl 71 rfl ?_
    refine o_callS X7 at_71 (rest := [(.int (0 : Int32)), (.ref a7)]) (c_bit l Z a0 hw [] n0 _ X7.size xx (0 : Int32) ) (hw _ (List.mem_of_getElem? (i := 9) rfl)) (hw _ (List.mem_of_getElem? (i := 10) rfl)) (hw _ (List.mem_of_getElem? (i := 3) rfl)) (hw _ (List.mem_of_getElem? (i := 11) rfl)) (by decide) 2 (by decide) (by decide) rfl [(.int xx), (.int (0 : Int32))] rfl pd_3 rfl rfl (Nat.le_of_eq rfl) 3 0 rfl rfl (by decide) (by decide) 74 rfl ?_
    rintro _ T9 _ X9 ⟨rfl, rfl⟩
    show OE p e room_1 below s n0 Q' T9 (mkF m 74 #[.val (.int xl), .val (.int xx), .val (.int xy), .val (.int (0 : Int32)), .val (.ref b1), .val (.ref b2), .val (.ref a7), .unset] [(.int (f_bit xx (0 : Int32))), (.int (0 : Int32)), (.ref a7)])
    refine o_callS X9 at_74 (rest := []) (c_at l Z a0 hw [] n0 _ X9.size a7 (0 : Int32) (f_bit xx (0 : Int32)) [] ((b1, OA Z .boolean []) :: (b2, OA Z .boolean []) :: []) H7 0 rfl (Or.inl (by show 0 ≤ 0; decide))) (hw _ (List.mem_of_getElem? (i := 12) rfl)) (hw _ (List.mem_of_getElem? (i := 13) rfl)) (hw _ (List.mem_of_getElem? (i := 3) rfl)) (hw _ (List.mem_of_getElem? (i := 14) rfl)) (by decide) 0 (by decide) (by decide) rfl [(.ref a7), (.int (0 : Int32)), (.int (f_bit xx (0 : Int32)))] rfl pd_4 rfl rfl (Nat.le_of_eq rfl) 3 0 rfl rfl (by decide) (by decide) 77 rfl ?_
    rintro _ T10 _ X10 ⟨rfl, rfl⟩
    show OE p e room_1 below s n0 Q' T10 (mkF m 77 #[.val (.int xl), .val (.int xx), .val (.int xy), .val (.int (0 : Int32)), .val (.ref b1), .val (.ref b2), .val (.ref a7), .unset] [(.int (1 : Int32))])
    refine o_ifEq X10 at_77 170 80 (by decide) (by decide) rfl (fun q => by exfalso; exact absurd q (by decide)) ?_
    intro hc77
    refine o_aload X10 at_80 rfl rfl 82 rfl ?_
    refine o_iconst (v := (1 : Int32)) X10 at_82 rfl 83 rfl ?_
    refine o_iloadN X10 at_83 rfl 84 rfl ?_
    refine o_iconst (v := (1 : Int32)) X10 at_84 rfl 85 rfl ?_
    refine o_callS X10 at_85 (rest := [(.int (1 : Int32)), (.ref a7)]) (c_bit l Z a0 hw [] n0 _ X10.size xy (1 : Int32) ) (hw _ (List.mem_of_getElem? (i := 9) rfl)) (hw _ (List.mem_of_getElem? (i := 10) rfl)) (hw _ (List.mem_of_getElem? (i := 3) rfl)) (hw _ (List.mem_of_getElem? (i := 11) rfl)) (by decide) 2 (by decide) (by decide) rfl [(.int xy), (.int (1 : Int32))] rfl pd_3 rfl rfl (Nat.le_of_eq rfl) 3 0 rfl rfl (by decide) (by decide) 88 rfl ?_
    rintro _ T11 _ X11 ⟨rfl, rfl⟩
    show OE p e room_1 below s n0 Q' T11 (mkF m 88 #[.val (.int xl), .val (.int xx), .val (.int xy), .val (.int (0 : Int32)), .val (.ref b1), .val (.ref b2), .val (.ref a7), .unset] [(.int (f_bit xy (1 : Int32))), (.int (1 : Int32)), (.ref a7)])
    refine o_callS X11 at_88 (rest := []) (c_at l Z a0 hw [] n0 _ X11.size a7 (1 : Int32) (f_bit xy (1 : Int32)) [] ((b1, OA Z .boolean []) :: (b2, OA Z .boolean []) :: []) H7 1 rfl (Or.inl (by show 0 ≤ 1; decide))) (hw _ (List.mem_of_getElem? (i := 12) rfl)) (hw _ (List.mem_of_getElem? (i := 13) rfl)) (hw _ (List.mem_of_getElem? (i := 3) rfl)) (hw _ (List.mem_of_getElem? (i := 14) rfl)) (by decide) 0 (by decide) (by decide) rfl [(.ref a7), (.int (1 : Int32)), (.int (f_bit xy (1 : Int32)))] rfl pd_4 rfl rfl (Nat.le_of_eq rfl) 3 0 rfl rfl (by decide) (by decide) 91 rfl ?_
    rintro _ T12 _ X12 ⟨rfl, rfl⟩
    show OE p e room_1 below s n0 Q' T12 (mkF m 91 #[.val (.int xl), .val (.int xx), .val (.int xy), .val (.int (0 : Int32)), .val (.ref b1), .val (.ref b2), .val (.ref a7), .unset] [(.int (1 : Int32))])
    refine o_ifEq X12 at_91 170 94 (by decide) (by decide) rfl (fun q => by exfalso; exact absurd q (by decide)) ?_
    intro hc91
    refine o_aload X12 at_94 rfl rfl 96 rfl ?_
    refine o_iconst (v := (2 : Int32)) X12 at_96 rfl 97 rfl ?_
    refine o_iloadN X12 at_97 rfl 98 rfl ?_
    refine o_iconst (v := (2 : Int32)) X12 at_98 rfl 99 rfl ?_
    refine o_callS X12 at_99 (rest := [(.int (2 : Int32)), (.ref a7)]) (c_bit l Z a0 hw [] n0 _ X12.size xx (2 : Int32) ) (hw _ (List.mem_of_getElem? (i := 9) rfl)) (hw _ (List.mem_of_getElem? (i := 10) rfl)) (hw _ (List.mem_of_getElem? (i := 3) rfl)) (hw _ (List.mem_of_getElem? (i := 11) rfl)) (by decide) 2 (by decide) (by decide) rfl [(.int xx), (.int (2 : Int32))] rfl pd_3 rfl rfl (Nat.le_of_eq rfl) 3 0 rfl rfl (by decide) (by decide) 102 rfl ?_
    rintro _ T13 _ X13 ⟨rfl, rfl⟩
    show OE p e room_1 below s n0 Q' T13 (mkF m 102 #[.val (.int xl), .val (.int xx), .val (.int xy), .val (.int (0 : Int32)), .val (.ref b1), .val (.ref b2), .val (.ref a7), .unset] [(.int (f_bit xx (2 : Int32))), (.int (2 : Int32)), (.ref a7)])
    refine o_callS X13 at_102 (rest := []) (c_at l Z a0 hw [] n0 _ X13.size a7 (2 : Int32) (f_bit xx (2 : Int32)) [] ((b1, OA Z .boolean []) :: (b2, OA Z .boolean []) :: []) H7 2 rfl (Or.inl (by show 0 ≤ 2; decide))) (hw _ (List.mem_of_getElem? (i := 12) rfl)) (hw _ (List.mem_of_getElem? (i := 13) rfl)) (hw _ (List.mem_of_getElem? (i := 3) rfl)) (hw _ (List.mem_of_getElem? (i := 14) rfl)) (by decide) 0 (by decide) (by decide) rfl [(.ref a7), (.int (2 : Int32)), (.int (f_bit xx (2 : Int32)))] rfl pd_4 rfl rfl (Nat.le_of_eq rfl) 3 0 rfl rfl (by decide) (by decide) 105 rfl ?_
    rintro _ T14 _ X14 ⟨rfl, rfl⟩
    show OE p e room_1 below s n0 Q' T14 (mkF m 105 #[.val (.int xl), .val (.int xx), .val (.int xy), .val (.int (0 : Int32)), .val (.ref b1), .val (.ref b2), .val (.ref a7), .unset] [(.int (1 : Int32))])
    refine o_ifEq X14 at_105 170 108 (by decide) (by decide) rfl (fun q => by exfalso; exact absurd q (by decide)) ?_
    intro hc105
    refine o_aload X14 at_108 rfl rfl 110 rfl ?_
    refine o_iconst (v := (3 : Int32)) X14 at_110 rfl 111 rfl ?_
    refine o_iloadN X14 at_111 rfl 112 rfl ?_
    refine o_iconst (v := (3 : Int32)) X14 at_112 rfl 113 rfl ?_
    refine o_callS X14 at_113 (rest := [(.int (3 : Int32)), (.ref a7)]) (c_bit l Z a0 hw [] n0 _ X14.size xy (3 : Int32) ) (hw _ (List.mem_of_getElem? (i := 9) rfl)) (hw _ (List.mem_of_getElem? (i := 10) rfl)) (hw _ (List.mem_of_getElem? (i := 3) rfl)) (hw _ (List.mem_of_getElem? (i := 11) rfl)) (by decide) 2 (by decide) (by decide) rfl [(.int xy), (.int (3 : Int32))] rfl pd_3 rfl rfl (Nat.le_of_eq rfl) 3 0 rfl rfl (by decide) (by decide) 116 rfl ?_
    rintro _ T15 _ X15 ⟨rfl, rfl⟩
    show OE p e room_1 below s n0 Q' T15 (mkF m 116 #[.val (.int xl), .val (.int xx), .val (.int xy), .val (.int (0 : Int32)), .val (.ref b1), .val (.ref b2), .val (.ref a7), .unset] [(.int (f_bit xy (3 : Int32))), (.int (3 : Int32)), (.ref a7)])
    refine o_callS X15 at_116 (rest := []) (c_at l Z a0 hw [] n0 _ X15.size a7 (3 : Int32) (f_bit xy (3 : Int32)) [] ((b1, OA Z .boolean []) :: (b2, OA Z .boolean []) :: []) H7 3 rfl (Or.inl (by show 0 ≤ 3; decide))) (hw _ (List.mem_of_getElem? (i := 12) rfl)) (hw _ (List.mem_of_getElem? (i := 13) rfl)) (hw _ (List.mem_of_getElem? (i := 3) rfl)) (hw _ (List.mem_of_getElem? (i := 14) rfl)) (by decide) 0 (by decide) (by decide) rfl [(.ref a7), (.int (3 : Int32)), (.int (f_bit xy (3 : Int32)))] rfl pd_4 rfl rfl (Nat.le_of_eq rfl) 3 0 rfl rfl (by decide) (by decide) 119 rfl ?_
    rintro _ T16 _ X16 ⟨rfl, rfl⟩
    show OE p e room_1 below s n0 Q' T16 (mkF m 119 #[.val (.int xl), .val (.int xx), .val (.int xy), .val (.int (0 : Int32)), .val (.ref b1), .val (.ref b2), .val (.ref a7), .unset] [(.int (1 : Int32))])
    refine o_ifEq X16 at_119 170 122 (by decide) (by decide) rfl (fun q => by exfalso; exact absurd q (by decide)) ?_
    intro hc119
    refine o_aload X16 at_122 rfl rfl 124 rfl ?_
    refine o_iconst (v := (4 : Int32)) X16 at_124 rfl 125 rfl ?_
    refine o_iloadN X16 at_125 rfl 126 rfl ?_
    refine o_iconst (v := (4 : Int32)) X16 at_126 rfl 127 rfl ?_
    refine o_callS X16 at_127 (rest := [(.int (4 : Int32)), (.ref a7)]) (c_bit l Z a0 hw [] n0 _ X16.size xx (4 : Int32) ) (hw _ (List.mem_of_getElem? (i := 9) rfl)) (hw _ (List.mem_of_getElem? (i := 10) rfl)) (hw _ (List.mem_of_getElem? (i := 3) rfl)) (hw _ (List.mem_of_getElem? (i := 11) rfl)) (by decide) 2 (by decide) (by decide) rfl [(.int xx), (.int (4 : Int32))] rfl pd_3 rfl rfl (Nat.le_of_eq rfl) 3 0 rfl rfl (by decide) (by decide) 130 rfl ?_
    rintro _ T17 _ X17 ⟨rfl, rfl⟩
    show OE p e room_1 below s n0 Q' T17 (mkF m 130 #[.val (.int xl), .val (.int xx), .val (.int xy), .val (.int (0 : Int32)), .val (.ref b1), .val (.ref b2), .val (.ref a7), .unset] [(.int (f_bit xx (4 : Int32))), (.int (4 : Int32)), (.ref a7)])
    refine o_callS X17 at_130 (rest := []) (c_at l Z a0 hw [] n0 _ X17.size a7 (4 : Int32) (f_bit xx (4 : Int32)) [] ((b1, OA Z .boolean []) :: (b2, OA Z .boolean []) :: []) H7 4 rfl (Or.inl (by show 0 ≤ 4; decide))) (hw _ (List.mem_of_getElem? (i := 12) rfl)) (hw _ (List.mem_of_getElem? (i := 13) rfl)) (hw _ (List.mem_of_getElem? (i := 3) rfl)) (hw _ (List.mem_of_getElem? (i := 14) rfl)) (by decide) 0 (by decide) (by decide) rfl [(.ref a7), (.int (4 : Int32)), (.int (f_bit xx (4 : Int32)))] rfl pd_4 rfl rfl (Nat.le_of_eq rfl) 3 0 rfl rfl (by decide) (by decide) 133 rfl ?_
    rintro _ T18 _ X18 ⟨rfl, rfl⟩
    show OE p e room_1 below s n0 Q' T18 (mkF m 133 #[.val (.int xl), .val (.int xx), .val (.int xy), .val (.int (0 : Int32)), .val (.ref b1), .val (.ref b2), .val (.ref a7), .unset] [(.int (1 : Int32))])
    refine o_ifEq X18 at_133 170 136 (by decide) (by decide) rfl (fun q => by exfalso; exact absurd q (by decide)) ?_
    intro hc133
    refine o_aload X18 at_136 rfl rfl 138 rfl ?_
    refine o_iconst (v := (5 : Int32)) X18 at_138 rfl 139 rfl ?_
    refine o_iloadN X18 at_139 rfl 140 rfl ?_
    refine o_iconst (v := (5 : Int32)) X18 at_140 rfl 141 rfl ?_
    refine o_callS X18 at_141 (rest := [(.int (5 : Int32)), (.ref a7)]) (c_bit l Z a0 hw [] n0 _ X18.size xy (5 : Int32) ) (hw _ (List.mem_of_getElem? (i := 9) rfl)) (hw _ (List.mem_of_getElem? (i := 10) rfl)) (hw _ (List.mem_of_getElem? (i := 3) rfl)) (hw _ (List.mem_of_getElem? (i := 11) rfl)) (by decide) 2 (by decide) (by decide) rfl [(.int xy), (.int (5 : Int32))] rfl pd_3 rfl rfl (Nat.le_of_eq rfl) 3 0 rfl rfl (by decide) (by decide) 144 rfl ?_
    rintro _ T19 _ X19 ⟨rfl, rfl⟩
    show OE p e room_1 below s n0 Q' T19 (mkF m 144 #[.val (.int xl), .val (.int xx), .val (.int xy), .val (.int (0 : Int32)), .val (.ref b1), .val (.ref b2), .val (.ref a7), .unset] [(.int (f_bit xy (5 : Int32))), (.int (5 : Int32)), (.ref a7)])
    refine o_callS X19 at_144 (rest := []) (c_at l Z a0 hw [] n0 _ X19.size a7 (5 : Int32) (f_bit xy (5 : Int32)) [] ((b1, OA Z .boolean []) :: (b2, OA Z .boolean []) :: []) H7 5 rfl (Or.inl (by show 0 ≤ 5; decide))) (hw _ (List.mem_of_getElem? (i := 12) rfl)) (hw _ (List.mem_of_getElem? (i := 13) rfl)) (hw _ (List.mem_of_getElem? (i := 3) rfl)) (hw _ (List.mem_of_getElem? (i := 14) rfl)) (by decide) 0 (by decide) (by decide) rfl [(.ref a7), (.int (5 : Int32)), (.int (f_bit xy (5 : Int32)))] rfl pd_4 rfl rfl (Nat.le_of_eq rfl) 3 0 rfl rfl (by decide) (by decide) 147 rfl ?_
    rintro _ T20 _ X20 ⟨rfl, rfl⟩
    show OE p e room_1 below s n0 Q' T20 (mkF m 147 #[.val (.int xl), .val (.int xx), .val (.int xy), .val (.int (0 : Int32)), .val (.ref b1), .val (.ref b2), .val (.ref a7), .unset] [(.int (1 : Int32))])
    refine o_ifEq X20 at_147 170 150 (by decide) (by decide) rfl (fun q => by exfalso; exact absurd q (by decide)) ?_
    intro hc147
    refine o_aload X20 at_150 rfl rfl 152 rfl ?_
    refine o_bipush (v := (6 : Int32)) X20 at_152 rfl 154 rfl ?_
    refine o_iloadN X20 at_154 rfl 155 rfl ?_
    refine o_bipush (v := (6 : Int32)) X20 at_155 rfl 157 rfl ?_
    refine o_callS X20 at_157 (rest := [(.int (6 : Int32)), (.ref a7)]) (c_bit l Z a0 hw [] n0 _ X20.size xx (6 : Int32) ) (hw _ (List.mem_of_getElem? (i := 9) rfl)) (hw _ (List.mem_of_getElem? (i := 10) rfl)) (hw _ (List.mem_of_getElem? (i := 3) rfl)) (hw _ (List.mem_of_getElem? (i := 11) rfl)) (by decide) 2 (by decide) (by decide) rfl [(.int xx), (.int (6 : Int32))] rfl pd_3 rfl rfl (Nat.le_of_eq rfl) 3 0 rfl rfl (by decide) (by decide) 160 rfl ?_
    rintro _ T21 _ X21 ⟨rfl, rfl⟩
    show OE p e room_1 below s n0 Q' T21 (mkF m 160 #[.val (.int xl), .val (.int xx), .val (.int xy), .val (.int (0 : Int32)), .val (.ref b1), .val (.ref b2), .val (.ref a7), .unset] [(.int (f_bit xx (6 : Int32))), (.int (6 : Int32)), (.ref a7)])
    refine o_callS X21 at_160 (rest := []) (c_at l Z a0 hw [] n0 _ X21.size a7 (6 : Int32) (f_bit xx (6 : Int32)) [] ((b1, OA Z .boolean []) :: (b2, OA Z .boolean []) :: []) H7 6 rfl (Or.inl (by show 0 ≤ 6; decide))) (hw _ (List.mem_of_getElem? (i := 12) rfl)) (hw _ (List.mem_of_getElem? (i := 13) rfl)) (hw _ (List.mem_of_getElem? (i := 3) rfl)) (hw _ (List.mem_of_getElem? (i := 14) rfl)) (by decide) 0 (by decide) (by decide) rfl [(.ref a7), (.int (6 : Int32)), (.int (f_bit xx (6 : Int32)))] rfl pd_4 rfl rfl (Nat.le_of_eq rfl) 3 0 rfl rfl (by decide) (by decide) 163 rfl ?_
    rintro _ T22 _ X22 ⟨rfl, rfl⟩
    show OE p e room_1 below s n0 Q' T22 (mkF m 163 #[.val (.int xl), .val (.int xx), .val (.int xy), .val (.int (0 : Int32)), .val (.ref b1), .val (.ref b2), .val (.ref a7), .unset] [(.int (1 : Int32))])
    refine o_ifEq X22 at_163 170 166 (by decide) (by decide) rfl (fun q => by exfalso; exact absurd q (by decide)) ?_
    intro hc163
    refine o_iconst (v := (1 : Int32)) X22 at_166 rfl 167 rfl ?_
    refine o_goto X22 at_167 171 (by decide) (by decide) ?_
    refine o_istore X22 at_171 #[.val (.int xl), .val (.int xx), .val (.int xy), .val (.int (0 : Int32)), .val (.ref b1), .val (.ref b2), .val (.ref a7), .val (.int (1 : Int32))] rfl 173 rfl ?_
    refine o_iload X22 at_173 rfl 175 rfl ?_
    refine o_ifEq X22 at_175 200 178 (by decide) (by decide) rfl (fun q => by exfalso; exact absurd q (by decide)) ?_
    intro hc175
    refine o_aload X22 at_178 rfl rfl 180 rfl ?_
    refine o_iloadN X22 at_180 rfl 181 rfl ?_
    have H24 : OL n0 h7 ((b1, OA Z .boolean []) :: (a7, OA Z .boolean []) :: (b2, OA Z .boolean []) :: []) := H7.front 1 rfl
    refine o_callS X22 at_181 (rest := []) (c_same0 l Z a0 hw [] n0 _ X22.size b1 xx ((a7, OA Z .boolean []) :: (b2, OA Z .boolean []) :: []) H24) (hw _ (List.mem_of_getElem? (i := 15) rfl)) (hw _ (List.mem_of_getElem? (i := 16) rfl)) (hw _ (List.mem_of_getElem? (i := 3) rfl)) (hw _ (List.mem_of_getElem? (i := 17) rfl)) (by decide) 0 (by decide) (by decide) rfl [(.ref b1), (.int xx)] rfl pd_5 rfl rfl (Nat.le_of_eq rfl) 3 0 rfl rfl (by decide) (by decide) 184 rfl ?_
    rintro _ T23 _ X23 ⟨rfl, rfl⟩
    show OE p e room_1 below s n0 Q' T23 (mkF m 184 #[.val (.int xl), .val (.int xx), .val (.int xy), .val (.int (0 : Int32)), .val (.ref b1), .val (.ref b2), .val (.ref a7), .val (.int (1 : Int32))] [(.int (1 : Int32))])
    refine o_ifEq X23 at_184 200 187 (by decide) (by decide) rfl (fun q => by exfalso; exact absurd q (by decide)) ?_
    intro hc184
    refine o_aload X23 at_187 rfl rfl 189 rfl ?_
    refine o_iloadN X23 at_189 rfl 190 rfl ?_
    have H26 : OL n0 h7 ((b2, OA Z .boolean []) :: (b1, OA Z .boolean []) :: (a7, OA Z .boolean []) :: []) := H24.front 2 rfl
    refine o_callS X23 at_190 (rest := []) (c_same0 l Z a0 hw [] n0 _ X23.size b2 xy ((b1, OA Z .boolean []) :: (a7, OA Z .boolean []) :: []) H26) (hw _ (List.mem_of_getElem? (i := 15) rfl)) (hw _ (List.mem_of_getElem? (i := 16) rfl)) (hw _ (List.mem_of_getElem? (i := 3) rfl)) (hw _ (List.mem_of_getElem? (i := 17) rfl)) (by decide) 0 (by decide) (by decide) rfl [(.ref b2), (.int xy)] rfl pd_5 rfl rfl (Nat.le_of_eq rfl) 3 0 rfl rfl (by decide) (by decide) 193 rfl ?_
    rintro _ T25 _ X25 ⟨rfl, rfl⟩
    show OE p e room_1 below s n0 Q' T25 (mkF m 193 #[.val (.int xl), .val (.int xx), .val (.int xy), .val (.int (0 : Int32)), .val (.ref b1), .val (.ref b2), .val (.ref a7), .val (.int (1 : Int32))] [(.int (1 : Int32))])
    refine o_ifEq X25 at_193 200 196 (by decide) (by decide) rfl (fun q => by exfalso; exact absurd q (by decide)) ?_
    intro hc193
    refine o_iconst (v := (1 : Int32)) X25 at_196 rfl 197 rfl ?_
    refine o_goto X25 at_197 201 (by decide) (by decide) ?_
    exact o_retZ X25 at_201 (by decide) (by decide) (hQ _ _ rfl)
  · rw [hv]
    refine o_iloadN X0 at_5 rfl 6 rfl ?_
    refine o_newarray (L := []) X0 OL.nil at_6 (hw _ (List.mem_of_getElem? (i := 0) rfl)) rfl rfl 1 1 rfl (by decide) (by decide) 1 1 rfl rfl (by decide) (by decide) 8 rfl ?_
    intro T27 h27 b27 X27 H27
    replace H27 : OL n0 h27 ((b27, OA Z .boolean [(0 : Int32)]) :: []) := H27
    refine o_astore X27 at_8 rfl #[.val (.int xl), .val (.int xx), .val (.int xy), .val (.int (1 : Int32)), .val (.ref b27), .unset, .unset, .unset] rfl 10 rfl ?_
    refine o_iloadN X27 at_10 rfl 11 rfl ?_
    refine o_newarray (L := ((b27, OA Z .boolean [(0 : Int32)]) :: [])) X27 H27 at_11 (hw _ (List.mem_of_getElem? (i := 0) rfl)) rfl rfl 1 1 rfl (by decide) (by decide) 2 2 rfl rfl (by decide) (by decide) 13 rfl ?_
    intro T28 h28 b28 X28 H28
    replace H28 : OL n0 h28 ((b28, OA Z .boolean [(0 : Int32)]) :: (b27, OA Z .boolean [(0 : Int32)]) :: []) := H28
    refine o_astore X28 at_13 rfl #[.val (.int xl), .val (.int xx), .val (.int xy), .val (.int (1 : Int32)), .val (.ref b27), .val (.ref b28), .unset, .unset] rfl 15 rfl ?_
    refine o_aload X28 at_15 rfl rfl 17 rfl ?_
    refine o_iloadN X28 at_17 rfl 18 rfl ?_
    have H30 : OL n0 h28 ((b27, OA Z .boolean [(0 : Int32)]) :: (b28, OA Z .boolean [(0 : Int32)]) :: []) := H28.front 1 rfl
    refine o_callS X28 at_18 (rest := []) (c_fill1 l Z a0 hw [] n0 _ X28.size b27 xx ((b28, OA Z .boolean [(0 : Int32)]) :: []) H30) (hw _ (List.mem_of_getElem? (i := 1) rfl)) (hw _ (List.mem_of_getElem? (i := 2) rfl)) (hw _ (List.mem_of_getElem? (i := 3) rfl)) (hw _ (List.mem_of_getElem? (i := 4) rfl)) (by decide) 0 (by decide) (by decide) rfl [(.ref b27), (.int xx)] rfl pd_1 rfl rfl (Nat.le_of_eq rfl) 2 2 rfl rfl (by decide) (by decide) 21 rfl ?_
    rintro _ T29 h29 X29 ⟨rfl, H29⟩
    replace H29 : OL n0 h29 ((b27, OA Z .boolean [(f_bit xx (0 : Int32))]) :: (b28, OA Z .boolean [(0 : Int32)]) :: []) := H29
    show OE p e room_1 below s n0 Q' T29 (mkF m 21 #[.val (.int xl), .val (.int xx), .val (.int xy), .val (.int (1 : Int32)), .val (.ref b27), .val (.ref b28), .unset, .unset] [])
    refine o_aload X29 at_21 rfl rfl 23 rfl ?_
    refine o_iloadN X29 at_23 rfl 24 rfl ?_
    have H32 : OL n0 h29 ((b28, OA Z .boolean [(0 : Int32)]) :: (b27, OA Z .boolean [(f_bit xx (0 : Int32))]) :: []) := H29.front 1 rfl
    refine o_callS X29 at_24 (rest := []) (c_fill1 l Z a0 hw [] n0 _ X29.size b28 xy ((b27, OA Z .boolean [(f_bit xx (0 : Int32))]) :: []) H32) (hw _ (List.mem_of_getElem? (i := 1) rfl)) (hw _ (List.mem_of_getElem? (i := 2) rfl)) (hw _ (List.mem_of_getElem? (i := 3) rfl)) (hw _ (List.mem_of_getElem? (i := 4) rfl)) (by decide) 0 (by decide) (by decide) rfl [(.ref b28), (.int xy)] rfl pd_1 rfl rfl (Nat.le_of_eq rfl) 2 2 rfl rfl (by decide) (by decide) 27 rfl ?_
    rintro _ T31 h31 X31 ⟨rfl, H31⟩
    replace H31 : OL n0 h31 ((b28, OA Z .boolean [(f_bit xy (0 : Int32))]) :: (b27, OA Z .boolean [(f_bit xx (0 : Int32))]) :: []) := H31
    show OE p e room_1 below s n0 Q' T31 (mkF m 27 #[.val (.int xl), .val (.int xx), .val (.int xy), .val (.int (1 : Int32)), .val (.ref b27), .val (.ref b28), .unset, .unset] [])
    refine o_aload X31 at_27 rfl rfl 29 rfl ?_
    refine o_aload X31 at_29 rfl rfl 31 rfl ?_
    have H34 : OL n0 h31 ((b27, OA Z .boolean [(f_bit xx (0 : Int32))]) :: (b28, OA Z .boolean [(f_bit xy (0 : Int32))]) :: []) := H31.front 1 rfl
    refine o_callS X31 at_31 (rest := []) (c_comb1 l Z a0 hw [] n0 _ X31.size b27 b28 xx xy [] H34) (hw _ (List.mem_of_getElem? (i := 5) rfl)) (hw _ (List.mem_of_getElem? (i := 6) rfl)) (hw _ (List.mem_of_getElem? (i := 7) rfl)) (hw _ (List.mem_of_getElem? (i := 8) rfl)) (by decide) 0 (by decide) (by decide) rfl [(.ref b27), (.ref b28)] rfl pd_2 rfl rfl (Nat.le_of_eq rfl) 3 3 rfl rfl (by decide) (by decide) 34 rfl ?_
    rintro _ T33 h33 X33 ⟨a33, rfl, H33⟩
    replace H33 : OL n0 h33 ((a33, OA Z .boolean [(f_bit xx (0 : Int32))]) :: (b27, OA Z .boolean [(f_bit xx (0 : Int32))]) :: (b28, OA Z .boolean [(f_bit xy (0 : Int32))]) :: []) := H33
    show OE p e room_1 below s n0 Q' T33 (mkF m 34 #[.val (.int xl), .val (.int xx), .val (.int xy), .val (.int (1 : Int32)), .val (.ref b27), .val (.ref b28), .unset, .unset] [(.ref a33)])
    refine o_astore X33 at_34 rfl #[.val (.int xl), .val (.int xx), .val (.int xy), .val (.int (1 : Int32)), .val (.ref b27), .val (.ref b28), .val (.ref a33), .unset] rfl 36 rfl ?_
    refine o_aload X33 at_36 rfl rfl 38 rfl ?_
    refine o_ifnullR X33 at_38 41 rfl ?_
    refine o_aload X33 at_41 rfl rfl 43 rfl ?_
    refine o_arraylength X33 H33 0 rfl at_43 (1 : Int32) rfl 44 rfl ?_
    refine o_iloadN X33 at_44 rfl 45 rfl ?_
    refine o_icmpEq X33 at_45 50 48 (by decide) (by decide) rfl ?_ (fun q => by exfalso; exact absurd q (by decide))
    intro hc45
    refine o_aload X33 at_50 rfl rfl 52 rfl ?_
    refine o_aload X33 at_52 rfl rfl 54 rfl ?_
    refine o_acmpEqN X33 at_54 (H33.ne (i := 0) (j := 1) rfl rfl (by decide)) 57 rfl ?_
    refine o_aload X33 at_57 rfl rfl 59 rfl ?_
    refine o_aload X33 at_59 rfl rfl 61 rfl ?_
    refine o_acmpNeY X33 at_61 (H33.ne (i := 0) (j := 2) rfl rfl (by decide)) 66 (by decide) (by decide) ?_
    refine o_aload X33 at_66 rfl rfl 68 rfl ?_
    refine o_iconst (v := (0 : Int32)) X33 at_68 rfl 69 rfl ?_
    refine o_iloadN X33 at_69 rfl 70 rfl ?_
    refine o_iconst (v := (0 : Int32)) X33 at_70 rfl 71 rfl ?_
    refine o_callS X33 at_71 (rest := [(.int (0 : Int32)), (.ref a33)]) (c_bit l Z a0 hw [] n0 _ X33.size xx (0 : Int32) ) (hw _ (List.mem_of_getElem? (i := 9) rfl)) (hw _ (List.mem_of_getElem? (i := 10) rfl)) (hw _ (List.mem_of_getElem? (i := 3) rfl)) (hw _ (List.mem_of_getElem? (i := 11) rfl)) (by decide) 2 (by decide) (by decide) rfl [(.int xx), (.int (0 : Int32))] rfl pd_3 rfl rfl (Nat.le_of_eq rfl) 3 3 rfl rfl (by decide) (by decide) 74 rfl ?_
    rintro _ T35 _ X35 ⟨rfl, rfl⟩
    show OE p e room_1 below s n0 Q' T35 (mkF m 74 #[.val (.int xl), .val (.int xx), .val (.int xy), .val (.int (1 : Int32)), .val (.ref b27), .val (.ref b28), .val (.ref a33), .unset] [(.int (f_bit xx (0 : Int32))), (.int (0 : Int32)), (.ref a33)])
    refine o_callS X35 at_74 (rest := []) (c_at l Z a0 hw [] n0 _ X35.size a33 (0 : Int32) (f_bit xx (0 : Int32)) [(f_bit xx (0 : Int32))] ((b27, OA Z .boolean [(f_bit xx (0 : Int32))]) :: (b28, OA Z .boolean [(f_bit xy (0 : Int32))]) :: []) H33 0 rfl (Or.inr rfl)) (hw _ (List.mem_of_getElem? (i := 12) rfl)) (hw _ (List.mem_of_getElem? (i := 13) rfl)) (hw _ (List.mem_of_getElem? (i := 3) rfl)) (hw _ (List.mem_of_getElem? (i := 14) rfl)) (by decide) 0 (by decide) (by decide) rfl [(.ref a33), (.int (0 : Int32)), (.int (f_bit xx (0 : Int32)))] rfl pd_4 rfl rfl (Nat.le_of_eq rfl) 3 3 rfl rfl (by decide) (by decide) 77 rfl ?_
    rintro _ T36 _ X36 ⟨rfl, rfl⟩
    show OE p e room_1 below s n0 Q' T36 (mkF m 77 #[.val (.int xl), .val (.int xx), .val (.int xy), .val (.int (1 : Int32)), .val (.ref b27), .val (.ref b28), .val (.ref a33), .unset] [(.int (1 : Int32))])
    refine o_ifEq X36 at_77 170 80 (by decide) (by decide) rfl (fun q => by exfalso; exact absurd q (by decide)) ?_
    intro hc77
    refine o_aload X36 at_80 rfl rfl 82 rfl ?_
    refine o_iconst (v := (1 : Int32)) X36 at_82 rfl 83 rfl ?_
    refine o_iloadN X36 at_83 rfl 84 rfl ?_
    refine o_iconst (v := (1 : Int32)) X36 at_84 rfl 85 rfl ?_
    refine o_callS X36 at_85 (rest := [(.int (1 : Int32)), (.ref a33)]) (c_bit l Z a0 hw [] n0 _ X36.size xy (1 : Int32) ) (hw _ (List.mem_of_getElem? (i := 9) rfl)) (hw _ (List.mem_of_getElem? (i := 10) rfl)) (hw _ (List.mem_of_getElem? (i := 3) rfl)) (hw _ (List.mem_of_getElem? (i := 11) rfl)) (by decide) 2 (by decide) (by decide) rfl [(.int xy), (.int (1 : Int32))] rfl pd_3 rfl rfl (Nat.le_of_eq rfl) 3 3 rfl rfl (by decide) (by decide) 88 rfl ?_
    rintro _ T37 _ X37 ⟨rfl, rfl⟩
    show OE p e room_1 below s n0 Q' T37 (mkF m 88 #[.val (.int xl), .val (.int xx), .val (.int xy), .val (.int (1 : Int32)), .val (.ref b27), .val (.ref b28), .val (.ref a33), .unset] [(.int (f_bit xy (1 : Int32))), (.int (1 : Int32)), (.ref a33)])
    refine o_callS X37 at_88 (rest := []) (c_at l Z a0 hw [] n0 _ X37.size a33 (1 : Int32) (f_bit xy (1 : Int32)) [(f_bit xx (0 : Int32))] ((b27, OA Z .boolean [(f_bit xx (0 : Int32))]) :: (b28, OA Z .boolean [(f_bit xy (0 : Int32))]) :: []) H33 1 rfl (Or.inl (by show 1 ≤ 1; decide))) (hw _ (List.mem_of_getElem? (i := 12) rfl)) (hw _ (List.mem_of_getElem? (i := 13) rfl)) (hw _ (List.mem_of_getElem? (i := 3) rfl)) (hw _ (List.mem_of_getElem? (i := 14) rfl)) (by decide) 0 (by decide) (by decide) rfl [(.ref a33), (.int (1 : Int32)), (.int (f_bit xy (1 : Int32)))] rfl pd_4 rfl rfl (Nat.le_of_eq rfl) 3 3 rfl rfl (by decide) (by decide) 91 rfl ?_
    rintro _ T38 _ X38 ⟨rfl, rfl⟩
    show OE p e room_1 below s n0 Q' T38 (mkF m 91 #[.val (.int xl), .val (.int xx), .val (.int xy), .val (.int (1 : Int32)), .val (.ref b27), .val (.ref b28), .val (.ref a33), .unset] [(.int (1 : Int32))])
    refine o_ifEq X38 at_91 170 94 (by decide) (by decide) rfl (fun q => by exfalso; exact absurd q (by decide)) ?_
    intro hc91
    refine o_aload X38 at_94 rfl rfl 96 rfl ?_
    refine o_iconst (v := (2 : Int32)) X38 at_96 rfl 97 rfl ?_
    refine o_iloadN X38 at_97 rfl 98 rfl ?_
    refine o_iconst (v := (2 : Int32)) X38 at_98 rfl 99 rfl ?_
    refine o_callS X38 at_99 (rest := [(.int (2 : Int32)), (.ref a33)]) (c_bit l Z a0 hw [] n0 _ X38.size xx (2 : Int32) ) (hw _ (List.mem_of_getElem? (i := 9) rfl)) (hw _ (List.mem_of_getElem? (i := 10) rfl)) (hw _ (List.mem_of_getElem? (i := 3) rfl)) (hw _ (List.mem_of_getElem? (i := 11) rfl)) (by decide) 2 (by decide) (by decide) rfl [(.int xx), (.int (2 : Int32))] rfl pd_3 rfl rfl (Nat.le_of_eq rfl) 3 3 rfl rfl (by decide) (by decide) 102 rfl ?_
    rintro _ T39 _ X39 ⟨rfl, rfl⟩
    show OE p e room_1 below s n0 Q' T39 (mkF m 102 #[.val (.int xl), .val (.int xx), .val (.int xy), .val (.int (1 : Int32)), .val (.ref b27), .val (.ref b28), .val (.ref a33), .unset] [(.int (f_bit xx (2 : Int32))), (.int (2 : Int32)), (.ref a33)])
    refine o_callS X39 at_102 (rest := []) (c_at l Z a0 hw [] n0 _ X39.size a33 (2 : Int32) (f_bit xx (2 : Int32)) [(f_bit xx (0 : Int32))] ((b27, OA Z .boolean [(f_bit xx (0 : Int32))]) :: (b28, OA Z .boolean [(f_bit xy (0 : Int32))]) :: []) H33 2 rfl (Or.inl (by show 1 ≤ 2; decide))) (hw _ (List.mem_of_getElem? (i := 12) rfl)) (hw _ (List.mem_of_getElem? (i := 13) rfl)) (hw _ (List.mem_of_getElem? (i := 3) rfl)) (hw _ (List.mem_of_getElem? (i := 14) rfl)) (by decide) 0 (by decide) (by decide) rfl [(.ref a33), (.int (2 : Int32)), (.int (f_bit xx (2 : Int32)))] rfl pd_4 rfl rfl (Nat.le_of_eq rfl) 3 3 rfl rfl (by decide) (by decide) 105 rfl ?_
    rintro _ T40 _ X40 ⟨rfl, rfl⟩
    show OE p e room_1 below s n0 Q' T40 (mkF m 105 #[.val (.int xl), .val (.int xx), .val (.int xy), .val (.int (1 : Int32)), .val (.ref b27), .val (.ref b28), .val (.ref a33), .unset] [(.int (1 : Int32))])
    refine o_ifEq X40 at_105 170 108 (by decide) (by decide) rfl (fun q => by exfalso; exact absurd q (by decide)) ?_
    intro hc105
    refine o_aload X40 at_108 rfl rfl 110 rfl ?_
    refine o_iconst (v := (3 : Int32)) X40 at_110 rfl 111 rfl ?_
    refine o_iloadN X40 at_111 rfl 112 rfl ?_
    refine o_iconst (v := (3 : Int32)) X40 at_112 rfl 113 rfl ?_
    refine o_callS X40 at_113 (rest := [(.int (3 : Int32)), (.ref a33)]) (c_bit l Z a0 hw [] n0 _ X40.size xy (3 : Int32) ) (hw _ (List.mem_of_getElem? (i := 9) rfl)) (hw _ (List.mem_of_getElem? (i := 10) rfl)) (hw _ (List.mem_of_getElem? (i := 3) rfl)) (hw _ (List.mem_of_getElem? (i := 11) rfl)) (by decide) 2 (by decide) (by decide) rfl [(.int xy), (.int (3 : Int32))] rfl pd_3 rfl rfl (Nat.le_of_eq rfl) 3 3 rfl rfl (by decide) (by decide) 116 rfl ?_
    rintro _ T41 _ X41 ⟨rfl, rfl⟩
    show OE p e room_1 below s n0 Q' T41 (mkF m 116 #[.val (.int xl), .val (.int xx), .val (.int xy), .val (.int (1 : Int32)), .val (.ref b27), .val (.ref b28), .val (.ref a33), .unset] [(.int (f_bit xy (3 : Int32))), (.int (3 : Int32)), (.ref a33)])
    refine o_callS X41 at_116 (rest := []) (c_at l Z a0 hw [] n0 _ X41.size a33 (3 : Int32) (f_bit xy (3 : Int32)) [(f_bit xx (0 : Int32))] ((b27, OA Z .boolean [(f_bit xx (0 : Int32))]) :: (b28, OA Z .boolean [(f_bit xy (0 : Int32))]) :: []) H33 3 rfl (Or.inl (by show 1 ≤ 3; decide))) (hw _ (List.mem_of_getElem? (i := 12) rfl)) (hw _ (List.mem_of_getElem? (i := 13) rfl)) (hw _ (List.mem_of_getElem? (i := 3) rfl)) (hw _ (List.mem_of_getElem? (i := 14) rfl)) (by decide) 0 (by decide) (by decide) rfl [(.ref a33), (.int (3 : Int32)), (.int (f_bit xy (3 : Int32)))] rfl pd_4 rfl rfl (Nat.le_of_eq rfl) 3 3 rfl rfl (by decide) (by decide) 119 rfl ?_
    rintro _ T42 _ X42 ⟨rfl, rfl⟩
    show OE p e room_1 below s n0 Q' T42 (mkF m 119 #[.val (.int xl), .val (.int xx), .val (.int xy), .val (.int (1 : Int32)), .val (.ref b27), .val (.ref b28), .val (.ref a33), .unset] [(.int (1 : Int32))])
    refine o_ifEq X42 at_119 170 122 (by decide) (by decide) rfl (fun q => by exfalso; exact absurd q (by decide)) ?_
    intro hc119
    refine o_aload X42 at_122 rfl rfl 124 rfl ?_
    refine o_iconst (v := (4 : Int32)) X42 at_124 rfl 125 rfl ?_
    refine o_iloadN X42 at_125 rfl 126 rfl ?_
    refine o_iconst (v := (4 : Int32)) X42 at_126 rfl 127 rfl ?_
    refine o_callS X42 at_127 (rest := [(.int (4 : Int32)), (.ref a33)]) (c_bit l Z a0 hw [] n0 _ X42.size xx (4 : Int32) ) (hw _ (List.mem_of_getElem? (i := 9) rfl)) (hw _ (List.mem_of_getElem? (i := 10) rfl)) (hw _ (List.mem_of_getElem? (i := 3) rfl)) (hw _ (List.mem_of_getElem? (i := 11) rfl)) (by decide) 2 (by decide) (by decide) rfl [(.int xx), (.int (4 : Int32))] rfl pd_3 rfl rfl (Nat.le_of_eq rfl) 3 3 rfl rfl (by decide) (by decide) 130 rfl ?_
    rintro _ T43 _ X43 ⟨rfl, rfl⟩
    show OE p e room_1 below s n0 Q' T43 (mkF m 130 #[.val (.int xl), .val (.int xx), .val (.int xy), .val (.int (1 : Int32)), .val (.ref b27), .val (.ref b28), .val (.ref a33), .unset] [(.int (f_bit xx (4 : Int32))), (.int (4 : Int32)), (.ref a33)])
    refine o_callS X43 at_130 (rest := []) (c_at l Z a0 hw [] n0 _ X43.size a33 (4 : Int32) (f_bit xx (4 : Int32)) [(f_bit xx (0 : Int32))] ((b27, OA Z .boolean [(f_bit xx (0 : Int32))]) :: (b28, OA Z .boolean [(f_bit xy (0 : Int32))]) :: []) H33 4 rfl (Or.inl (by show 1 ≤ 4; decide))) (hw _ (List.mem_of_getElem? (i := 12) rfl)) (hw _ (List.mem_of_getElem? (i := 13) rfl)) (hw _ (List.mem_of_getElem? (i := 3) rfl)) (hw _ (List.mem_of_getElem? (i := 14) rfl)) (by decide) 0 (by decide) (by decide) rfl [(.ref a33), (.int (4 : Int32)), (.int (f_bit xx (4 : Int32)))] rfl pd_4 rfl rfl (Nat.le_of_eq rfl) 3 3 rfl rfl (by decide) (by decide) 133 rfl ?_
    rintro _ T44 _ X44 ⟨rfl, rfl⟩
    show OE p e room_1 below s n0 Q' T44 (mkF m 133 #[.val (.int xl), .val (.int xx), .val (.int xy), .val (.int (1 : Int32)), .val (.ref b27), .val (.ref b28), .val (.ref a33), .unset] [(.int (1 : Int32))])
    refine o_ifEq X44 at_133 170 136 (by decide) (by decide) rfl (fun q => by exfalso; exact absurd q (by decide)) ?_
    intro hc133
    refine o_aload X44 at_136 rfl rfl 138 rfl ?_
    refine o_iconst (v := (5 : Int32)) X44 at_138 rfl 139 rfl ?_
    refine o_iloadN X44 at_139 rfl 140 rfl ?_
    refine o_iconst (v := (5 : Int32)) X44 at_140 rfl 141 rfl ?_
    refine o_callS X44 at_141 (rest := [(.int (5 : Int32)), (.ref a33)]) (c_bit l Z a0 hw [] n0 _ X44.size xy (5 : Int32) ) (hw _ (List.mem_of_getElem? (i := 9) rfl)) (hw _ (List.mem_of_getElem? (i := 10) rfl)) (hw _ (List.mem_of_getElem? (i := 3) rfl)) (hw _ (List.mem_of_getElem? (i := 11) rfl)) (by decide) 2 (by decide) (by decide) rfl [(.int xy), (.int (5 : Int32))] rfl pd_3 rfl rfl (Nat.le_of_eq rfl) 3 3 rfl rfl (by decide) (by decide) 144 rfl ?_
    rintro _ T45 _ X45 ⟨rfl, rfl⟩
    show OE p e room_1 below s n0 Q' T45 (mkF m 144 #[.val (.int xl), .val (.int xx), .val (.int xy), .val (.int (1 : Int32)), .val (.ref b27), .val (.ref b28), .val (.ref a33), .unset] [(.int (f_bit xy (5 : Int32))), (.int (5 : Int32)), (.ref a33)])
    refine o_callS X45 at_144 (rest := []) (c_at l Z a0 hw [] n0 _ X45.size a33 (5 : Int32) (f_bit xy (5 : Int32)) [(f_bit xx (0 : Int32))] ((b27, OA Z .boolean [(f_bit xx (0 : Int32))]) :: (b28, OA Z .boolean [(f_bit xy (0 : Int32))]) :: []) H33 5 rfl (Or.inl (by show 1 ≤ 5; decide))) (hw _ (List.mem_of_getElem? (i := 12) rfl)) (hw _ (List.mem_of_getElem? (i := 13) rfl)) (hw _ (List.mem_of_getElem? (i := 3) rfl)) (hw _ (List.mem_of_getElem? (i := 14) rfl)) (by decide) 0 (by decide) (by decide) rfl [(.ref a33), (.int (5 : Int32)), (.int (f_bit xy (5 : Int32)))] rfl pd_4 rfl rfl (Nat.le_of_eq rfl) 3 3 rfl rfl (by decide) (by decide) 147 rfl ?_
    rintro _ T46 _ X46 ⟨rfl, rfl⟩
    show OE p e room_1 below s n0 Q' T46 (mkF m 147 #[.val (.int xl), .val (.int xx), .val (.int xy), .val (.int (1 : Int32)), .val (.ref b27), .val (.ref b28), .val (.ref a33), .unset] [(.int (1 : Int32))])
    refine o_ifEq X46 at_147 170 150 (by decide) (by decide) rfl (fun q => by exfalso; exact absurd q (by decide)) ?_
    intro hc147
    refine o_aload X46 at_150 rfl rfl 152 rfl ?_
    refine o_bipush (v := (6 : Int32)) X46 at_152 rfl 154 rfl ?_
    refine o_iloadN X46 at_154 rfl 155 rfl ?_
    refine o_bipush (v := (6 : Int32)) X46 at_155 rfl 157 rfl ?_
    refine o_callS X46 at_157 (rest := [(.int (6 : Int32)), (.ref a33)]) (c_bit l Z a0 hw [] n0 _ X46.size xx (6 : Int32) ) (hw _ (List.mem_of_getElem? (i := 9) rfl)) (hw _ (List.mem_of_getElem? (i := 10) rfl)) (hw _ (List.mem_of_getElem? (i := 3) rfl)) (hw _ (List.mem_of_getElem? (i := 11) rfl)) (by decide) 2 (by decide) (by decide) rfl [(.int xx), (.int (6 : Int32))] rfl pd_3 rfl rfl (Nat.le_of_eq rfl) 3 3 rfl rfl (by decide) (by decide) 160 rfl ?_
    rintro _ T47 _ X47 ⟨rfl, rfl⟩
    show OE p e room_1 below s n0 Q' T47 (mkF m 160 #[.val (.int xl), .val (.int xx), .val (.int xy), .val (.int (1 : Int32)), .val (.ref b27), .val (.ref b28), .val (.ref a33), .unset] [(.int (f_bit xx (6 : Int32))), (.int (6 : Int32)), (.ref a33)])
    refine o_callS X47 at_160 (rest := []) (c_at l Z a0 hw [] n0 _ X47.size a33 (6 : Int32) (f_bit xx (6 : Int32)) [(f_bit xx (0 : Int32))] ((b27, OA Z .boolean [(f_bit xx (0 : Int32))]) :: (b28, OA Z .boolean [(f_bit xy (0 : Int32))]) :: []) H33 6 rfl (Or.inl (by show 1 ≤ 6; decide))) (hw _ (List.mem_of_getElem? (i := 12) rfl)) (hw _ (List.mem_of_getElem? (i := 13) rfl)) (hw _ (List.mem_of_getElem? (i := 3) rfl)) (hw _ (List.mem_of_getElem? (i := 14) rfl)) (by decide) 0 (by decide) (by decide) rfl [(.ref a33), (.int (6 : Int32)), (.int (f_bit xx (6 : Int32)))] rfl pd_4 rfl rfl (Nat.le_of_eq rfl) 3 3 rfl rfl (by decide) (by decide) 163 rfl ?_
    rintro _ T48 _ X48 ⟨rfl, rfl⟩
    show OE p e room_1 below s n0 Q' T48 (mkF m 163 #[.val (.int xl), .val (.int xx), .val (.int xy), .val (.int (1 : Int32)), .val (.ref b27), .val (.ref b28), .val (.ref a33), .unset] [(.int (1 : Int32))])
    refine o_ifEq X48 at_163 170 166 (by decide) (by decide) rfl (fun q => by exfalso; exact absurd q (by decide)) ?_
    intro hc163
    refine o_iconst (v := (1 : Int32)) X48 at_166 rfl 167 rfl ?_
    refine o_goto X48 at_167 171 (by decide) (by decide) ?_
    refine o_istore X48 at_171 #[.val (.int xl), .val (.int xx), .val (.int xy), .val (.int (1 : Int32)), .val (.ref b27), .val (.ref b28), .val (.ref a33), .val (.int (1 : Int32))] rfl 173 rfl ?_
    refine o_iload X48 at_173 rfl 175 rfl ?_
    refine o_ifEq X48 at_175 200 178 (by decide) (by decide) rfl (fun q => by exfalso; exact absurd q (by decide)) ?_
    intro hc175
    refine o_aload X48 at_178 rfl rfl 180 rfl ?_
    refine o_iloadN X48 at_180 rfl 181 rfl ?_
    have H50 : OL n0 h33 ((b27, OA Z .boolean [(f_bit xx (0 : Int32))]) :: (a33, OA Z .boolean [(f_bit xx (0 : Int32))]) :: (b28, OA Z .boolean [(f_bit xy (0 : Int32))]) :: []) := H33.front 1 rfl
    refine o_callS X48 at_181 (rest := []) (c_same1 l Z a0 hw [] n0 _ X48.size b27 xx ((a33, OA Z .boolean [(f_bit xx (0 : Int32))]) :: (b28, OA Z .boolean [(f_bit xy (0 : Int32))]) :: []) H50) (hw _ (List.mem_of_getElem? (i := 15) rfl)) (hw _ (List.mem_of_getElem? (i := 16) rfl)) (hw _ (List.mem_of_getElem? (i := 3) rfl)) (hw _ (List.mem_of_getElem? (i := 17) rfl)) (by decide) 0 (by decide) (by decide) rfl [(.ref b27), (.int xx)] rfl pd_5 rfl rfl (Nat.le_of_eq rfl) 3 3 rfl rfl (by decide) (by decide) 184 rfl ?_
    rintro _ T49 _ X49 ⟨rfl, rfl⟩
    show OE p e room_1 below s n0 Q' T49 (mkF m 184 #[.val (.int xl), .val (.int xx), .val (.int xy), .val (.int (1 : Int32)), .val (.ref b27), .val (.ref b28), .val (.ref a33), .val (.int (1 : Int32))] [(.int (1 : Int32))])
    refine o_ifEq X49 at_184 200 187 (by decide) (by decide) rfl (fun q => by exfalso; exact absurd q (by decide)) ?_
    intro hc184
    refine o_aload X49 at_187 rfl rfl 189 rfl ?_
    refine o_iloadN X49 at_189 rfl 190 rfl ?_
    have H52 : OL n0 h33 ((b28, OA Z .boolean [(f_bit xy (0 : Int32))]) :: (b27, OA Z .boolean [(f_bit xx (0 : Int32))]) :: (a33, OA Z .boolean [(f_bit xx (0 : Int32))]) :: []) := H50.front 2 rfl
    refine o_callS X49 at_190 (rest := []) (c_same1 l Z a0 hw [] n0 _ X49.size b28 xy ((b27, OA Z .boolean [(f_bit xx (0 : Int32))]) :: (a33, OA Z .boolean [(f_bit xx (0 : Int32))]) :: []) H52) (hw _ (List.mem_of_getElem? (i := 15) rfl)) (hw _ (List.mem_of_getElem? (i := 16) rfl)) (hw _ (List.mem_of_getElem? (i := 3) rfl)) (hw _ (List.mem_of_getElem? (i := 17) rfl)) (by decide) 0 (by decide) (by decide) rfl [(.ref b28), (.int xy)] rfl pd_5 rfl rfl (Nat.le_of_eq rfl) 3 3 rfl rfl (by decide) (by decide) 193 rfl ?_
    rintro _ T51 _ X51 ⟨rfl, rfl⟩
    show OE p e room_1 below s n0 Q' T51 (mkF m 193 #[.val (.int xl), .val (.int xx), .val (.int xy), .val (.int (1 : Int32)), .val (.ref b27), .val (.ref b28), .val (.ref a33), .val (.int (1 : Int32))] [(.int (1 : Int32))])
    refine o_ifEq X51 at_193 200 196 (by decide) (by decide) rfl (fun q => by exfalso; exact absurd q (by decide)) ?_
    intro hc193
    refine o_iconst (v := (1 : Int32)) X51 at_196 rfl 197 rfl ?_
    refine o_goto X51 at_197 201 (by decide) (by decide) ?_
    exact o_retZ X51 at_201 (by decide) (by decide) (hQ _ _ rfl)
  · rw [hv]
    refine o_iloadN X0 at_5 rfl 6 rfl ?_
    refine o_newarray (L := []) X0 OL.nil at_6 (hw _ (List.mem_of_getElem? (i := 0) rfl)) rfl rfl 2 2 rfl (by decide) (by decide) 1 2 rfl rfl (by decide) (by decide) 8 rfl ?_
    intro T53 h53 b53 X53 H53
    replace H53 : OL n0 h53 ((b53, OA Z .boolean [(0 : Int32), (0 : Int32)]) :: []) := H53
    refine o_astore X53 at_8 rfl #[.val (.int xl), .val (.int xx), .val (.int xy), .val (.int (2 : Int32)), .val (.ref b53), .unset, .unset, .unset] rfl 10 rfl ?_
    refine o_iloadN X53 at_10 rfl 11 rfl ?_
    refine o_newarray (L := ((b53, OA Z .boolean [(0 : Int32), (0 : Int32)]) :: [])) X53 H53 at_11 (hw _ (List.mem_of_getElem? (i := 0) rfl)) rfl rfl 2 2 rfl (by decide) (by decide) 2 4 rfl rfl (by decide) (by decide) 13 rfl ?_
    intro T54 h54 b54 X54 H54
    replace H54 : OL n0 h54 ((b54, OA Z .boolean [(0 : Int32), (0 : Int32)]) :: (b53, OA Z .boolean [(0 : Int32), (0 : Int32)]) :: []) := H54
    refine o_astore X54 at_13 rfl #[.val (.int xl), .val (.int xx), .val (.int xy), .val (.int (2 : Int32)), .val (.ref b53), .val (.ref b54), .unset, .unset] rfl 15 rfl ?_
    refine o_aload X54 at_15 rfl rfl 17 rfl ?_
    refine o_iloadN X54 at_17 rfl 18 rfl ?_
    have H56 : OL n0 h54 ((b53, OA Z .boolean [(0 : Int32), (0 : Int32)]) :: (b54, OA Z .boolean [(0 : Int32), (0 : Int32)]) :: []) := H54.front 1 rfl
    refine o_callS X54 at_18 (rest := []) (c_fill2 l Z a0 hw [] n0 _ X54.size b53 xx ((b54, OA Z .boolean [(0 : Int32), (0 : Int32)]) :: []) H56) (hw _ (List.mem_of_getElem? (i := 1) rfl)) (hw _ (List.mem_of_getElem? (i := 2) rfl)) (hw _ (List.mem_of_getElem? (i := 3) rfl)) (hw _ (List.mem_of_getElem? (i := 4) rfl)) (by decide) 0 (by decide) (by decide) rfl [(.ref b53), (.int xx)] rfl pd_1 rfl rfl (Nat.le_of_eq rfl) 2 4 rfl rfl (by decide) (by decide) 21 rfl ?_
    rintro _ T55 h55 X55 ⟨rfl, H55⟩
    replace H55 : OL n0 h55 ((b53, OA Z .boolean [(f_bit xx (0 : Int32)), (f_bit xx (1 : Int32))]) :: (b54, OA Z .boolean [(0 : Int32), (0 : Int32)]) :: []) := H55
    show OE p e room_1 below s n0 Q' T55 (mkF m 21 #[.val (.int xl), .val (.int xx), .val (.int xy), .val (.int (2 : Int32)), .val (.ref b53), .val (.ref b54), .unset, .unset] [])
    refine o_aload X55 at_21 rfl rfl 23 rfl ?_
    refine o_iloadN X55 at_23 rfl 24 rfl ?_
    have H58 : OL n0 h55 ((b54, OA Z .boolean [(0 : Int32), (0 : Int32)]) :: (b53, OA Z .boolean [(f_bit xx (0 : Int32)), (f_bit xx (1 : Int32))]) :: []) := H55.front 1 rfl
    refine o_callS X55 at_24 (rest := []) (c_fill2 l Z a0 hw [] n0 _ X55.size b54 xy ((b53, OA Z .boolean [(f_bit xx (0 : Int32)), (f_bit xx (1 : Int32))]) :: []) H58) (hw _ (List.mem_of_getElem? (i := 1) rfl)) (hw _ (List.mem_of_getElem? (i := 2) rfl)) (hw _ (List.mem_of_getElem? (i := 3) rfl)) (hw _ (List.mem_of_getElem? (i := 4) rfl)) (by decide) 0 (by decide) (by decide) rfl [(.ref b54), (.int xy)] rfl pd_1 rfl rfl (Nat.le_of_eq rfl) 2 4 rfl rfl (by decide) (by decide) 27 rfl ?_
    rintro _ T57 h57 X57 ⟨rfl, H57⟩
    replace H57 : OL n0 h57 ((b54, OA Z .boolean [(f_bit xy (0 : Int32)), (f_bit xy (1 : Int32))]) :: (b53, OA Z .boolean [(f_bit xx (0 : Int32)), (f_bit xx (1 : Int32))]) :: []) := H57
    show OE p e room_1 below s n0 Q' T57 (mkF m 27 #[.val (.int xl), .val (.int xx), .val (.int xy), .val (.int (2 : Int32)), .val (.ref b53), .val (.ref b54), .unset, .unset] [])
    refine o_aload X57 at_27 rfl rfl 29 rfl ?_
    refine o_aload X57 at_29 rfl rfl 31 rfl ?_
    have H60 : OL n0 h57 ((b53, OA Z .boolean [(f_bit xx (0 : Int32)), (f_bit xx (1 : Int32))]) :: (b54, OA Z .boolean [(f_bit xy (0 : Int32)), (f_bit xy (1 : Int32))]) :: []) := H57.front 1 rfl
    refine o_callS X57 at_31 (rest := []) (c_comb2 l Z a0 hw [] n0 _ X57.size b53 b54 xx xy [] H60) (hw _ (List.mem_of_getElem? (i := 5) rfl)) (hw _ (List.mem_of_getElem? (i := 6) rfl)) (hw _ (List.mem_of_getElem? (i := 7) rfl)) (hw _ (List.mem_of_getElem? (i := 8) rfl)) (by decide) 0 (by decide) (by decide) rfl [(.ref b53), (.ref b54)] rfl pd_2 rfl rfl (Nat.le_of_eq rfl) 3 6 rfl rfl (by decide) (by decide) 34 rfl ?_
    rintro _ T59 h59 X59 ⟨a59, rfl, H59⟩
    replace H59 : OL n0 h59 ((a59, OA Z .boolean [(f_bit xx (0 : Int32)), (f_bit xy (1 : Int32))]) :: (b53, OA Z .boolean [(f_bit xx (0 : Int32)), (f_bit xx (1 : Int32))]) :: (b54, OA Z .boolean [(f_bit xy (0 : Int32)), (f_bit xy (1 : Int32))]) :: []) := H59
    show OE p e room_1 below s n0 Q' T59 (mkF m 34 #[.val (.int xl), .val (.int xx), .val (.int xy), .val (.int (2 : Int32)), .val (.ref b53), .val (.ref b54), .unset, .unset] [(.ref a59)])
    refine o_astore X59 at_34 rfl #[.val (.int xl), .val (.int xx), .val (.int xy), .val (.int (2 : Int32)), .val (.ref b53), .val (.ref b54), .val (.ref a59), .unset] rfl 36 rfl ?_
    refine o_aload X59 at_36 rfl rfl 38 rfl ?_
    refine o_ifnullR X59 at_38 41 rfl ?_
    refine o_aload X59 at_41 rfl rfl 43 rfl ?_
    refine o_arraylength X59 H59 0 rfl at_43 (2 : Int32) rfl 44 rfl ?_
    refine o_iloadN X59 at_44 rfl 45 rfl ?_
    refine o_icmpEq X59 at_45 50 48 (by decide) (by decide) rfl ?_ (fun q => by exfalso; exact absurd q (by decide))
    intro hc45
    refine o_aload X59 at_50 rfl rfl 52 rfl ?_
    refine o_aload X59 at_52 rfl rfl 54 rfl ?_
    refine o_acmpEqN X59 at_54 (H59.ne (i := 0) (j := 1) rfl rfl (by decide)) 57 rfl ?_
    refine o_aload X59 at_57 rfl rfl 59 rfl ?_
    refine o_aload X59 at_59 rfl rfl 61 rfl ?_
    refine o_acmpNeY X59 at_61 (H59.ne (i := 0) (j := 2) rfl rfl (by decide)) 66 (by decide) (by decide) ?_
    refine o_aload X59 at_66 rfl rfl 68 rfl ?_
    refine o_iconst (v := (0 : Int32)) X59 at_68 rfl 69 rfl ?_
    refine o_iloadN X59 at_69 rfl 70 rfl ?_
    refine o_iconst (v := (0 : Int32)) X59 at_70 rfl 71 rfl ?_
    refine o_callS X59 at_71 (rest := [(.int (0 : Int32)), (.ref a59)]) (c_bit l Z a0 hw [] n0 _ X59.size xx (0 : Int32) ) (hw _ (List.mem_of_getElem? (i := 9) rfl)) (hw _ (List.mem_of_getElem? (i := 10) rfl)) (hw _ (List.mem_of_getElem? (i := 3) rfl)) (hw _ (List.mem_of_getElem? (i := 11) rfl)) (by decide) 2 (by decide) (by decide) rfl [(.int xx), (.int (0 : Int32))] rfl pd_3 rfl rfl (Nat.le_of_eq rfl) 3 6 rfl rfl (by decide) (by decide) 74 rfl ?_
    rintro _ T61 _ X61 ⟨rfl, rfl⟩
    show OE p e room_1 below s n0 Q' T61 (mkF m 74 #[.val (.int xl), .val (.int xx), .val (.int xy), .val (.int (2 : Int32)), .val (.ref b53), .val (.ref b54), .val (.ref a59), .unset] [(.int (f_bit xx (0 : Int32))), (.int (0 : Int32)), (.ref a59)])
    refine o_callS X61 at_74 (rest := []) (c_at l Z a0 hw [] n0 _ X61.size a59 (0 : Int32) (f_bit xx (0 : Int32)) [(f_bit xx (0 : Int32)), (f_bit xy (1 : Int32))] ((b53, OA Z .boolean [(f_bit xx (0 : Int32)), (f_bit xx (1 : Int32))]) :: (b54, OA Z .boolean [(f_bit xy (0 : Int32)), (f_bit xy (1 : Int32))]) :: []) H59 0 rfl (Or.inr rfl)) (hw _ (List.mem_of_getElem? (i := 12) rfl)) (hw _ (List.mem_of_getElem? (i := 13) rfl)) (hw _ (List.mem_of_getElem? (i := 3) rfl)) (hw _ (List.mem_of_getElem? (i := 14) rfl)) (by decide) 0 (by decide) (by decide) rfl [(.ref a59), (.int (0 : Int32)), (.int (f_bit xx (0 : Int32)))] rfl pd_4 rfl rfl (Nat.le_of_eq rfl) 3 6 rfl rfl (by decide) (by decide) 77 rfl ?_
    rintro _ T62 _ X62 ⟨rfl, rfl⟩
    show OE p e room_1 below s n0 Q' T62 (mkF m 77 #[.val (.int xl), .val (.int xx), .val (.int xy), .val (.int (2 : Int32)), .val (.ref b53), .val (.ref b54), .val (.ref a59), .unset] [(.int (1 : Int32))])
    refine o_ifEq X62 at_77 170 80 (by decide) (by decide) rfl (fun q => by exfalso; exact absurd q (by decide)) ?_
    intro hc77
    refine o_aload X62 at_80 rfl rfl 82 rfl ?_
    refine o_iconst (v := (1 : Int32)) X62 at_82 rfl 83 rfl ?_
    refine o_iloadN X62 at_83 rfl 84 rfl ?_
    refine o_iconst (v := (1 : Int32)) X62 at_84 rfl 85 rfl ?_
    refine o_callS X62 at_85 (rest := [(.int (1 : Int32)), (.ref a59)]) (c_bit l Z a0 hw [] n0 _ X62.size xy (1 : Int32) ) (hw _ (List.mem_of_getElem? (i := 9) rfl)) (hw _ (List.mem_of_getElem? (i := 10) rfl)) (hw _ (List.mem_of_getElem? (i := 3) rfl)) (hw _ (List.mem_of_getElem? (i := 11) rfl)) (by decide) 2 (by decide) (by decide) rfl [(.int xy), (.int (1 : Int32))] rfl pd_3 rfl rfl (Nat.le_of_eq rfl) 3 6 rfl rfl (by decide) (by decide) 88 rfl ?_
    rintro _ T63 _ X63 ⟨rfl, rfl⟩
    show OE p e room_1 below s n0 Q' T63 (mkF m 88 #[.val (.int xl), .val (.int xx), .val (.int xy), .val (.int (2 : Int32)), .val (.ref b53), .val (.ref b54), .val (.ref a59), .unset] [(.int (f_bit xy (1 : Int32))), (.int (1 : Int32)), (.ref a59)])
    refine o_callS X63 at_88 (rest := []) (c_at l Z a0 hw [] n0 _ X63.size a59 (1 : Int32) (f_bit xy (1 : Int32)) [(f_bit xx (0 : Int32)), (f_bit xy (1 : Int32))] ((b53, OA Z .boolean [(f_bit xx (0 : Int32)), (f_bit xx (1 : Int32))]) :: (b54, OA Z .boolean [(f_bit xy (0 : Int32)), (f_bit xy (1 : Int32))]) :: []) H59 1 rfl (Or.inr rfl)) (hw _ (List.mem_of_getElem? (i := 12) rfl)) (hw _ (List.mem_of_getElem? (i := 13) rfl)) (hw _ (List.mem_of_getElem? (i := 3) rfl)) (hw _ (List.mem_of_getElem? (i := 14) rfl)) (by decide) 0 (by decide) (by decide) rfl [(.ref a59), (.int (1 : Int32)), (.int (f_bit xy (1 : Int32)))] rfl pd_4 rfl rfl (Nat.le_of_eq rfl) 3 6 rfl rfl (by decide) (by decide) 91 rfl ?_
    rintro _ T64 _ X64 ⟨rfl, rfl⟩
    show OE p e room_1 below s n0 Q' T64 (mkF m 91 #[.val (.int xl), .val (.int xx), .val (.int xy), .val (.int (2 : Int32)), .val (.ref b53), .val (.ref b54), .val (.ref a59), .unset] [(.int (1 : Int32))])
    refine o_ifEq X64 at_91 170 94 (by decide) (by decide) rfl (fun q => by exfalso; exact absurd q (by decide)) ?_
    intro hc91
    refine o_aload X64 at_94 rfl rfl 96 rfl ?_
    refine o_iconst (v := (2 : Int32)) X64 at_96 rfl 97 rfl ?_
    refine o_iloadN X64 at_97 rfl 98 rfl ?_
    refine o_iconst (v := (2 : Int32)) X64 at_98 rfl 99 rfl ?_
    refine o_callS X64 at_99 (rest := [(.int (2 : Int32)), (.ref a59)]) (c_bit l Z a0 hw [] n0 _ X64.size xx (2 : Int32) ) (hw _ (List.mem_of_getElem? (i := 9) rfl)) (hw _ (List.mem_of_getElem? (i := 10) rfl)) (hw _ (List.mem_of_getElem? (i := 3) rfl)) (hw _ (List.mem_of_getElem? (i := 11) rfl)) (by decide) 2 (by decide) (by decide) rfl [(.int xx), (.int (2 : Int32))] rfl pd_3 rfl rfl (Nat.le_of_eq rfl) 3 6 rfl rfl (by decide) (by decide) 102 rfl ?_
    rintro _ T65 _ X65 ⟨rfl, rfl⟩
    show OE p e room_1 below s n0 Q' T65 (mkF m 102 #[.val (.int xl), .val (.int xx), .val (.int xy), .val (.int (2 : Int32)), .val (.ref b53), .val (.ref b54), .val (.ref a59), .unset] [(.int (f_bit xx (2 : Int32))), (.int (2 : Int32)), (.ref a59)])
    refine o_callS X65 at_102 (rest := []) (c_at l Z a0 hw [] n0 _ X65.size a59 (2 : Int32) (f_bit xx (2 : Int32)) [(f_bit xx (0 : Int32)), (f_bit xy (1 : Int32))] ((b53, OA Z .boolean [(f_bit xx (0 : Int32)), (f_bit xx (1 : Int32))]) :: (b54, OA Z .boolean [(f_bit xy (0 : Int32)), (f_bit xy (1 : Int32))]) :: []) H59 2 rfl (Or.inl (by show 2 ≤ 2; decide))) (hw _ (List.mem_of_getElem? (i := 12) rfl)) (hw _ (List.mem_of_getElem? (i := 13) rfl)) (hw _ (List.mem_of_getElem? (i := 3) rfl)) (hw _ (List.mem_of_getElem? (i := 14) rfl)) (by decide) 0 (by decide) (by decide) rfl [(.ref a59), (.int (2 : Int32)), (.int (f_bit xx (2 : Int32)))] rfl pd_4 rfl rfl (Nat.le_of_eq rfl) 3 6 rfl rfl (by decide) (by decide) 105 rfl ?_
    rintro _ T66 _ X66 ⟨rfl, rfl⟩
    show OE p e room_1 below s n0 Q' T66 (mkF m 105 #[.val (.int xl), .val (.int xx), .val (.int xy), .val (.int (2 : Int32)), .val (.ref b53), .val (.ref b54), .val (.ref a59), .unset] [(.int (1 : Int32))])
    refine o_ifEq X66 at_105 170 108 (by decide) (by decide) rfl (fun q => by exfalso; exact absurd q (by decide)) ?_
    intro hc105
    refine o_aload X66 at_108 rfl rfl 110 rfl ?_
    refine o_iconst (v := (3 : Int32)) X66 at_110 rfl 111 rfl ?_
    refine o_iloadN X66 at_111 rfl 112 rfl ?_
    refine o_iconst (v := (3 : Int32)) X66 at_112 rfl 113 rfl ?_
    refine o_callS X66 at_113 (rest := [(.int (3 : Int32)), (.ref a59)]) (c_bit l Z a0 hw [] n0 _ X66.size xy (3 : Int32) ) (hw _ (List.mem_of_getElem? (i := 9) rfl)) (hw _ (List.mem_of_getElem? (i := 10) rfl)) (hw _ (List.mem_of_getElem? (i := 3) rfl)) (hw _ (List.mem_of_getElem? (i := 11) rfl)) (by decide) 2 (by decide) (by decide) rfl [(.int xy), (.int (3 : Int32))] rfl pd_3 rfl rfl (Nat.le_of_eq rfl) 3 6 rfl rfl (by decide) (by decide) 116 rfl ?_
    rintro _ T67 _ X67 ⟨rfl, rfl⟩
    show OE p e room_1 below s n0 Q' T67 (mkF m 116 #[.val (.int xl), .val (.int xx), .val (.int xy), .val (.int (2 : Int32)), .val (.ref b53), .val (.ref b54), .val (.ref a59), .unset] [(.int (f_bit xy (3 : Int32))), (.int (3 : Int32)), (.ref a59)])
    refine o_callS X67 at_116 (rest := []) (c_at l Z a0 hw [] n0 _ X67.size a59 (3 : Int32) (f_bit xy (3 : Int32)) [(f_bit xx (0 : Int32)), (f_bit xy (1 : Int32))] ((b53, OA Z .boolean [(f_bit xx (0 : Int32)), (f_bit xx (1 : Int32))]) :: (b54, OA Z .boolean [(f_bit xy (0 : Int32)), (f_bit xy (1 : Int32))]) :: []) H59 3 rfl (Or.inl (by show 2 ≤ 3; decide))) (hw _ (List.mem_of_getElem? (i := 12) rfl)) (hw _ (List.mem_of_getElem? (i := 13) rfl)) (hw _ (List.mem_of_getElem? (i := 3) rfl)) (hw _ (List.mem_of_getElem? (i := 14) rfl)) (by decide) 0 (by decide) (by decide) rfl [(.ref a59), (.int (3 : Int32)), (.int (f_bit xy (3 : Int32)))] rfl pd_4 rfl rfl (Nat.le_of_eq rfl) 3 6 rfl rfl (by decide) (by decide) 119 rfl ?_
    rintro _ T68 _ X68 ⟨rfl, rfl⟩
    show OE p e room_1 below s n0 Q' T68 (mkF m 119 #[.val (.int xl), .val (.int xx), .val (.int xy), .val (.int (2 : Int32)), .val (.ref b53), .val (.ref b54), .val (.ref a59), .unset] [(.int (1 : Int32))])
    refine o_ifEq X68 at_119 170 122 (by decide) (by decide) rfl (fun q => by exfalso; exact absurd q (by decide)) ?_
    intro hc119
    refine o_aload X68 at_122 rfl rfl 124 rfl ?_
    refine o_iconst (v := (4 : Int32)) X68 at_124 rfl 125 rfl ?_
    refine o_iloadN X68 at_125 rfl 126 rfl ?_
    refine o_iconst (v := (4 : Int32)) X68 at_126 rfl 127 rfl ?_
    refine o_callS X68 at_127 (rest := [(.int (4 : Int32)), (.ref a59)]) (c_bit l Z a0 hw [] n0 _ X68.size xx (4 : Int32) ) (hw _ (List.mem_of_getElem? (i := 9) rfl)) (hw _ (List.mem_of_getElem? (i := 10) rfl)) (hw _ (List.mem_of_getElem? (i := 3) rfl)) (hw _ (List.mem_of_getElem? (i := 11) rfl)) (by decide) 2 (by decide) (by decide) rfl [(.int xx), (.int (4 : Int32))] rfl pd_3 rfl rfl (Nat.le_of_eq rfl) 3 6 rfl rfl (by decide) (by decide) 130 rfl ?_
    rintro _ T69 _ X69 ⟨rfl, rfl⟩
    show OE p e room_1 below s n0 Q' T69 (mkF m 130 #[.val (.int xl), .val (.int xx), .val (.int xy), .val (.int (2 : Int32)), .val (.ref b53), .val (.ref b54), .val (.ref a59), .unset] [(.int (f_bit xx (4 : Int32))), (.int (4 : Int32)), (.ref a59)])
    refine o_callS X69 at_130 (rest := []) (c_at l Z a0 hw [] n0 _ X69.size a59 (4 : Int32) (f_bit xx (4 : Int32)) [(f_bit xx (0 : Int32)), (f_bit xy (1 : Int32))] ((b53, OA Z .boolean [(f_bit xx (0 : Int32)), (f_bit xx (1 : Int32))]) :: (b54, OA Z .boolean [(f_bit xy (0 : Int32)), (f_bit xy (1 : Int32))]) :: []) H59 4 rfl (Or.inl (by show 2 ≤ 4; decide))) (hw _ (List.mem_of_getElem? (i := 12) rfl)) (hw _ (List.mem_of_getElem? (i := 13) rfl)) (hw _ (List.mem_of_getElem? (i := 3) rfl)) (hw _ (List.mem_of_getElem? (i := 14) rfl)) (by decide) 0 (by decide) (by decide) rfl [(.ref a59), (.int (4 : Int32)), (.int (f_bit xx (4 : Int32)))] rfl pd_4 rfl rfl (Nat.le_of_eq rfl) 3 6 rfl rfl (by decide) (by decide) 133 rfl ?_
    rintro _ T70 _ X70 ⟨rfl, rfl⟩
    show OE p e room_1 below s n0 Q' T70 (mkF m 133 #[.val (.int xl), .val (.int xx), .val (.int xy), .val (.int (2 : Int32)), .val (.ref b53), .val (.ref b54), .val (.ref a59), .unset] [(.int (1 : Int32))])
    refine o_ifEq X70 at_133 170 136 (by decide) (by decide) rfl (fun q => by exfalso; exact absurd q (by decide)) ?_
    intro hc133
    refine o_aload X70 at_136 rfl rfl 138 rfl ?_
    refine o_iconst (v := (5 : Int32)) X70 at_138 rfl 139 rfl ?_
    refine o_iloadN X70 at_139 rfl 140 rfl ?_
    refine o_iconst (v := (5 : Int32)) X70 at_140 rfl 141 rfl ?_
    refine o_callS X70 at_141 (rest := [(.int (5 : Int32)), (.ref a59)]) (c_bit l Z a0 hw [] n0 _ X70.size xy (5 : Int32) ) (hw _ (List.mem_of_getElem? (i := 9) rfl)) (hw _ (List.mem_of_getElem? (i := 10) rfl)) (hw _ (List.mem_of_getElem? (i := 3) rfl)) (hw _ (List.mem_of_getElem? (i := 11) rfl)) (by decide) 2 (by decide) (by decide) rfl [(.int xy), (.int (5 : Int32))] rfl pd_3 rfl rfl (Nat.le_of_eq rfl) 3 6 rfl rfl (by decide) (by decide) 144 rfl ?_
    rintro _ T71 _ X71 ⟨rfl, rfl⟩
    show OE p e room_1 below s n0 Q' T71 (mkF m 144 #[.val (.int xl), .val (.int xx), .val (.int xy), .val (.int (2 : Int32)), .val (.ref b53), .val (.ref b54), .val (.ref a59), .unset] [(.int (f_bit xy (5 : Int32))), (.int (5 : Int32)), (.ref a59)])
    refine o_callS X71 at_144 (rest := []) (c_at l Z a0 hw [] n0 _ X71.size a59 (5 : Int32) (f_bit xy (5 : Int32)) [(f_bit xx (0 : Int32)), (f_bit xy (1 : Int32))] ((b53, OA Z .boolean [(f_bit xx (0 : Int32)), (f_bit xx (1 : Int32))]) :: (b54, OA Z .boolean [(f_bit xy (0 : Int32)), (f_bit xy (1 : Int32))]) :: []) H59 5 rfl (Or.inl (by show 2 ≤ 5; decide))) (hw _ (List.mem_of_getElem? (i := 12) rfl)) (hw _ (List.mem_of_getElem? (i := 13) rfl)) (hw _ (List.mem_of_getElem? (i := 3) rfl)) (hw _ (List.mem_of_getElem? (i := 14) rfl)) (by decide) 0 (by decide) (by decide) rfl [(.ref a59), (.int (5 : Int32)), (.int (f_bit xy (5 : Int32)))] rfl pd_4 rfl rfl (Nat.le_of_eq rfl) 3 6 rfl rfl (by decide) (by decide) 147 rfl ?_
    rintro _ T72 _ X72 ⟨rfl, rfl⟩
    show OE p e room_1 below s n0 Q' T72 (mkF m 147 #[.val (.int xl), .val (.int xx), .val (.int xy), .val (.int (2 : Int32)), .val (.ref b53), .val (.ref b54), .val (.ref a59), .unset] [(.int (1 : Int32))])
    refine o_ifEq X72 at_147 170 150 (by decide) (by decide) rfl (fun q => by exfalso; exact absurd q (by decide)) ?_
    intro hc147
    refine o_aload X72 at_150 rfl rfl 152 rfl ?_
    refine o_bipush (v := (6 : Int32)) X72 at_152 rfl 154 rfl ?_
    refine o_iloadN X72 at_154 rfl 155 rfl ?_
    refine o_bipush (v := (6 : Int32)) X72 at_155 rfl 157 rfl ?_
    refine o_callS X72 at_157 (rest := [(.int (6 : Int32)), (.ref a59)]) (c_bit l Z a0 hw [] n0 _ X72.size xx (6 : Int32) ) (hw _ (List.mem_of_getElem? (i := 9) rfl)) (hw _ (List.mem_of_getElem? (i := 10) rfl)) (hw _ (List.mem_of_getElem? (i := 3) rfl)) (hw _ (List.mem_of_getElem? (i := 11) rfl)) (by decide) 2 (by decide) (by decide) rfl [(.int xx), (.int (6 : Int32))] rfl pd_3 rfl rfl (Nat.le_of_eq rfl) 3 6 rfl rfl (by decide) (by decide) 160 rfl ?_
    rintro _ T73 _ X73 ⟨rfl, rfl⟩
    show OE p e room_1 below s n0 Q' T73 (mkF m 160 #[.val (.int xl), .val (.int xx), .val (.int xy), .val (.int (2 : Int32)), .val (.ref b53), .val (.ref b54), .val (.ref a59), .unset] [(.int (f_bit xx (6 : Int32))), (.int (6 : Int32)), (.ref a59)])
    refine o_callS X73 at_160 (rest := []) (c_at l Z a0 hw [] n0 _ X73.size a59 (6 : Int32) (f_bit xx (6 : Int32)) [(f_bit xx (0 : Int32)), (f_bit xy (1 : Int32))] ((b53, OA Z .boolean [(f_bit xx (0 : Int32)), (f_bit xx (1 : Int32))]) :: (b54, OA Z .boolean [(f_bit xy (0 : Int32)), (f_bit xy (1 : Int32))]) :: []) H59 6 rfl (Or.inl (by show 2 ≤ 6; decide))) (hw _ (List.mem_of_getElem? (i := 12) rfl)) (hw _ (List.mem_of_getElem? (i := 13) rfl)) (hw _ (List.mem_of_getElem? (i := 3) rfl)) (hw _ (List.mem_of_getElem? (i := 14) rfl)) (by decide) 0 (by decide) (by decide) rfl [(.ref a59), (.int (6 : Int32)), (.int (f_bit xx (6 : Int32)))] rfl pd_4 rfl rfl (Nat.le_of_eq rfl) 3 6 rfl rfl (by decide) (by decide) 163 rfl ?_
    rintro _ T74 _ X74 ⟨rfl, rfl⟩
    show OE p e room_1 below s n0 Q' T74 (mkF m 163 #[.val (.int xl), .val (.int xx), .val (.int xy), .val (.int (2 : Int32)), .val (.ref b53), .val (.ref b54), .val (.ref a59), .unset] [(.int (1 : Int32))])
    refine o_ifEq X74 at_163 170 166 (by decide) (by decide) rfl (fun q => by exfalso; exact absurd q (by decide)) ?_
    intro hc163
    refine o_iconst (v := (1 : Int32)) X74 at_166 rfl 167 rfl ?_
    refine o_goto X74 at_167 171 (by decide) (by decide) ?_
    refine o_istore X74 at_171 #[.val (.int xl), .val (.int xx), .val (.int xy), .val (.int (2 : Int32)), .val (.ref b53), .val (.ref b54), .val (.ref a59), .val (.int (1 : Int32))] rfl 173 rfl ?_
    refine o_iload X74 at_173 rfl 175 rfl ?_
    refine o_ifEq X74 at_175 200 178 (by decide) (by decide) rfl (fun q => by exfalso; exact absurd q (by decide)) ?_
    intro hc175
    refine o_aload X74 at_178 rfl rfl 180 rfl ?_
    refine o_iloadN X74 at_180 rfl 181 rfl ?_
    have H76 : OL n0 h59 ((b53, OA Z .boolean [(f_bit xx (0 : Int32)), (f_bit xx (1 : Int32))]) :: (a59, OA Z .boolean [(f_bit xx (0 : Int32)), (f_bit xy (1 : Int32))]) :: (b54, OA Z .boolean [(f_bit xy (0 : Int32)), (f_bit xy (1 : Int32))]) :: []) := H59.front 1 rfl
    refine o_callS X74 at_181 (rest := []) (c_same2 l Z a0 hw [] n0 _ X74.size b53 xx ((a59, OA Z .boolean [(f_bit xx (0 : Int32)), (f_bit xy (1 : Int32))]) :: (b54, OA Z .boolean [(f_bit xy (0 : Int32)), (f_bit xy (1 : Int32))]) :: []) H76) (hw _ (List.mem_of_getElem? (i := 15) rfl)) (hw _ (List.mem_of_getElem? (i := 16) rfl)) (hw _ (List.mem_of_getElem? (i := 3) rfl)) (hw _ (List.mem_of_getElem? (i := 17) rfl)) (by decide) 0 (by decide) (by decide) rfl [(.ref b53), (.int xx)] rfl pd_5 rfl rfl (Nat.le_of_eq rfl) 3 6 rfl rfl (by decide) (by decide) 184 rfl ?_
    rintro _ T75 _ X75 ⟨rfl, rfl⟩
    show OE p e room_1 below s n0 Q' T75 (mkF m 184 #[.val (.int xl), .val (.int xx), .val (.int xy), .val (.int (2 : Int32)), .val (.ref b53), .val (.ref b54), .val (.ref a59), .val (.int (1 : Int32))] [(.int (1 : Int32))])
    refine o_ifEq X75 at_184 200 187 (by decide) (by decide) rfl (fun q => by exfalso; exact absurd q (by decide)) ?_
    intro hc184
    refine o_aload X75 at_187 rfl rfl 189 rfl ?_
    refine o_iloadN X75 at_189 rfl 190 rfl ?_
    have H78 : OL n0 h59 ((b54, OA Z .boolean [(f_bit xy (0 : Int32)), (f_bit xy (1 : Int32))]) :: (b53, OA Z .boolean [(f_bit xx (0 : Int32)), (f_bit xx (1 : Int32))]) :: (a59, OA Z .boolean [(f_bit xx (0 : Int32)), (f_bit xy (1 : Int32))]) :: []) := H76.front 2 rfl
    refine o_callS X75 at_190 (rest := []) (c_same2 l Z a0 hw [] n0 _ X75.size b54 xy ((b53, OA Z .boolean [(f_bit xx (0 : Int32)), (f_bit xx (1 : Int32))]) :: (a59, OA Z .boolean [(f_bit xx (0 : Int32)), (f_bit xy (1 : Int32))]) :: []) H78) (hw _ (List.mem_of_getElem? (i := 15) rfl)) (hw _ (List.mem_of_getElem? (i := 16) rfl)) (hw _ (List.mem_of_getElem? (i := 3) rfl)) (hw _ (List.mem_of_getElem? (i := 17) rfl)) (by decide) 0 (by decide) (by decide) rfl [(.ref b54), (.int xy)] rfl pd_5 rfl rfl (Nat.le_of_eq rfl) 3 6 rfl rfl (by decide) (by decide) 193 rfl ?_
    rintro _ T77 _ X77 ⟨rfl, rfl⟩
    show OE p e room_1 below s n0 Q' T77 (mkF m 193 #[.val (.int xl), .val (.int xx), .val (.int xy), .val (.int (2 : Int32)), .val (.ref b53), .val (.ref b54), .val (.ref a59), .val (.int (1 : Int32))] [(.int (1 : Int32))])
    refine o_ifEq X77 at_193 200 196 (by decide) (by decide) rfl (fun q => by exfalso; exact absurd q (by decide)) ?_
    intro hc193
    refine o_iconst (v := (1 : Int32)) X77 at_196 rfl 197 rfl ?_
    refine o_goto X77 at_197 201 (by decide) (by decide) ?_
    exact o_retZ X77 at_201 (by decide) (by decide) (hQ _ _ rfl)
  · rw [hv]
    refine o_iloadN X0 at_5 rfl 6 rfl ?_
    refine o_newarray (L := []) X0 OL.nil at_6 (hw _ (List.mem_of_getElem? (i := 0) rfl)) rfl rfl 3 3 rfl (by decide) (by decide) 1 3 rfl rfl (by decide) (by decide) 8 rfl ?_
    intro T79 h79 b79 X79 H79
    replace H79 : OL n0 h79 ((b79, OA Z .boolean [(0 : Int32), (0 : Int32), (0 : Int32)]) :: []) := H79
    refine o_astore X79 at_8 rfl #[.val (.int xl), .val (.int xx), .val (.int xy), .val (.int (3 : Int32)), .val (.ref b79), .unset, .unset, .unset] rfl 10 rfl ?_
    refine o_iloadN X79 at_10 rfl 11 rfl ?_
    refine o_newarray (L := ((b79, OA Z .boolean [(0 : Int32), (0 : Int32), (0 : Int32)]) :: [])) X79 H79 at_11 (hw _ (List.mem_of_getElem? (i := 0) rfl)) rfl rfl 3 3 rfl (by decide) (by decide) 2 6 rfl rfl (by decide) (by decide) 13 rfl ?_
    intro T80 h80 b80 X80 H80
    replace H80 : OL n0 h80 ((b80, OA Z .boolean [(0 : Int32), (0 : Int32), (0 : Int32)]) :: (b79, OA Z .boolean [(0 : Int32), (0 : Int32), (0 : Int32)]) :: []) := H80
    refine o_astore X80 at_13 rfl #[.val (.int xl), .val (.int xx), .val (.int xy), .val (.int (3 : Int32)), .val (.ref b79), .val (.ref b80), .unset, .unset] rfl 15 rfl ?_
    refine o_aload X80 at_15 rfl rfl 17 rfl ?_
    refine o_iloadN X80 at_17 rfl 18 rfl ?_
    have H82 : OL n0 h80 ((b79, OA Z .boolean [(0 : Int32), (0 : Int32), (0 : Int32)]) :: (b80, OA Z .boolean [(0 : Int32), (0 : Int32), (0 : Int32)]) :: []) := H80.front 1 rfl
    refine o_callS X80 at_18 (rest := []) (c_fill3 l Z a0 hw [] n0 _ X80.size b79 xx ((b80, OA Z .boolean [(0 : Int32), (0 : Int32), (0 : Int32)]) :: []) H82) (hw _ (List.mem_of_getElem? (i := 1) rfl)) (hw _ (List.mem_of_getElem? (i := 2) rfl)) (hw _ (List.mem_of_getElem? (i := 3) rfl)) (hw _ (List.mem_of_getElem? (i := 4) rfl)) (by decide) 0 (by decide) (by decide) rfl [(.ref b79), (.int xx)] rfl pd_1 rfl rfl (Nat.le_of_eq rfl) 2 6 rfl rfl (by decide) (by decide) 21 rfl ?_
    rintro _ T81 h81 X81 ⟨rfl, H81⟩
    replace H81 : OL n0 h81 ((b79, OA Z .boolean [(f_bit xx (0 : Int32)), (f_bit xx (1 : Int32)), (f_bit xx (2 : Int32))]) :: (b80, OA Z .boolean [(0 : Int32), (0 : Int32), (0 : Int32)]) :: []) := H81
    show OE p e room_1 below s n0 Q' T81 (mkF m 21 #[.val (.int xl), .val (.int xx), .val (.int xy), .val (.int (3 : Int32)), .val (.ref b79), .val (.ref b80), .unset, .unset] [])
    refine o_aload X81 at_21 rfl rfl 23 rfl ?_
    refine o_iloadN X81 at_23 rfl 24 rfl ?_
    have H84 : OL n0 h81 ((b80, OA Z .boolean [(0 : Int32), (0 : Int32), (0 : Int32)]) :: (b79, OA Z .boolean [(f_bit xx (0 : Int32)), (f_bit xx (1 : Int32)), (f_bit xx (2 : Int32))]) :: []) := H81.front 1 rfl
    refine o_callS X81 at_24 (rest := []) (c_fill3 l Z a0 hw [] n0 _ X81.size b80 xy ((b79, OA Z .boolean [(f_bit xx (0 : Int32)), (f_bit xx (1 : Int32)), (f_bit xx (2 : Int32))]) :: []) H84) (hw _ (List.mem_of_getElem? (i := 1) rfl)) (hw _ (List.mem_of_getElem? (i := 2) rfl)) (hw _ (List.mem_of_getElem? (i := 3) rfl)) (hw _ (List.mem_of_getElem? (i := 4) rfl)) (by decide) 0 (by decide) (by decide) rfl [(.ref b80), (.int xy)] rfl pd_1 rfl rfl (Nat.le_of_eq rfl) 2 6 rfl rfl (by decide) (by decide) 27 rfl ?_
    rintro _ T83 h83 X83 ⟨rfl, H83⟩
    replace H83 : OL n0 h83 ((b80, OA Z .boolean [(f_bit xy (0 : Int32)), (f_bit xy (1 : Int32)), (f_bit xy (2 : Int32))]) :: (b79, OA Z .boolean [(f_bit xx (0 : Int32)), (f_bit xx (1 : Int32)), (f_bit xx (2 : Int32))]) :: []) := H83
    show OE p e room_1 below s n0 Q' T83 (mkF m 27 #[.val (.int xl), .val (.int xx), .val (.int xy), .val (.int (3 : Int32)), .val (.ref b79), .val (.ref b80), .unset, .unset] [])
    refine o_aload X83 at_27 rfl rfl 29 rfl ?_
    refine o_aload X83 at_29 rfl rfl 31 rfl ?_
    have H86 : OL n0 h83 ((b79, OA Z .boolean [(f_bit xx (0 : Int32)), (f_bit xx (1 : Int32)), (f_bit xx (2 : Int32))]) :: (b80, OA Z .boolean [(f_bit xy (0 : Int32)), (f_bit xy (1 : Int32)), (f_bit xy (2 : Int32))]) :: []) := H83.front 1 rfl
    refine o_callS X83 at_31 (rest := []) (c_comb3 l Z a0 hw [] n0 _ X83.size b79 b80 xx xy [] H86) (hw _ (List.mem_of_getElem? (i := 5) rfl)) (hw _ (List.mem_of_getElem? (i := 6) rfl)) (hw _ (List.mem_of_getElem? (i := 7) rfl)) (hw _ (List.mem_of_getElem? (i := 8) rfl)) (by decide) 0 (by decide) (by decide) rfl [(.ref b79), (.ref b80)] rfl pd_2 rfl rfl (Nat.le_of_eq rfl) 3 9 rfl rfl (by decide) (by decide) 34 rfl ?_
    rintro _ T85 h85 X85 ⟨a85, rfl, H85⟩
    replace H85 : OL n0 h85 ((a85, OA Z .boolean [(f_bit xx (0 : Int32)), (f_bit xy (1 : Int32)), (f_bit xx (2 : Int32))]) :: (b79, OA Z .boolean [(f_bit xx (0 : Int32)), (f_bit xx (1 : Int32)), (f_bit xx (2 : Int32))]) :: (b80, OA Z .boolean [(f_bit xy (0 : Int32)), (f_bit xy (1 : Int32)), (f_bit xy (2 : Int32))]) :: []) := H85
    show OE p e room_1 below s n0 Q' T85 (mkF m 34 #[.val (.int xl), .val (.int xx), .val (.int xy), .val (.int (3 : Int32)), .val (.ref b79), .val (.ref b80), .unset, .unset] [(.ref a85)])
    refine o_astore X85 at_34 rfl #[.val (.int xl), .val (.int xx), .val (.int xy), .val (.int (3 : Int32)), .val (.ref b79), .val (.ref b80), .val (.ref a85), .unset] rfl 36 rfl ?_
    refine o_aload X85 at_36 rfl rfl 38 rfl ?_
    refine o_ifnullR X85 at_38 41 rfl ?_
    refine o_aload X85 at_41 rfl rfl 43 rfl ?_
    refine o_arraylength X85 H85 0 rfl at_43 (3 : Int32) rfl 44 rfl ?_
    refine o_iloadN X85 at_44 rfl 45 rfl ?_
    refine o_icmpEq X85 at_45 50 48 (by decide) (by decide) rfl ?_ (fun q => by exfalso; exact absurd q (by decide))
    intro hc45
    refine o_aload X85 at_50 rfl rfl 52 rfl ?_
    refine o_aload X85 at_52 rfl rfl 54 rfl ?_
    refine o_acmpEqN X85 at_54 (H85.ne (i := 0) (j := 1) rfl rfl (by decide)) 57 rfl ?_
    refine o_aload X85 at_57 rfl rfl 59 rfl ?_
    refine o_aload X85 at_59 rfl rfl 61 rfl ?_
    refine o_acmpNeY X85 at_61 (H85.ne (i := 0) (j := 2) rfl rfl (by decide)) 66 (by decide) (by decide) ?_
    refine o_aload X85 at_66 rfl rfl 68 rfl ?_
    refine o_iconst (v := (0 : Int32)) X85 at_68 rfl 69 rfl ?_
    refine o_iloadN X85 at_69 rfl 70 rfl ?_
    refine o_iconst (v := (0 : Int32)) X85 at_70 rfl 71 rfl ?_
    refine o_callS X85 at_71 (rest := [(.int (0 : Int32)), (.ref a85)]) (c_bit l Z a0 hw [] n0 _ X85.size xx (0 : Int32) ) (hw _ (List.mem_of_getElem? (i := 9) rfl)) (hw _ (List.mem_of_getElem? (i := 10) rfl)) (hw _ (List.mem_of_getElem? (i := 3) rfl)) (hw _ (List.mem_of_getElem? (i := 11) rfl)) (by decide) 2 (by decide) (by decide) rfl [(.int xx), (.int (0 : Int32))] rfl pd_3 rfl rfl (Nat.le_of_eq rfl) 3 9 rfl rfl (by decide) (by decide) 74 rfl ?_
    rintro _ T87 _ X87 ⟨rfl, rfl⟩
    show OE p e room_1 below s n0 Q' T87 (mkF m 74 #[.val (.int xl), .val (.int xx), .val (.int xy), .val (.int (3 : Int32)), .val (.ref b79), .val (.ref b80), .val (.ref a85), .unset] [(.int (f_bit xx (0 : Int32))), (.int (0 : Int32)), (.ref a85)])
    refine o_callS X87 at_74 (rest := []) (c_at l Z a0 hw [] n0 _ X87.size a85 (0 : Int32) (f_bit xx (0 : Int32)) [(f_bit xx (0 : Int32)), (f_bit xy (1 : Int32)), (f_bit xx (2 : Int32))] ((b79, OA Z .boolean [(f_bit xx (0 : Int32)), (f_bit xx (1 : Int32)), (f_bit xx (2 : Int32))]) :: (b80, OA Z .boolean [(f_bit xy (0 : Int32)), (f_bit xy (1 : Int32)), (f_bit xy (2 : Int32))]) :: []) H85 0 rfl (Or.inr rfl)) (hw _ (List.mem_of_getElem? (i := 12) rfl)) (hw _ (List.mem_of_getElem? (i := 13) rfl)) (hw _ (List.mem_of_getElem? (i := 3) rfl)) (hw _ (List.mem_of_getElem? (i := 14) rfl)) (by decide) 0 (by decide) (by decide) rfl [(.ref a85), (.int (0 : Int32)), (.int (f_bit xx (0 : Int32)))] rfl pd_4 rfl rfl (Nat.le_of_eq rfl) 3 9 rfl rfl (by decide) (by decide) 77 rfl ?_
    rintro _ T88 _ X88 ⟨rfl, rfl⟩
    show OE p e room_1 below s n0 Q' T88 (mkF m 77 #[.val (.int xl), .val (.int xx), .val (.int xy), .val (.int (3 : Int32)), .val (.ref b79), .val (.ref b80), .val (.ref a85), .unset] [(.int (1 : Int32))])
    refine o_ifEq X88 at_77 170 80 (by decide) (by decide) rfl (fun q => by exfalso; exact absurd q (by decide)) ?_
    intro hc77
    refine o_aload X88 at_80 rfl rfl 82 rfl ?_
    refine o_iconst (v := (1 : Int32)) X88 at_82 rfl 83 rfl ?_
    refine o_iloadN X88 at_83 rfl 84 rfl ?_
    refine o_iconst (v := (1 : Int32)) X88 at_84 rfl 85 rfl ?_
    refine o_callS X88 at_85 (rest := [(.int (1 : Int32)), (.ref a85)]) (c_bit l Z a0 hw [] n0 _ X88.size xy (1 : Int32) ) (hw _ (List.mem_of_getElem? (i := 9) rfl)) (hw _ (List.mem_of_getElem? (i := 10) rfl)) (hw _ (List.mem_of_getElem? (i := 3) rfl)) (hw _ (List.mem_of_getElem? (i := 11) rfl)) (by decide) 2 (by decide) (by decide) rfl [(.int xy), (.int (1 : Int32))] rfl pd_3 rfl rfl (Nat.le_of_eq rfl) 3 9 rfl rfl (by decide) (by decide) 88 rfl ?_
    rintro _ T89 _ X89 ⟨rfl, rfl⟩
    show OE p e room_1 below s n0 Q' T89 (mkF m 88 #[.val (.int xl), .val (.int xx), .val (.int xy), .val (.int (3 : Int32)), .val (.ref b79), .val (.ref b80), .val (.ref a85), .unset] [(.int (f_bit xy (1 : Int32))), (.int (1 : Int32)), (.ref a85)])
    refine o_callS X89 at_88 (rest := []) (c_at l Z a0 hw [] n0 _ X89.size a85 (1 : Int32) (f_bit xy (1 : Int32)) [(f_bit xx (0 : Int32)), (f_bit xy (1 : Int32)), (f_bit xx (2 : Int32))] ((b79, OA Z .boolean [(f_bit xx (0 : Int32)), (f_bit xx (1 : Int32)), (f_bit xx (2 : Int32))]) :: (b80, OA Z .boolean [(f_bit xy (0 : Int32)), (f_bit xy (1 : Int32)), (f_bit xy (2 : Int32))]) :: []) H85 1 rfl (Or.inr rfl)) (hw _ (List.mem_of_getElem? (i := 12) rfl)) (hw _ (List.mem_of_getElem? (i := 13) rfl)) (hw _ (List.mem_of_getElem? (i := 3) rfl)) (hw _ (List.mem_of_getElem? (i := 14) rfl)) (by decide) 0 (by decide) (by decide) rfl [(.ref a85), (.int (1 : Int32)), (.int (f_bit xy (1 : Int32)))] rfl pd_4 rfl rfl (Nat.le_of_eq rfl) 3 9 rfl rfl (by decide) (by decide) 91 rfl ?_
    rintro _ T90 _ X90 ⟨rfl, rfl⟩
    show OE p e room_1 below s n0 Q' T90 (mkF m 91 #[.val (.int xl), .val (.int xx), .val (.int xy), .val (.int (3 : Int32)), .val (.ref b79), .val (.ref b80), .val (.ref a85), .unset] [(.int (1 : Int32))])
    refine o_ifEq X90 at_91 170 94 (by decide) (by decide) rfl (fun q => by exfalso; exact absurd q (by decide)) ?_
    intro hc91
    refine o_aload X90 at_94 rfl rfl 96 rfl ?_
    refine o_iconst (v := (2 : Int32)) X90 at_96 rfl 97 rfl ?_
    refine o_iloadN X90 at_97 rfl 98 rfl ?_
    refine o_iconst (v := (2 : Int32)) X90 at_98 rfl 99 rfl ?_
    refine o_callS X90 at_99 (rest := [(.int (2 : Int32)), (.ref a85)]) (c_bit l Z a0 hw [] n0 _ X90.size xx (2 : Int32) ) (hw _ (List.mem_of_getElem? (i := 9) rfl)) (hw _ (List.mem_of_getElem? (i := 10) rfl)) (hw _ (List.mem_of_getElem? (i := 3) rfl)) (hw _ (List.mem_of_getElem? (i := 11) rfl)) (by decide) 2 (by decide) (by decide) rfl [(.int xx), (.int (2 : Int32))] rfl pd_3 rfl rfl (Nat.le_of_eq rfl) 3 9 rfl rfl (by decide) (by decide) 102 rfl ?_
    rintro _ T91 _ X91 ⟨rfl, rfl⟩
    show OE p e room_1 below s n0 Q' T91 (mkF m 102 #[.val (.int xl), .val (.int xx), .val (.int xy), .val (.int (3 : Int32)), .val (.ref b79), .val (.ref b80), .val (.ref a85), .unset] [(.int (f_bit xx (2 : Int32))), (.int (2 : Int32)), (.ref a85)])
    refine o_callS X91 at_102 (rest := []) (c_at l Z a0 hw [] n0 _ X91.size a85 (2 : Int32) (f_bit xx (2 : Int32)) [(f_bit xx (0 : Int32)), (f_bit xy (1 : Int32)), (f_bit xx (2 : Int32))] ((b79, OA Z .boolean [(f_bit xx (0 : Int32)), (f_bit xx (1 : Int32)), (f_bit xx (2 : Int32))]) :: (b80, OA Z .boolean [(f_bit xy (0 : Int32)), (f_bit xy (1 : Int32)), (f_bit xy (2 : Int32))]) :: []) H85 2 rfl (Or.inr rfl)) (hw _ (List.mem_of_getElem? (i := 12) rfl)) (hw _ (List.mem_of_getElem? (i := 13) rfl)) (hw _ (List.mem_of_getElem? (i := 3) rfl)) (hw _ (List.mem_of_getElem? (i := 14) rfl)) (by decide) 0 (by decide) (by decide) rfl [(.ref a85), (.int (2 : Int32)), (.int (f_bit xx (2 : Int32)))] rfl pd_4 rfl rfl (Nat.le_of_eq rfl) 3 9 rfl rfl (by decide) (by decide) 105 rfl ?_
    rintro _ T92 _ X92 ⟨rfl, rfl⟩
    show OE p e room_1 below s n0 Q' T92 (mkF m 105 #[.val (.int xl), .val (.int xx), .val (.int xy), .val (.int (3 : Int32)), .val (.ref b79), .val (.ref b80), .val (.ref a85), .unset] [(.int (1 : Int32))])
    refine o_ifEq X92 at_105 170 108 (by decide) (by decide) rfl (fun q => by exfalso; exact absurd q (by decide)) ?_
    intro hc105
    refine o_aload X92 at_108 rfl rfl 110 rfl ?_
    refine o_iconst (v := (3 : Int32)) X92 at_110 rfl 111 rfl ?_
    refine o_iloadN X92 at_111 rfl 112 rfl ?_
    refine o_iconst (v := (3 : Int32)) X92 at_112 rfl 113 rfl ?_
    refine o_callS X92 at_113 (rest := [(.int (3 : Int32)), (.ref a85)]) (c_bit l Z a0 hw [] n0 _ X92.size xy (3 : Int32) ) (hw _ (List.mem_of_getElem? (i := 9) rfl)) (hw _ (List.mem_of_getElem? (i := 10) rfl)) (hw _ (List.mem_of_getElem? (i := 3) rfl)) (hw _ (List.mem_of_getElem? (i := 11) rfl)) (by decide) 2 (by decide) (by decide) rfl [(.int xy), (.int (3 : Int32))] rfl pd_3 rfl rfl (Nat.le_of_eq rfl) 3 9 rfl rfl (by decide) (by decide) 116 rfl ?_
    rintro _ T93 _ X93 ⟨rfl, rfl⟩
    show OE p e room_1 below s n0 Q' T93 (mkF m 116 #[.val (.int xl), .val (.int xx), .val (.int xy), .val (.int (3 : Int32)), .val (.ref b79), .val (.ref b80), .val (.ref a85), .unset] [(.int (f_bit xy (3 : Int32))), (.int (3 : Int32)), (.ref a85)])
    refine o_callS X93 at_116 (rest := []) (c_at l Z a0 hw [] n0 _ X93.size a85 (3 : Int32) (f_bit xy (3 : Int32)) [(f_bit xx (0 : Int32)), (f_bit xy (1 : Int32)), (f_bit xx (2 : Int32))] ((b79, OA Z .boolean [(f_bit xx (0 : Int32)), (f_bit xx (1 : Int32)), (f_bit xx (2 : Int32))]) :: (b80, OA Z .boolean [(f_bit xy (0 : Int32)), (f_bit xy (1 : Int32)), (f_bit xy (2 : Int32))]) :: []) H85 3 rfl (Or.inl (by show 3 ≤ 3; decide))) (hw _ (List.mem_of_getElem? (i := 12) rfl)) (hw _ (List.mem_of_getElem? (i := 13) rfl)) (hw _ (List.mem_of_getElem? (i := 3) rfl)) (hw _ (List.mem_of_getElem? (i := 14) rfl)) (by decide) 0 (by decide) (by decide) rfl [(.ref a85), (.int (3 : Int32)), (.int (f_bit xy (3 : Int32)))] rfl pd_4 rfl rfl (Nat.le_of_eq rfl) 3 9 rfl rfl (by decide) (by decide) 119 rfl ?_
    rintro _ T94 _ X94 ⟨rfl, rfl⟩
    show OE p e room_1 below s n0 Q' T94 (mkF m 119 #[.val (.int xl), .val (.int xx), .val (.int xy), .val (.int (3 : Int32)), .val (.ref b79), .val (.ref b80), .val (.ref a85), .unset] [(.int (1 : Int32))])
    refine o_ifEq X94 at_119 170 122 (by decide) (by decide) rfl (fun q => by exfalso; exact absurd q (by decide)) ?_
    intro hc119
    refine o_aload X94 at_122 rfl rfl 124 rfl ?_
    refine o_iconst (v := (4 : Int32)) X94 at_124 rfl 125 rfl ?_
    refine o_iloadN X94 at_125 rfl 126 rfl ?_
    refine o_iconst (v := (4 : Int32)) X94 at_126 rfl 127 rfl ?_
    refine o_callS X94 at_127 (rest := [(.int (4 : Int32)), (.ref a85)]) (c_bit l Z a0 hw [] n0 _ X94.size xx (4 : Int32) ) (hw _ (List.mem_of_getElem? (i := 9) rfl)) (hw _ (List.mem_of_getElem? (i := 10) rfl)) (hw _ (List.mem_of_getElem? (i := 3) rfl)) (hw _ (List.mem_of_getElem? (i := 11) rfl)) (by decide) 2 (by decide) (by decide) rfl [(.int xx), (.int (4 : Int32))] rfl pd_3 rfl rfl (Nat.le_of_eq rfl) 3 9 rfl rfl (by decide) (by decide) 130 rfl ?_
    rintro _ T95 _ X95 ⟨rfl, rfl⟩
    show OE p e room_1 below s n0 Q' T95 (mkF m 130 #[.val (.int xl), .val (.int xx), .val (.int xy), .val (.int (3 : Int32)), .val (.ref b79), .val (.ref b80), .val (.ref a85), .unset] [(.int (f_bit xx (4 : Int32))), (.int (4 : Int32)), (.ref a85)])
    refine o_callS X95 at_130 (rest := []) (c_at l Z a0 hw [] n0 _ X95.size a85 (4 : Int32) (f_bit xx (4 : Int32)) [(f_bit xx (0 : Int32)), (f_bit xy (1 : Int32)), (f_bit xx (2 : Int32))] ((b79, OA Z .boolean [(f_bit xx (0 : Int32)), (f_bit xx (1 : Int32)), (f_bit xx (2 : Int32))]) :: (b80, OA Z .boolean [(f_bit xy (0 : Int32)), (f_bit xy (1 : Int32)), (f_bit xy (2 : Int32))]) :: []) H85 4 rfl (Or.inl (by show 3 ≤ 4; decide))) (hw _ (List.mem_of_getElem? (i := 12) rfl)) (hw _ (List.mem_of_getElem? (i := 13) rfl)) (hw _ (List.mem_of_getElem? (i := 3) rfl)) (hw _ (List.mem_of_getElem? (i := 14) rfl)) (by decide) 0 (by decide) (by decide) rfl [(.ref a85), (.int (4 : Int32)), (.int (f_bit xx (4 : Int32)))] rfl pd_4 rfl rfl (Nat.le_of_eq rfl) 3 9 rfl rfl (by decide) (by decide) 133 rfl ?_
    rintro _ T96 _ X96 ⟨rfl, rfl⟩
    show OE p e room_1 below s n0 Q' T96 (mkF m 133 #[.val (.int xl), .val (.int xx), .val (.int xy), .val (.int (3 : Int32)), .val (.ref b79), .val (.ref b80), .val (.ref a85), .unset] [(.int (1 : Int32))])
    refine o_ifEq X96 at_133 170 136 (by decide) (by decide) rfl (fun q => by exfalso; exact absurd q (by decide)) ?_
    intro hc133
    refine o_aload X96 at_136 rfl rfl 138 rfl ?_
    refine o_iconst (v := (5 : Int32)) X96 at_138 rfl 139 rfl ?_
    refine o_iloadN X96 at_139 rfl 140 rfl ?_
    refine o_iconst (v := (5 : Int32)) X96 at_140 rfl 141 rfl ?_
    refine o_callS X96 at_141 (rest := [(.int (5 : Int32)), (.ref a85)]) (c_bit l Z a0 hw [] n0 _ X96.size xy (5 : Int32) ) (hw _ (List.mem_of_getElem? (i := 9) rfl)) (hw _ (List.mem_of_getElem? (i := 10) rfl)) (hw _ (List.mem_of_getElem? (i := 3) rfl)) (hw _ (List.mem_of_getElem? (i := 11) rfl)) (by decide) 2 (by decide) (by decide) rfl [(.int xy), (.int (5 : Int32))] rfl pd_3 rfl rfl (Nat.le_of_eq rfl) 3 9 rfl rfl (by decide) (by decide) 144 rfl ?_
    rintro _ T97 _ X97 ⟨rfl, rfl⟩
    show OE p e room_1 below s n0 Q' T97 (mkF m 144 #[.val (.int xl), .val (.int xx), .val (.int xy), .val (.int (3 : Int32)), .val (.ref b79), .val (.ref b80), .val (.ref a85), .unset] [(.int (f_bit xy (5 : Int32))), (.int (5 : Int32)), (.ref a85)])
    refine o_callS X97 at_144 (rest := []) (c_at l Z a0 hw [] n0 _ X97.size a85 (5 : Int32) (f_bit xy (5 : Int32)) [(f_bit xx (0 : Int32)), (f_bit xy (1 : Int32)), (f_bit xx (2 : Int32))] ((b79, OA Z .boolean [(f_bit xx (0 : Int32)), (f_bit xx (1 : Int32)), (f_bit xx (2 : Int32))]) :: (b80, OA Z .boolean [(f_bit xy (0 : Int32)), (f_bit xy (1 : Int32)), (f_bit xy (2 : Int32))]) :: []) H85 5 rfl (Or.inl (by show 3 ≤ 5; decide))) (hw _ (List.mem_of_getElem? (i := 12) rfl)) (hw _ (List.mem_of_getElem? (i := 13) rfl)) (hw _ (List.mem_of_getElem? (i := 3) rfl)) (hw _ (List.mem_of_getElem? (i := 14) rfl)) (by decide) 0 (by decide) (by decide) rfl [(.ref a85), (.int (5 : Int32)), (.int (f_bit xy (5 : Int32)))] rfl pd_4 rfl rfl (Nat.le_of_eq rfl) 3 9 rfl rfl (by decide) (by decide) 147 rfl ?_
    rintro _ T98 _ X98 ⟨rfl, rfl⟩
    show OE p e room_1 below s n0 Q' T98 (mkF m 147 #[.val (.int xl), .val (.int xx), .val (.int xy), .val (.int (3 : Int32)), .val (.ref b79), .val (.ref b80), .val (.ref a85), .unset] [(.int (1 : Int32))])
    refine o_ifEq X98 at_147 170 150 (by decide) (by decide) rfl (fun q => by exfalso; exact absurd q (by decide)) ?_
    intro hc147
    refine o_aload X98 at_150 rfl rfl 152 rfl ?_
    refine o_bipush (v := (6 : Int32)) X98 at_152 rfl 154 rfl ?_
    refine o_iloadN X98 at_154 rfl 155 rfl ?_
    refine o_bipush (v := (6 : Int32)) X98 at_155 rfl 157 rfl ?_
    refine o_callS X98 at_157 (rest := [(.int (6 : Int32)), (.ref a85)]) (c_bit l Z a0 hw [] n0 _ X98.size xx (6 : Int32) ) (hw _ (List.mem_of_getElem? (i := 9) rfl)) (hw _ (List.mem_of_getElem? (i := 10) rfl)) (hw _ (List.mem_of_getElem? (i := 3) rfl)) (hw _ (List.mem_of_getElem? (i := 11) rfl)) (by decide) 2 (by decide) (by decide) rfl [(.int xx), (.int (6 : Int32))] rfl pd_3 rfl rfl (Nat.le_of_eq rfl) 3 9 rfl rfl (by decide) (by decide) 160 rfl ?_
    rintro _ T99 _ X99 ⟨rfl, rfl⟩
    show OE p e room_1 below s n0 Q' T99 (mkF m 160 #[.val (.int xl), .val (.int xx), .val (.int xy), .val (.int (3 : Int32)), .val (.ref b79), .val (.ref b80), .val (.ref a85), .unset] [(.int (f_bit xx (6 : Int32))), (.int (6 : Int32)), (.ref a85)])
    refine o_callS X99 at_160 (rest := []) (c_at l Z a0 hw [] n0 _ X99.size a85 (6 : Int32) (f_bit xx (6 : Int32)) [(f_bit xx (0 : Int32)), (f_bit xy (1 : Int32)), (f_bit xx (2 : Int32))] ((b79, OA Z .boolean [(f_bit xx (0 : Int32)), (f_bit xx (1 : Int32)), (f_bit xx (2 : Int32))]) :: (b80, OA Z .boolean [(f_bit xy (0 : Int32)), (f_bit xy (1 : Int32)), (f_bit xy (2 : Int32))]) :: []) H85 6 rfl (Or.inl (by show 3 ≤ 6; decide))) (hw _ (List.mem_of_getElem? (i := 12) rfl)) (hw _ (List.mem_of_getElem? (i := 13) rfl)) (hw _ (List.mem_of_getElem? (i := 3) rfl)) (hw _ (List.mem_of_getElem? (i := 14) rfl)) (by decide) 0 (by decide) (by decide) rfl [(.ref a85), (.int (6 : Int32)), (.int (f_bit xx (6 : Int32)))] rfl pd_4 rfl rfl (Nat.le_of_eq rfl) 3 9 rfl rfl (by decide) (by decide) 163 rfl ?_
    rintro _ T100 _ X100 ⟨rfl, rfl⟩
    show OE p e room_1 below s n0 Q' T100 (mkF m 163 #[.val (.int xl), .val (.int xx), .val (.int xy), .val (.int (3 : Int32)), .val (.ref b79), .val (.ref b80), .val (.ref a85), .unset] [(.int (1 : Int32))])
    refine o_ifEq X100 at_163 170 166 (by decide) (by decide) rfl (fun q => by exfalso; exact absurd q (by decide)) ?_
    intro hc163
    refine o_iconst (v := (1 : Int32)) X100 at_166 rfl 167 rfl ?_
    refine o_goto X100 at_167 171 (by decide) (by decide) ?_
    refine o_istore X100 at_171 #[.val (.int xl), .val (.int xx), .val (.int xy), .val (.int (3 : Int32)), .val (.ref b79), .val (.ref b80), .val (.ref a85), .val (.int (1 : Int32))] rfl 173 rfl ?_
    refine o_iload X100 at_173 rfl 175 rfl ?_
    refine o_ifEq X100 at_175 200 178 (by decide) (by decide) rfl (fun q => by exfalso; exact absurd q (by decide)) ?_
    intro hc175
    refine o_aload X100 at_178 rfl rfl 180 rfl ?_
    refine o_iloadN X100 at_180 rfl 181 rfl ?_
    have H102 : OL n0 h85 ((b79, OA Z .boolean [(f_bit xx (0 : Int32)), (f_bit xx (1 : Int32)), (f_bit xx (2 : Int32))]) :: (a85, OA Z .boolean [(f_bit xx (0 : Int32)), (f_bit xy (1 : Int32)), (f_bit xx (2 : Int32))]) :: (b80, OA Z .boolean [(f_bit xy (0 : Int32)), (f_bit xy (1 : Int32)), (f_bit xy (2 : Int32))]) :: []) := H85.front 1 rfl
    refine o_callS X100 at_181 (rest := []) (c_same3 l Z a0 hw [] n0 _ X100.size b79 xx ((a85, OA Z .boolean [(f_bit xx (0 : Int32)), (f_bit xy (1 : Int32)), (f_bit xx (2 : Int32))]) :: (b80, OA Z .boolean [(f_bit xy (0 : Int32)), (f_bit xy (1 : Int32)), (f_bit xy (2 : Int32))]) :: []) H102) (hw _ (List.mem_of_getElem? (i := 15) rfl)) (hw _ (List.mem_of_getElem? (i := 16) rfl)) (hw _ (List.mem_of_getElem? (i := 3) rfl)) (hw _ (List.mem_of_getElem? (i := 17) rfl)) (by decide) 0 (by decide) (by decide) rfl [(.ref b79), (.int xx)] rfl pd_5 rfl rfl (Nat.le_of_eq rfl) 3 9 rfl rfl (by decide) (by decide) 184 rfl ?_
    rintro _ T101 _ X101 ⟨rfl, rfl⟩
    show OE p e room_1 below s n0 Q' T101 (mkF m 184 #[.val (.int xl), .val (.int xx), .val (.int xy), .val (.int (3 : Int32)), .val (.ref b79), .val (.ref b80), .val (.ref a85), .val (.int (1 : Int32))] [(.int (1 : Int32))])
    refine o_ifEq X101 at_184 200 187 (by decide) (by decide) rfl (fun q => by exfalso; exact absurd q (by decide)) ?_
    intro hc184
    refine o_aload X101 at_187 rfl rfl 189 rfl ?_
    refine o_iloadN X101 at_189 rfl 190 rfl ?_
    have H104 : OL n0 h85 ((b80, OA Z .boolean [(f_bit xy (0 : Int32)), (f_bit xy (1 : Int32)), (f_bit xy (2 : Int32))]) :: (b79, OA Z .boolean [(f_bit xx (0 : Int32)), (f_bit xx (1 : Int32)), (f_bit xx (2 : Int32))]) :: (a85, OA Z .boolean [(f_bit xx (0 : Int32)), (f_bit xy (1 : Int32)), (f_bit xx (2 : Int32))]) :: []) := H102.front 2 rfl
    refine o_callS X101 at_190 (rest := []) (c_same3 l Z a0 hw [] n0 _ X101.size b80 xy ((b79, OA Z .boolean [(f_bit xx (0 : Int32)), (f_bit xx (1 : Int32)), (f_bit xx (2 : Int32))]) :: (a85, OA Z .boolean [(f_bit xx (0 : Int32)), (f_bit xy (1 : Int32)), (f_bit xx (2 : Int32))]) :: []) H104) (hw _ (List.mem_of_getElem? (i := 15) rfl)) (hw _ (List.mem_of_getElem? (i := 16) rfl)) (hw _ (List.mem_of_getElem? (i := 3) rfl)) (hw _ (List.mem_of_getElem? (i := 17) rfl)) (by decide) 0 (by decide) (by decide) rfl [(.ref b80), (.int xy)] rfl pd_5 rfl rfl (Nat.le_of_eq rfl) 3 9 rfl rfl (by decide) (by decide) 193 rfl ?_
    rintro _ T103 _ X103 ⟨rfl, rfl⟩
    show OE p e room_1 below s n0 Q' T103 (mkF m 193 #[.val (.int xl), .val (.int xx), .val (.int xy), .val (.int (3 : Int32)), .val (.ref b79), .val (.ref b80), .val (.ref a85), .val (.int (1 : Int32))] [(.int (1 : Int32))])
    refine o_ifEq X103 at_193 200 196 (by decide) (by decide) rfl (fun q => by exfalso; exact absurd q (by decide)) ?_
    intro hc193
    refine o_iconst (v := (1 : Int32)) X103 at_196 rfl 197 rfl ?_
    refine o_goto X103 at_197 201 (by decide) (by decide) ?_
    exact o_retZ X103 at_201 (by decide) (by decide) (hQ _ _ rfl)
  · rw [hv]
    refine o_iloadN X0 at_5 rfl 6 rfl ?_
    refine o_newarray (L := []) X0 OL.nil at_6 (hw _ (List.mem_of_getElem? (i := 0) rfl)) rfl rfl 4 4 rfl (by decide) (by decide) 1 4 rfl rfl (by decide) (by decide) 8 rfl ?_
    intro T105 h105 b105 X105 H105
    replace H105 : OL n0 h105 ((b105, OA Z .boolean [(0 : Int32), (0 : Int32), (0 : Int32), (0 : Int32)]) :: []) := H105
    refine o_astore X105 at_8 rfl #[.val (.int xl), .val (.int xx), .val (.int xy), .val (.int (4 : Int32)), .val (.ref b105), .unset, .unset, .unset] rfl 10 rfl ?_
    refine o_iloadN X105 at_10 rfl 11 rfl ?_
    refine o_newarray (L := ((b105, OA Z .boolean [(0 : Int32), (0 : Int32), (0 : Int32), (0 : Int32)]) :: [])) X105 H105 at_11 (hw _ (List.mem_of_getElem? (i := 0) rfl)) rfl rfl 4 4 rfl (by decide) (by decide) 2 8 rfl rfl (by decide) (by decide) 13 rfl ?_
    intro T106 h106 b106 X106 H106
    replace H106 : OL n0 h106 ((b106, OA Z .boolean [(0 : Int32), (0 : Int32), (0 : Int32), (0 : Int32)]) :: (b105, OA Z .boolean [(0 : Int32), (0 : Int32), (0 : Int32), (0 : Int32)]) :: []) := H106
    refine o_astore X106 at_13 rfl #[.val (.int xl), .val (.int xx), .val (.int xy), .val (.int (4 : Int32)), .val (.ref b105), .val (.ref b106), .unset, .unset] rfl 15 rfl ?_
    refine o_aload X106 at_15 rfl rfl 17 rfl ?_
    refine o_iloadN X106 at_17 rfl 18 rfl ?_
    have H108 : OL n0 h106 ((b105, OA Z .boolean [(0 : Int32), (0 : Int32), (0 : Int32), (0 : Int32)]) :: (b106, OA Z .boolean [(0 : Int32), (0 : Int32), (0 : Int32), (0 : Int32)]) :: []) := H106.front 1 rfl
    refine o_callS X106 at_18 (rest := []) (c_fill4 l Z a0 hw [] n0 _ X106.size b105 xx ((b106, OA Z .boolean [(0 : Int32), (0 : Int32), (0 : Int32), (0 : Int32)]) :: []) H108) (hw _ (List.mem_of_getElem? (i := 1) rfl)) (hw _ (List.mem_of_getElem? (i := 2) rfl)) (hw _ (List.mem_of_getElem? (i := 3) rfl)) (hw _ (List.mem_of_getElem? (i := 4) rfl)) (by decide) 0 (by decide) (by decide) rfl [(.ref b105), (.int xx)] rfl pd_1 rfl rfl (Nat.le_of_eq rfl) 2 8 rfl rfl (by decide) (by decide) 21 rfl ?_
    rintro _ T107 h107 X107 ⟨rfl, H107⟩
    replace H107 : OL n0 h107 ((b105, OA Z .boolean [(f_bit xx (0 : Int32)), (f_bit xx (1 : Int32)), (f_bit xx (2 : Int32)), (f_bit xx (3 : Int32))]) :: (b106, OA Z .boolean [(0 : Int32), (0 : Int32), (0 : Int32), (0 : Int32)]) :: []) := H107
    show OE p e room_1 below s n0 Q' T107 (mkF m 21 #[.val (.int xl), .val (.int xx), .val (.int xy), .val (.int (4 : Int32)), .val (.ref b105), .val (.ref b106), .unset, .unset] [])
    refine o_aload X107 at_21 rfl rfl 23 rfl ?_
    refine o_iloadN X107 at_23 rfl 24 rfl ?_
    have H110 : OL n0 h107 ((b106, OA Z .boolean [(0 : Int32), (0 : Int32), (0 : Int32), (0 : Int32)]) :: (b105, OA Z .boolean [(f_bit xx (0 : Int32)), (f_bit xx (1 : Int32)), (f_bit xx (2 : Int32)), (f_bit xx (3 : Int32))]) :: []) := H107.front 1 rfl
    refine o_callS X107 at_24 (rest := []) (c_fill4 l Z a0 hw [] n0 _ X107.size b106 xy ((b105, OA Z .boolean [(f_bit xx (0 : Int32)), (f_bit xx (1 : Int32)), (f_bit xx (2 : Int32)), (f_bit xx (3 : Int32))]) :: []) H110) (hw _ (List.mem_of_getElem? (i := 1) rfl)) (hw _ (List.mem_of_getElem? (i := 2) rfl)) (hw _ (List.mem_of_getElem? (i := 3) rfl)) (hw _ (List.mem_of_getElem? (i := 4) rfl)) (by decide) 0 (by decide) (by decide) rfl [(.ref b106), (.int xy)] rfl pd_1 rfl rfl (Nat.le_of_eq rfl) 2 8 rfl rfl (by decide) (by decide) 27 rfl ?_
    rintro _ T109 h109 X109 ⟨rfl, H109⟩
    replace H109 : OL n0 h109 ((b106, OA Z .boolean [(f_bit xy (0 : Int32)), (f_bit xy (1 : Int32)), (f_bit xy (2 : Int32)), (f_bit xy (3 : Int32))]) :: (b105, OA Z .boolean [(f_bit xx (0 : Int32)), (f_bit xx (1 : Int32)), (f_bit xx (2 : Int32)), (f_bit xx (3 : Int32))]) :: []) := H109
    show OE p e room_1 below s n0 Q' T109 (mkF m 27 #[.val (.int xl), .val (.int xx), .val (.int xy), .val (.int (4 : Int32)), .val (.ref b105), .val (.ref b106), .unset, .unset] [])
    refine o_aload X109 at_27 rfl rfl 29 rfl ?_
    refine o_aload X109 at_29 rfl rfl 31 rfl ?_
    have H112 : OL n0 h109 ((b105, OA Z .boolean [(f_bit xx (0 : Int32)), (f_bit xx (1 : Int32)), (f_bit xx (2 : Int32)), (f_bit xx (3 : Int32))]) :: (b106, OA Z .boolean [(f_bit xy (0 : Int32)), (f_bit xy (1 : Int32)), (f_bit xy (2 : Int32)), (f_bit xy (3 : Int32))]) :: []) := H109.front 1 rfl
    refine o_callS X109 at_31 (rest := []) (c_comb4 l Z a0 hw [] n0 _ X109.size b105 b106 xx xy [] H112) (hw _ (List.mem_of_getElem? (i := 5) rfl)) (hw _ (List.mem_of_getElem? (i := 6) rfl)) (hw _ (List.mem_of_getElem? (i := 7) rfl)) (hw _ (List.mem_of_getElem? (i := 8) rfl)) (by decide) 0 (by decide) (by decide) rfl [(.ref b105), (.ref b106)] rfl pd_2 rfl rfl (Nat.le_of_eq rfl) 3 12 rfl rfl (by decide) (by decide) 34 rfl ?_
    rintro _ T111 h111 X111 ⟨a111, rfl, H111⟩
    replace H111 : OL n0 h111 ((a111, OA Z .boolean [(f_bit xx (0 : Int32)), (f_bit xy (1 : Int32)), (f_bit xx (2 : Int32)), (f_bit xy (3 : Int32))]) :: (b105, OA Z .boolean [(f_bit xx (0 : Int32)), (f_bit xx (1 : Int32)), (f_bit xx (2 : Int32)), (f_bit xx (3 : Int32))]) :: (b106, OA Z .boolean [(f_bit xy (0 : Int32)), (f_bit xy (1 : Int32)), (f_bit xy (2 : Int32)), (f_bit xy (3 : Int32))]) :: []) := H111
    show OE p e room_1 below s n0 Q' T111 (mkF m 34 #[.val (.int xl), .val (.int xx), .val (.int xy), .val (.int (4 : Int32)), .val (.ref b105), .val (.ref b106), .unset, .unset] [(.ref a111)])
    refine o_astore X111 at_34 rfl #[.val (.int xl), .val (.int xx), .val (.int xy), .val (.int (4 : Int32)), .val (.ref b105), .val (.ref b106), .val (.ref a111), .unset] rfl 36 rfl ?_
    refine o_aload X111 at_36 rfl rfl 38 rfl ?_
    refine o_ifnullR X111 at_38 41 rfl ?_
    refine o_aload X111 at_41 rfl rfl 43 rfl ?_
    refine o_arraylength X111 H111 0 rfl at_43 (4 : Int32) rfl 44 rfl ?_
    refine o_iloadN X111 at_44 rfl 45 rfl ?_
    refine o_icmpEq X111 at_45 50 48 (by decide) (by decide) rfl ?_ (fun q => by exfalso; exact absurd q (by decide))
    intro hc45
    refine o_aload X111 at_50 rfl rfl 52 rfl ?_
    refine o_aload X111 at_52 rfl rfl 54 rfl ?_
    refine o_acmpEqN X111 at_54 (H111.ne (i := 0) (j := 1) rfl rfl (by decide)) 57 rfl ?_
    refine o_aload X111 at_57 rfl rfl 59 rfl ?_
    refine o_aload X111 at_59 rfl rfl 61 rfl ?_
    refine o_acmpNeY X111 at_61 (H111.ne (i := 0) (j := 2) rfl rfl (by decide)) 66 (by decide) (by decide) ?_
    refine o_aload X111 at_66 rfl rfl 68 rfl ?_
    refine o_iconst (v := (0 : Int32)) X111 at_68 rfl 69 rfl ?_
    refine o_iloadN X111 at_69 rfl 70 rfl ?_
    refine o_iconst (v := (0 : Int32)) X111 at_70 rfl 71 rfl ?_
    refine o_callS X111 at_71 (rest := [(.int (0 : Int32)), (.ref a111)]) (c_bit l Z a0 hw [] n0 _ X111.size xx (0 : Int32) ) (hw _ (List.mem_of_getElem? (i := 9) rfl)) (hw _ (List.mem_of_getElem? (i := 10) rfl)) (hw _ (List.mem_of_getElem? (i := 3) rfl)) (hw _ (List.mem_of_getElem? (i := 11) rfl)) (by decide) 2 (by decide) (by decide) rfl [(.int xx), (.int (0 : Int32))] rfl pd_3 rfl rfl (Nat.le_of_eq rfl) 3 12 rfl rfl (by decide) (by decide) 74 rfl ?_
    rintro _ T113 _ X113 ⟨rfl, rfl⟩
    show OE p e room_1 below s n0 Q' T113 (mkF m 74 #[.val (.int xl), .val (.int xx), .val (.int xy), .val (.int (4 : Int32)), .val (.ref b105), .val (.ref b106), .val (.ref a111), .unset] [(.int (f_bit xx (0 : Int32))), (.int (0 : Int32)), (.ref a111)])
    refine o_callS X113 at_74 (rest := []) (c_at l Z a0 hw [] n0 _ X113.size a111 (0 : Int32) (f_bit xx (0 : Int32)) [(f_bit xx (0 : Int32)), (f_bit xy (1 : Int32)), (f_bit xx (2 : Int32)), (f_bit xy (3 : Int32))] ((b105, OA Z .boolean [(f_bit xx (0 : Int32)), (f_bit xx (1 : Int32)), (f_bit xx (2 : Int32)), (f_bit xx (3 : Int32))]) :: (b106, OA Z .boolean [(f_bit xy (0 : Int32)), (f_bit xy (1 : Int32)), (f_bit xy (2 : Int32)), (f_bit xy (3 : Int32))]) :: []) H111 0 rfl (Or.inr rfl)) (hw _ (List.mem_of_getElem? (i := 12) rfl)) (hw _ (List.mem_of_getElem? (i := 13) rfl)) (hw _ (List.mem_of_getElem? (i := 3) rfl)) (hw _ (List.mem_of_getElem? (i := 14) rfl)) (by decide) 0 (by decide) (by decide) rfl [(.ref a111), (.int (0 : Int32)), (.int (f_bit xx (0 : Int32)))] rfl pd_4 rfl rfl (Nat.le_of_eq rfl) 3 12 rfl rfl (by decide) (by decide) 77 rfl ?_
    rintro _ T114 _ X114 ⟨rfl, rfl⟩
    show OE p e room_1 below s n0 Q' T114 (mkF m 77 #[.val (.int xl), .val (.int xx), .val (.int xy), .val (.int (4 : Int32)), .val (.ref b105), .val (.ref b106), .val (.ref a111), .unset] [(.int (1 : Int32))])
    refine o_ifEq X114 at_77 170 80 (by decide) (by decide) rfl (fun q => by exfalso; exact absurd q (by decide)) ?_
    intro hc77
    refine o_aload X114 at_80 rfl rfl 82 rfl ?_
    refine o_iconst (v := (1 : Int32)) X114 at_82 rfl 83 rfl ?_
    refine o_iloadN X114 at_83 rfl 84 rfl ?_
    refine o_iconst (v := (1 : Int32)) X114 at_84 rfl 85 rfl ?_
    refine o_callS X114 at_85 (rest := [(.int (1 : Int32)), (.ref a111)]) (c_bit l Z a0 hw [] n0 _ X114.size xy (1 : Int32) ) (hw _ (List.mem_of_getElem? (i := 9) rfl)) (hw _ (List.mem_of_getElem? (i := 10) rfl)) (hw _ (List.mem_of_getElem? (i := 3) rfl)) (hw _ (List.mem_of_getElem? (i := 11) rfl)) (by decide) 2 (by decide) (by decide) rfl [(.int xy), (.int (1 : Int32))] rfl pd_3 rfl rfl (Nat.le_of_eq rfl) 3 12 rfl rfl (by decide) (by decide) 88 rfl ?_
    rintro _ T115 _ X115 ⟨rfl, rfl⟩
    show OE p e room_1 below s n0 Q' T115 (mkF m 88 #[.val (.int xl), .val (.int xx), .val (.int xy), .val (.int (4 : Int32)), .val (.ref b105), .val (.ref b106), .val (.ref a111), .unset] [(.int (f_bit xy (1 : Int32))), (.int (1 : Int32)), (.ref a111)])
    refine o_callS X115 at_88 (rest := []) (c_at l Z a0 hw [] n0 _ X115.size a111 (1 : Int32) (f_bit xy (1 : Int32)) [(f_bit xx (0 : Int32)), (f_bit xy (1 : Int32)), (f_bit xx (2 : Int32)), (f_bit xy (3 : Int32))] ((b105, OA Z .boolean [(f_bit xx (0 : Int32)), (f_bit xx (1 : Int32)), (f_bit xx (2 : Int32)), (f_bit xx (3 : Int32))]) :: (b106, OA Z .boolean [(f_bit xy (0 : Int32)), (f_bit xy (1 : Int32)), (f_bit xy (2 : Int32)), (f_bit xy (3 : Int32))]) :: []) H111 1 rfl (Or.inr rfl)) (hw _ (List.mem_of_getElem? (i := 12) rfl)) (hw _ (List.mem_of_getElem? (i := 13) rfl)) (hw _ (List.mem_of_getElem? (i := 3) rfl)) (hw _ (List.mem_of_getElem? (i := 14) rfl)) (by decide) 0 (by decide) (by decide) rfl [(.ref a111), (.int (1 : Int32)), (.int (f_bit xy (1 : Int32)))] rfl pd_4 rfl rfl (Nat.le_of_eq rfl) 3 12 rfl rfl (by decide) (by decide) 91 rfl ?_
    rintro _ T116 _ X116 ⟨rfl, rfl⟩
    show OE p e room_1 below s n0 Q' T116 (mkF m 91 #[.val (.int xl), .val (.int xx), .val (.int xy), .val (.int (4 : Int32)), .val (.ref b105), .val (.ref b106), .val (.ref a111), .unset] [(.int (1 : Int32))])
    refine o_ifEq X116 at_91 170 94 (by decide) (by decide) rfl (fun q => by exfalso; exact absurd q (by decide)) ?_
    intro hc91
    refine o_aload X116 at_94 rfl rfl 96 rfl ?_
    refine o_iconst (v := (2 : Int32)) X116 at_96 rfl 97 rfl ?_
    refine o_iloadN X116 at_97 rfl 98 rfl ?_
    refine o_iconst (v := (2 : Int32)) X116 at_98 rfl 99 rfl ?_
    refine o_callS X116 at_99 (rest := [(.int (2 : Int32)), (.ref a111)]) (c_bit l Z a0 hw [] n0 _ X116.size xx (2 : Int32) ) (hw _ (List.mem_of_getElem? (i := 9) rfl)) (hw _ (List.mem_of_getElem? (i := 10) rfl)) (hw _ (List.mem_of_getElem? (i := 3) rfl)) (hw _ (List.mem_of_getElem? (i := 11) rfl)) (by decide) 2 (by decide) (by decide) rfl [(.int xx), (.int (2 : Int32))] rfl pd_3 rfl rfl (Nat.le_of_eq rfl) 3 12 rfl rfl (by decide) (by decide) 102 rfl ?_
    rintro _ T117 _ X117 ⟨rfl, rfl⟩
    show OE p e room_1 below s n0 Q' T117 (mkF m 102 #[.val (.int xl), .val (.int xx), .val (.int xy), .val (.int (4 : Int32)), .val (.ref b105), .val (.ref b106), .val (.ref a111), .unset] [(.int (f_bit xx (2 : Int32))), (.int (2 : Int32)), (.ref a111)])
    refine o_callS X117 at_102 (rest := []) (c_at l Z a0 hw [] n0 _ X117.size a111 (2 : Int32) (f_bit xx (2 : Int32)) [(f_bit xx (0 : Int32)), (f_bit xy (1 : Int32)), (f_bit xx (2 : Int32)), (f_bit xy (3 : Int32))] ((b105, OA Z .boolean [(f_bit xx (0 : Int32)), (f_bit xx (1 : Int32)), (f_bit xx (2 : Int32)), (f_bit xx (3 : Int32))]) :: (b106, OA Z .boolean [(f_bit xy (0 : Int32)), (f_bit xy (1 : Int32)), (f_bit xy (2 : Int32)), (f_bit xy (3 : Int32))]) :: []) H111 2 rfl (Or.inr rfl)) (hw _ (List.mem_of_getElem? (i := 12) rfl)) (hw _ (List.mem_of_getElem? (i := 13) rfl)) (hw _ (List.mem_of_getElem? (i := 3) rfl)) (hw _ (List.mem_of_getElem? (i := 14) rfl)) (by decide) 0 (by decide) (by decide) rfl [(.ref a111), (.int (2 : Int32)), (.int (f_bit xx (2 : Int32)))] rfl pd_4 rfl rfl (Nat.le_of_eq rfl) 3 12 rfl rfl (by decide) (by decide) 105 rfl ?_
    rintro _ T118 _ X118 ⟨rfl, rfl⟩
    show OE p e room_1 below s n0 Q' T118 (mkF m 105 #[.val (.int xl), .val (.int xx), .val (.int xy), .val (.int (4 : Int32)), .val (.ref b105), .val (.ref b106), .val (.ref a111), .unset] [(.int (1 : Int32))])
    refine o_ifEq X118 at_105 170 108 (by decide) (by decide) rfl (fun q => by exfalso; exact absurd q (by decide)) ?_
    intro hc105
    refine o_aload X118 at_108 rfl rfl 110 rfl ?_
    refine o_iconst (v := (3 : Int32)) X118 at_110 rfl 111 rfl ?_
    refine o_iloadN X118 at_111 rfl 112 rfl ?_
    refine o_iconst (v := (3 : Int32)) X118 at_112 rfl 113 rfl ?_
    refine o_callS X118 at_113 (rest := [(.int (3 : Int32)), (.ref a111)]) (c_bit l Z a0 hw [] n0 _ X118.size xy (3 : Int32) ) (hw _ (List.mem_of_getElem? (i := 9) rfl)) (hw _ (List.mem_of_getElem? (i := 10) rfl)) (hw _ (List.mem_of_getElem? (i := 3) rfl)) (hw _ (List.mem_of_getElem? (i := 11) rfl)) (by decide) 2 (by decide) (by decide) rfl [(.int xy), (.int (3 : Int32))] rfl pd_3 rfl rfl (Nat.le_of_eq rfl) 3 12 rfl rfl (by decide) (by decide) 116 rfl ?_
    rintro _ T119 _ X119 ⟨rfl, rfl⟩
    show OE p e room_1 below s n0 Q' T119 (mkF m 116 #[.val (.int xl), .val (.int xx), .val (.int xy), .val (.int (4 : Int32)), .val (.ref b105), .val (.ref b106), .val (.ref a111), .unset] [(.int (f_bit xy (3 : Int32))), (.int (3 : Int32)), (.ref a111)])
    refine o_callS X119 at_116 (rest := []) (c_at l Z a0 hw [] n0 _ X119.size a111 (3 : Int32) (f_bit xy (3 : Int32)) [(f_bit xx (0 : Int32)), (f_bit xy (1 : Int32)), (f_bit xx (2 : Int32)), (f_bit xy (3 : Int32))] ((b105, OA Z .boolean [(f_bit xx (0 : Int32)), (f_bit xx (1 : Int32)), (f_bit xx (2 : Int32)), (f_bit xx (3 : Int32))]) :: (b106, OA Z .boolean [(f_bit xy (0 : Int32)), (f_bit xy (1 : Int32)), (f_bit xy (2 : Int32)), (f_bit xy (3 : Int32))]) :: []) H111 3 rfl (Or.inr rfl)) (hw _ (List.mem_of_getElem? (i := 12) rfl)) (hw _ (List.mem_of_getElem? (i := 13) rfl)) (hw _ (List.mem_of_getElem? (i := 3) rfl)) (hw _ (List.mem_of_getElem? (i := 14) rfl)) (by decide) 0 (by decide) (by decide) rfl [(.ref a111), (.int (3 : Int32)), (.int (f_bit xy (3 : Int32)))] rfl pd_4 rfl rfl (Nat.le_of_eq rfl) 3 12 rfl rfl (by decide) (by decide) 119 rfl ?_
    rintro _ T120 _ X120 ⟨rfl, rfl⟩
    show OE p e room_1 below s n0 Q' T120 (mkF m 119 #[.val (.int xl), .val (.int xx), .val (.int xy), .val (.int (4 : Int32)), .val (.ref b105), .val (.ref b106), .val (.ref a111), .unset] [(.int (1 : Int32))])
    refine o_ifEq X120 at_119 170 122 (by decide) (by decide) rfl (fun q => by exfalso; exact absurd q (by decide)) ?_
    intro hc119
    refine o_aload X120 at_122 rfl rfl 124 rfl ?_
    refine o_iconst (v := (4 : Int32)) X120 at_124 rfl 125 rfl ?_
    refine o_iloadN X120 at_125 rfl 126 rfl ?_
    refine o_iconst (v := (4 : Int32)) X120 at_126 rfl 127 rfl ?_
    refine o_callS X120 at_127 (rest := [(.int (4 : Int32)), (.ref a111)]) (c_bit l Z a0 hw [] n0 _ X120.size xx (4 : Int32) ) (hw _ (List.mem_of_getElem? (i := 9) rfl)) (hw _ (List.mem_of_getElem? (i := 10) rfl)) (hw _ (List.mem_of_getElem? (i := 3) rfl)) (hw _ (List.mem_of_getElem? (i := 11) rfl)) (by decide) 2 (by decide) (by decide) rfl [(.int xx), (.int (4 : Int32))] rfl pd_3 rfl rfl (Nat.le_of_eq rfl) 3 12 rfl rfl (by decide) (by decide) 130 rfl ?_
    rintro _ T121 _ X121 ⟨rfl, rfl⟩
    show OE p e room_1 below s n0 Q' T121 (mkF m 130 #[.val (.int xl), .val (.int xx), .val (.int xy), .val (.int (4 : Int32)), .val (.ref b105), .val (.ref b106), .val (.ref a111), .unset] [(.int (f_bit xx (4 : Int32))), (.int (4 : Int32)), (.ref a111)])
    refine o_callS X121 at_130 (rest := []) (c_at l Z a0 hw [] n0 _ X121.size a111 (4 : Int32) (f_bit xx (4 : Int32)) [(f_bit xx (0 : Int32)), (f_bit xy (1 : Int32)), (f_bit xx (2 : Int32)), (f_bit xy (3 : Int32))] ((b105, OA Z .boolean [(f_bit xx (0 : Int32)), (f_bit xx (1 : Int32)), (f_bit xx (2 : Int32)), (f_bit xx (3 : Int32))]) :: (b106, OA Z .boolean [(f_bit xy (0 : Int32)), (f_bit xy (1 : Int32)), (f_bit xy (2 : Int32)), (f_bit xy (3 : Int32))]) :: []) H111 4 rfl (Or.inl (by show 4 ≤ 4; decide))) (hw _ (List.mem_of_getElem? (i := 12) rfl)) (hw _ (List.mem_of_getElem? (i := 13) rfl)) (hw _ (List.mem_of_getElem? (i := 3) rfl)) (hw _ (List.mem_of_getElem? (i := 14) rfl)) (by decide) 0 (by decide) (by decide) rfl [(.ref a111), (.int (4 : Int32)), (.int (f_bit xx (4 : Int32)))] rfl pd_4 rfl rfl (Nat.le_of_eq rfl) 3 12 rfl rfl (by decide) (by decide) 133 rfl ?_
    rintro _ T122 _ X122 ⟨rfl, rfl⟩
    show OE p e room_1 below s n0 Q' T122 (mkF m 133 #[.val (.int xl), .val (.int xx), .val (.int xy), .val (.int (4 : Int32)), .val (.ref b105), .val (.ref b106), .val (.ref a111), .unset] [(.int (1 : Int32))])
    refine o_ifEq X122 at_133 170 136 (by decide) (by decide) rfl (fun q => by exfalso; exact absurd q (by decide)) ?_
    intro hc133
    refine o_aload X122 at_136 rfl rfl 138 rfl ?_
    refine o_iconst (v := (5 : Int32)) X122 at_138 rfl 139 rfl ?_
    refine o_iloadN X122 at_139 rfl 140 rfl ?_
    refine o_iconst (v := (5 : Int32)) X122 at_140 rfl 141 rfl ?_
    refine o_callS X122 at_141 (rest := [(.int (5 : Int32)), (.ref a111)]) (c_bit l Z a0 hw [] n0 _ X122.size xy (5 : Int32) ) (hw _ (List.mem_of_getElem? (i := 9) rfl)) (hw _ (List.mem_of_getElem? (i := 10) rfl)) (hw _ (List.mem_of_getElem? (i := 3) rfl)) (hw _ (List.mem_of_getElem? (i := 11) rfl)) (by decide) 2 (by decide) (by decide) rfl [(.int xy), (.int (5 : Int32))] rfl pd_3 rfl rfl (Nat.le_of_eq rfl) 3 12 rfl rfl (by decide) (by decide) 144 rfl ?_
    rintro _ T123 _ X123 ⟨rfl, rfl⟩
    show OE p e room_1 below s n0 Q' T123 (mkF m 144 #[.val (.int xl), .val (.int xx), .val (.int xy), .val (.int (4 : Int32)), .val (.ref b105), .val (.ref b106), .val (.ref a111), .unset] [(.int (f_bit xy (5 : Int32))), (.int (5 : Int32)), (.ref a111)])
    refine o_callS X123 at_144 (rest := []) (c_at l Z a0 hw [] n0 _ X123.size a111 (5 : Int32) (f_bit xy (5 : Int32)) [(f_bit xx (0 : Int32)), (f_bit xy (1 : Int32)), (f_bit xx (2 : Int32)), (f_bit xy (3 : Int32))] ((b105, OA Z .boolean [(f_bit xx (0 : Int32)), (f_bit xx (1 : Int32)), (f_bit xx (2 : Int32)), (f_bit xx (3 : Int32))]) :: (b106, OA Z .boolean [(f_bit xy (0 : Int32)), (f_bit xy (1 : Int32)), (f_bit xy (2 : Int32)), (f_bit xy (3 : Int32))]) :: []) H111 5 rfl (Or.inl (by show 4 ≤ 5; decide))) (hw _ (List.mem_of_getElem? (i := 12) rfl)) (hw _ (List.mem_of_getElem? (i := 13) rfl)) (hw _ (List.mem_of_getElem? (i := 3) rfl)) (hw _ (List.mem_of_getElem? (i := 14) rfl)) (by decide) 0 (by decide) (by decide) rfl [(.ref a111), (.int (5 : Int32)), (.int (f_bit xy (5 : Int32)))] rfl pd_4 rfl rfl (Nat.le_of_eq rfl) 3 12 rfl rfl (by decide) (by decide) 147 rfl ?_
    rintro _ T124 _ X124 ⟨rfl, rfl⟩
    show OE p e room_1 below s n0 Q' T124 (mkF m 147 #[.val (.int xl), .val (.int xx), .val (.int xy), .val (.int (4 : Int32)), .val (.ref b105), .val (.ref b106), .val (.ref a111), .unset] [(.int (1 : Int32))])
    refine o_ifEq X124 at_147 170 150 (by decide) (by decide) rfl (fun q => by exfalso; exact absurd q (by decide)) ?_
    intro hc147
    refine o_aload X124 at_150 rfl rfl 152 rfl ?_
    refine o_bipush (v := (6 : Int32)) X124 at_152 rfl 154 rfl ?_
    refine o_iloadN X124 at_154 rfl 155 rfl ?_
    refine o_bipush (v := (6 : Int32)) X124 at_155 rfl 157 rfl ?_
    refine o_callS X124 at_157 (rest := [(.int (6 : Int32)), (.ref a111)]) (c_bit l Z a0 hw [] n0 _ X124.size xx (6 : Int32) ) (hw _ (List.mem_of_getElem? (i := 9) rfl)) (hw _ (List.mem_of_getElem? (i := 10) rfl)) (hw _ (List.mem_of_getElem? (i := 3) rfl)) (hw _ (List.mem_of_getElem? (i := 11) rfl)) (by decide) 2 (by decide) (by decide) rfl [(.int xx), (.int (6 : Int32))] rfl pd_3 rfl rfl (Nat.le_of_eq rfl) 3 12 rfl rfl (by decide) (by decide) 160 rfl ?_
    rintro _ T125 _ X125 ⟨rfl, rfl⟩
    show OE p e room_1 below s n0 Q' T125 (mkF m 160 #[.val (.int xl), .val (.int xx), .val (.int xy), .val (.int (4 : Int32)), .val (.ref b105), .val (.ref b106), .val (.ref a111), .unset] [(.int (f_bit xx (6 : Int32))), (.int (6 : Int32)), (.ref a111)])
    refine o_callS X125 at_160 (rest := []) (c_at l Z a0 hw [] n0 _ X125.size a111 (6 : Int32) (f_bit xx (6 : Int32)) [(f_bit xx (0 : Int32)), (f_bit xy (1 : Int32)), (f_bit xx (2 : Int32)), (f_bit xy (3 : Int32))] ((b105, OA Z .boolean [(f_bit xx (0 : Int32)), (f_bit xx (1 : Int32)), (f_bit xx (2 : Int32)), (f_bit xx (3 : Int32))]) :: (b106, OA Z .boolean [(f_bit xy (0 : Int32)), (f_bit xy (1 : Int32)), (f_bit xy (2 : Int32)), (f_bit xy (3 : Int32))]) :: []) H111 6 rfl (Or.inl (by show 4 ≤ 6; decide))) (hw _ (List.mem_of_getElem? (i := 12) rfl)) (hw _ (List.mem_of_getElem? (i := 13) rfl)) (hw _ (List.mem_of_getElem? (i := 3) rfl)) (hw _ (List.mem_of_getElem? (i := 14) rfl)) (by decide) 0 (by decide) (by decide) rfl [(.ref a111), (.int (6 : Int32)), (.int (f_bit xx (6 : Int32)))] rfl pd_4 rfl rfl (Nat.le_of_eq rfl) 3 12 rfl rfl (by decide) (by decide) 163 rfl ?_
    rintro _ T126 _ X126 ⟨rfl, rfl⟩
    show OE p e room_1 below s n0 Q' T126 (mkF m 163 #[.val (.int xl), .val (.int xx), .val (.int xy), .val (.int (4 : Int32)), .val (.ref b105), .val (.ref b106), .val (.ref a111), .unset] [(.int (1 : Int32))])
    refine o_ifEq X126 at_163 170 166 (by decide) (by decide) rfl (fun q => by exfalso; exact absurd q (by decide)) ?_
    intro hc163
    refine o_iconst (v := (1 : Int32)) X126 at_166 rfl 167 rfl ?_
    refine o_goto X126 at_167 171 (by decide) (by decide) ?_
    refine o_istore X126 at_171 #[.val (.int xl), .val (.int xx), .val (.int xy), .val (.int (4 : Int32)), .val (.ref b105), .val (.ref b106), .val (.ref a111), .val (.int (1 : Int32))] rfl 173 rfl ?_
    refine o_iload X126 at_173 rfl 175 rfl ?_
    refine o_ifEq X126 at_175 200 178 (by decide) (by decide) rfl (fun q => by exfalso; exact absurd q (by decide)) ?_
    intro hc175
    refine o_aload X126 at_178 rfl rfl 180 rfl ?_
    refine o_iloadN X126 at_180 rfl 181 rfl ?_
    have H128 : OL n0 h111 ((b105, OA Z .boolean [(f_bit xx (0 : Int32)), (f_bit xx (1 : Int32)), (f_bit xx (2 : Int32)), (f_bit xx (3 : Int32))]) :: (a111, OA Z .boolean [(f_bit xx (0 : Int32)), (f_bit xy (1 : Int32)), (f_bit xx (2 : Int32)), (f_bit xy (3 : Int32))]) :: (b106, OA Z .boolean [(f_bit xy (0 : Int32)), (f_bit xy (1 : Int32)), (f_bit xy (2 : Int32)), (f_bit xy (3 : Int32))]) :: []) := H111.front 1 rfl
    refine o_callS X126 at_181 (rest := []) (c_same4 l Z a0 hw [] n0 _ X126.size b105 xx ((a111, OA Z .boolean [(f_bit xx (0 : Int32)), (f_bit xy (1 : Int32)), (f_bit xx (2 : Int32)), (f_bit xy (3 : Int32))]) :: (b106, OA Z .boolean [(f_bit xy (0 : Int32)), (f_bit xy (1 : Int32)), (f_bit xy (2 : Int32)), (f_bit xy (3 : Int32))]) :: []) H128) (hw _ (List.mem_of_getElem? (i := 15) rfl)) (hw _ (List.mem_of_getElem? (i := 16) rfl)) (hw _ (List.mem_of_getElem? (i := 3) rfl)) (hw _ (List.mem_of_getElem? (i := 17) rfl)) (by decide) 0 (by decide) (by decide) rfl [(.ref b105), (.int xx)] rfl pd_5 rfl rfl (Nat.le_of_eq rfl) 3 12 rfl rfl (by decide) (by decide) 184 rfl ?_
    rintro _ T127 _ X127 ⟨rfl, rfl⟩
    show OE p e room_1 below s n0 Q' T127 (mkF m 184 #[.val (.int xl), .val (.int xx), .val (.int xy), .val (.int (4 : Int32)), .val (.ref b105), .val (.ref b106), .val (.ref a111), .val (.int (1 : Int32))] [(.int (1 : Int32))])
    refine o_ifEq X127 at_184 200 187 (by decide) (by decide) rfl (fun q => by exfalso; exact absurd q (by decide)) ?_
    intro hc184
    refine o_aload X127 at_187 rfl rfl 189 rfl ?_
    refine o_iloadN X127 at_189 rfl 190 rfl ?_
    have H130 : OL n0 h111 ((b106, OA Z .boolean [(f_bit xy (0 : Int32)), (f_bit xy (1 : Int32)), (f_bit xy (2 : Int32)), (f_bit xy (3 : Int32))]) :: (b105, OA Z .boolean [(f_bit xx (0 : Int32)), (f_bit xx (1 : Int32)), (f_bit xx (2 : Int32)), (f_bit xx (3 : Int32))]) :: (a111, OA Z .boolean [(f_bit xx (0 : Int32)), (f_bit xy (1 : Int32)), (f_bit xx (2 : Int32)), (f_bit xy (3 : Int32))]) :: []) := H128.front 2 rfl
    refine o_callS X127 at_190 (rest := []) (c_same4 l Z a0 hw [] n0 _ X127.size b106 xy ((b105, OA Z .boolean [(f_bit xx (0 : Int32)), (f_bit xx (1 : Int32)), (f_bit xx (2 : Int32)), (f_bit xx (3 : Int32))]) :: (a111, OA Z .boolean [(f_bit xx (0 : Int32)), (f_bit xy (1 : Int32)), (f_bit xx (2 : Int32)), (f_bit xy (3 : Int32))]) :: []) H130) (hw _ (List.mem_of_getElem? (i := 15) rfl)) (hw _ (List.mem_of_getElem? (i := 16) rfl)) (hw _ (List.mem_of_getElem? (i := 3) rfl)) (hw _ (List.mem_of_getElem? (i := 17) rfl)) (by decide) 0 (by decide) (by decide) rfl [(.ref b106), (.int xy)] rfl pd_5 rfl rfl (Nat.le_of_eq rfl) 3 12 rfl rfl (by decide) (by decide) 193 rfl ?_
    rintro _ T129 _ X129 ⟨rfl, rfl⟩
    show OE p e room_1 below s n0 Q' T129 (mkF m 193 #[.val (.int xl), .val (.int xx), .val (.int xy), .val (.int (4 : Int32)), .val (.ref b105), .val (.ref b106), .val (.ref a111), .val (.int (1 : Int32))] [(.int (1 : Int32))])
    refine o_ifEq X129 at_193 200 196 (by decide) (by decide) rfl (fun q => by exfalso; exact absurd q (by decide)) ?_
    intro hc193
    refine o_iconst (v := (1 : Int32)) X129 at_196 rfl 197 rfl ?_
    refine o_goto X129 at_197 201 (by decide) (by decide) ?_
    exact o_retZ X129 at_201 (by decide) (by decide) (hQ _ _ rfl)
  · rw [hv]
    refine o_iloadN X0 at_5 rfl 6 rfl ?_
    refine o_newarray (L := []) X0 OL.nil at_6 (hw _ (List.mem_of_getElem? (i := 0) rfl)) rfl rfl 5 5 rfl (by decide) (by decide) 1 5 rfl rfl (by decide) (by decide) 8 rfl ?_
    intro T131 h131 b131 X131 H131
    replace H131 : OL n0 h131 ((b131, OA Z .boolean [(0 : Int32), (0 : Int32), (0 : Int32), (0 : Int32), (0 : Int32)]) :: []) := H131
    refine o_astore X131 at_8 rfl #[.val (.int xl), .val (.int xx), .val (.int xy), .val (.int (5 : Int32)), .val (.ref b131), .unset, .unset, .unset] rfl 10 rfl ?_
    refine o_iloadN X131 at_10 rfl 11 rfl ?_
    refine o_newarray (L := ((b131, OA Z .boolean [(0 : Int32), (0 : Int32), (0 : Int32), (0 : Int32), (0 : Int32)]) :: [])) X131 H131 at_11 (hw _ (List.mem_of_getElem? (i := 0) rfl)) rfl rfl 5 5 rfl (by decide) (by decide) 2 10 rfl rfl (by decide) (by decide) 13 rfl ?_
    intro T132 h132 b132 X132 H132
    replace H132 : OL n0 h132 ((b132, OA Z .boolean [(0 : Int32), (0 : Int32), (0 : Int32), (0 : Int32), (0 : Int32)]) :: (b131, OA Z .boolean [(0 : Int32), (0 : Int32), (0 : Int32), (0 : Int32), (0 : Int32)]) :: []) := H132
    refine o_astore X132 at_13 rfl #[.val (.int xl), .val (.int xx), .val (.int xy), .val (.int (5 : Int32)), .val (.ref b131), .val (.ref b132), .unset, .unset] rfl 15 rfl ?_
    refine o_aload X132 at_15 rfl rfl 17 rfl ?_
    refine o_iloadN X132 at_17 rfl 18 rfl ?_
    have H134 : OL n0 h132 ((b131, OA Z .boolean [(0 : Int32), (0 : Int32), (0 : Int32), (0 : Int32), (0 : Int32)]) :: (b132, OA Z .boolean [(0 : Int32), (0 : Int32), (0 : Int32), (0 : Int32), (0 : Int32)]) :: []) := H132.front 1 rfl
    refine o_callS X132 at_18 (rest := []) (c_fill5 l Z a0 hw [] n0 _ X132.size b131 xx ((b132, OA Z .boolean [(0 : Int32), (0 : Int32), (0 : Int32), (0 : Int32), (0 : Int32)]) :: []) H134) (hw _ (List.mem_of_getElem? (i := 1) rfl)) (hw _ (List.mem_of_getElem? (i := 2) rfl)) (hw _ (List.mem_of_getElem? (i := 3) rfl)) (hw _ (List.mem_of_getElem? (i := 4) rfl)) (by decide) 0 (by decide) (by decide) rfl [(.ref b131), (.int xx)] rfl pd_1 rfl rfl (Nat.le_of_eq rfl) 2 10 rfl rfl (by decide) (by decide) 21 rfl ?_
    rintro _ T133 h133 X133 ⟨rfl, H133⟩
    replace H133 : OL n0 h133 ((b131, OA Z .boolean [(f_bit xx (0 : Int32)), (f_bit xx (1 : Int32)), (f_bit xx (2 : Int32)), (f_bit xx (3 : Int32)), (f_bit xx (4 : Int32))]) :: (b132, OA Z .boolean [(0 : Int32), (0 : Int32), (0 : Int32), (0 : Int32), (0 : Int32)]) :: []) := H133
    show OE p e room_1 below s n0 Q' T133 (mkF m 21 #[.val (.int xl), .val (.int xx), .val (.int xy), .val (.int (5 : Int32)), .val (.ref b131), .val (.ref b132), .unset, .unset] [])
    refine o_aload X133 at_21 rfl rfl 23 rfl ?_
    refine o_iloadN X133 at_23 rfl 24 rfl ?_
    have H136 : OL n0 h133 ((b132, OA Z .boolean [(0 : Int32), (0 : Int32), (0 : Int32), (0 : Int32), (0 : Int32)]) :: (b131, OA Z .boolean [(f_bit xx (0 : Int32)), (f_bit xx (1 : Int32)), (f_bit xx (2 : Int32)), (f_bit xx (3 : Int32)), (f_bit xx (4 : Int32))]) :: []) := H133.front 1 rfl
    refine o_callS X133 at_24 (rest := []) (c_fill5 l Z a0 hw [] n0 _ X133.size b132 xy ((b131, OA Z .boolean [(f_bit xx (0 : Int32)), (f_bit xx (1 : Int32)), (f_bit xx (2 : Int32)), (f_bit xx (3 : Int32)), (f_bit xx (4 : Int32))]) :: []) H136) (hw _ (List.mem_of_getElem? (i := 1) rfl)) (hw _ (List.mem_of_getElem? (i := 2) rfl)) (hw _ (List.mem_of_getElem? (i := 3) rfl)) (hw _ (List.mem_of_getElem? (i := 4) rfl)) (by decide) 0 (by decide) (by decide) rfl [(.ref b132), (.int xy)] rfl pd_1 rfl rfl (Nat.le_of_eq rfl) 2 10 rfl rfl (by decide) (by decide) 27 rfl ?_
    rintro _ T135 h135 X135 ⟨rfl, H135⟩
    replace H135 : OL n0 h135 ((b132, OA Z .boolean [(f_bit xy (0 : Int32)), (f_bit xy (1 : Int32)), (f_bit xy (2 : Int32)), (f_bit xy (3 : Int32)), (f_bit xy (4 : Int32))]) :: (b131, OA Z .boolean [(f_bit xx (0 : Int32)), (f_bit xx (1 : Int32)), (f_bit xx (2 : Int32)), (f_bit xx (3 : Int32)), (f_bit xx (4 : Int32))]) :: []) := H135
    show OE p e room_1 below s n0 Q' T135 (mkF m 27 #[.val (.int xl), .val (.int xx), .val (.int xy), .val (.int (5 : Int32)), .val (.ref b131), .val (.ref b132), .unset, .unset] [])
    refine o_aload X135 at_27 rfl rfl 29 rfl ?_
    refine o_aload X135 at_29 rfl rfl 31 rfl ?_
    have H138 : OL n0 h135 ((b131, OA Z .boolean [(f_bit xx (0 : Int32)), (f_bit xx (1 : Int32)), (f_bit xx (2 : Int32)), (f_bit xx (3 : Int32)), (f_bit xx (4 : Int32))]) :: (b132, OA Z .boolean [(f_bit xy (0 : Int32)), (f_bit xy (1 : Int32)), (f_bit xy (2 : Int32)), (f_bit xy (3 : Int32)), (f_bit xy (4 : Int32))]) :: []) := H135.front 1 rfl
    refine o_callS X135 at_31 (rest := []) (c_comb5 l Z a0 hw [] n0 _ X135.size b131 b132 xx xy [] H138) (hw _ (List.mem_of_getElem? (i := 5) rfl)) (hw _ (List.mem_of_getElem? (i := 6) rfl)) (hw _ (List.mem_of_getElem? (i := 7) rfl)) (hw _ (List.mem_of_getElem? (i := 8) rfl)) (by decide) 0 (by decide) (by decide) rfl [(.ref b131), (.ref b132)] rfl pd_2 rfl rfl (Nat.le_of_eq rfl) 3 15 rfl rfl (by decide) (by decide) 34 rfl ?_
    rintro _ T137 h137 X137 ⟨a137, rfl, H137⟩
    replace H137 : OL n0 h137 ((a137, OA Z .boolean [(f_bit xx (0 : Int32)), (f_bit xy (1 : Int32)), (f_bit xx (2 : Int32)), (f_bit xy (3 : Int32)), (f_bit xx (4 : Int32))]) :: (b131, OA Z .boolean [(f_bit xx (0 : Int32)), (f_bit xx (1 : Int32)), (f_bit xx (2 : Int32)), (f_bit xx (3 : Int32)), (f_bit xx (4 : Int32))]) :: (b132, OA Z .boolean [(f_bit xy (0 : Int32)), (f_bit xy (1 : Int32)), (f_bit xy (2 : Int32)), (f_bit xy (3 : Int32)), (f_bit xy (4 : Int32))]) :: []) := H137
    show OE p e room_1 below s n0 Q' T137 (mkF m 34 #[.val (.int xl), .val (.int xx), .val (.int xy), .val (.int (5 : Int32)), .val (.ref b131), .val (.ref b132), .unset, .unset] [(.ref a137)])
    refine o_astore X137 at_34 rfl #[.val (.int xl), .val (.int xx), .val (.int xy), .val (.int (5 : Int32)), .val (.ref b131), .val (.ref b132), .val (.ref a137), .unset] rfl 36 rfl ?_
    refine o_aload X137 at_36 rfl rfl 38 rfl ?_
    refine o_ifnullR X137 at_38 41 rfl ?_
    refine o_aload X137 at_41 rfl rfl 43 rfl ?_
    refine o_arraylength X137 H137 0 rfl at_43 (5 : Int32) rfl 44 rfl ?_
    refine o_iloadN X137 at_44 rfl 45 rfl ?_
    refine o_icmpEq X137 at_45 50 48 (by decide) (by decide) rfl ?_ (fun q => by exfalso; exact absurd q (by decide))
    intro hc45
    refine o_aload X137 at_50 rfl rfl 52 rfl ?_
    refine o_aload X137 at_52 rfl rfl 54 rfl ?_
    refine o_acmpEqN X137 at_54 (H137.ne (i := 0) (j := 1) rfl rfl (by decide)) 57 rfl ?_
    refine o_aload X137 at_57 rfl rfl 59 rfl ?_
    refine o_aload X137 at_59 rfl rfl 61 rfl ?_
    refine o_acmpNeY X137 at_61 (H137.ne (i := 0) (j := 2) rfl rfl (by decide)) 66 (by decide) (by decide) ?_
    refine o_aload X137 at_66 rfl rfl 68 rfl ?_
    refine o_iconst (v := (0 : Int32)) X137 at_68 rfl 69 rfl ?_
    refine o_iloadN X137 at_69 rfl 70 rfl ?_
    refine o_iconst (v := (0 : Int32)) X137 at_70 rfl 71 rfl ?_
    refine o_callS X137 at_71 (rest := [(.int (0 : Int32)), (.ref a137)]) (c_bit l Z a0 hw [] n0 _ X137.size xx (0 : Int32) ) (hw _ (List.mem_of_getElem? (i := 9) rfl)) (hw _ (List.mem_of_getElem? (i := 10) rfl)) (hw _ (List.mem_of_getElem? (i := 3) rfl)) (hw _ (List.mem_of_getElem? (i := 11) rfl)) (by decide) 2 (by decide) (by decide) rfl [(.int xx), (.int (0 : Int32))] rfl pd_3 rfl rfl (Nat.le_of_eq rfl) 3 15 rfl rfl (by decide) (by decide) 74 rfl ?_
    rintro _ T139 _ X139 ⟨rfl, rfl⟩
    show OE p e room_1 below s n0 Q' T139 (mkF m 74 #[.val (.int xl), .val (.int xx), .val (.int xy), .val (.int (5 : Int32)), .val (.ref b131), .val (.ref b132), .val (.ref a137), .unset] [(.int (f_bit xx (0 : Int32))), (.int (0 : Int32)), (.ref a137)])
    refine o_callS X139 at_74 (rest := []) (c_at l Z a0 hw [] n0 _ X139.size a137 (0 : Int32) (f_bit xx (0 : Int32)) [(f_bit xx (0 : Int32)), (f_bit xy (1 : Int32)), (f_bit xx (2 : Int32)), (f_bit xy (3 : Int32)), (f_bit xx (4 : Int32))] ((b131, OA Z .boolean [(f_bit xx (0 : Int32)), (f_bit xx (1 : Int32)), (f_bit xx (2 : Int32)), (f_bit xx (3 : Int32)), (f_bit xx (4 : Int32))]) :: (b132, OA Z .boolean [(f_bit xy (0 : Int32)), (f_bit xy (1 : Int32)), (f_bit xy (2 : Int32)), (f_bit xy (3 : Int32)), (f_bit xy (4 : Int32))]) :: []) H137 0 rfl (Or.inr rfl)) (hw _ (List.mem_of_getElem? (i := 12) rfl)) (hw _ (List.mem_of_getElem? (i := 13) rfl)) (hw _ (List.mem_of_getElem? (i := 3) rfl)) (hw _ (List.mem_of_getElem? (i := 14) rfl)) (by decide) 0 (by decide) (by decide) rfl [(.ref a137), (.int (0 : Int32)), (.int (f_bit xx (0 : Int32)))] rfl pd_4 rfl rfl (Nat.le_of_eq rfl) 3 15 rfl rfl (by decide) (by decide) 77 rfl ?_
    rintro _ T140 _ X140 ⟨rfl, rfl⟩
    show OE p e room_1 below s n0 Q' T140 (mkF m 77 #[.val (.int xl), .val (.int xx), .val (.int xy), .val (.int (5 : Int32)), .val (.ref b131), .val (.ref b132), .val (.ref a137), .unset] [(.int (1 : Int32))])
    refine o_ifEq X140 at_77 170 80 (by decide) (by decide) rfl (fun q => by exfalso; exact absurd q (by decide)) ?_
    intro hc77
    refine o_aload X140 at_80 rfl rfl 82 rfl ?_
    refine o_iconst (v := (1 : Int32)) X140 at_82 rfl 83 rfl ?_
    refine o_iloadN X140 at_83 rfl 84 rfl ?_
    refine o_iconst (v := (1 : Int32)) X140 at_84 rfl 85 rfl ?_
    refine o_callS X140 at_85 (rest := [(.int (1 : Int32)), (.ref a137)]) (c_bit l Z a0 hw [] n0 _ X140.size xy (1 : Int32) ) (hw _ (List.mem_of_getElem? (i := 9) rfl)) (hw _ (List.mem_of_getElem? (i := 10) rfl)) (hw _ (List.mem_of_getElem? (i := 3) rfl)) (hw _ (List.mem_of_getElem? (i := 11) rfl)) (by decide) 2 (by decide) (by decide) rfl [(.int xy), (.int (1 : Int32))] rfl pd_3 rfl rfl (Nat.le_of_eq rfl) 3 15 rfl rfl (by decide) (by decide) 88 rfl ?_
    rintro _ T141 _ X141 ⟨rfl, rfl⟩
    show OE p e room_1 below s n0 Q' T141 (mkF m 88 #[.val (.int xl), .val (.int xx), .val (.int xy), .val (.int (5 : Int32)), .val (.ref b131), .val (.ref b132), .val (.ref a137), .unset] [(.int (f_bit xy (1 : Int32))), (.int (1 : Int32)), (.ref a137)])
    refine o_callS X141 at_88 (rest := []) (c_at l Z a0 hw [] n0 _ X141.size a137 (1 : Int32) (f_bit xy (1 : Int32)) [(f_bit xx (0 : Int32)), (f_bit xy (1 : Int32)), (f_bit xx (2 : Int32)), (f_bit xy (3 : Int32)), (f_bit xx (4 : Int32))] ((b131, OA Z .boolean [(f_bit xx (0 : Int32)), (f_bit xx (1 : Int32)), (f_bit xx (2 : Int32)), (f_bit xx (3 : Int32)), (f_bit xx (4 : Int32))]) :: (b132, OA Z .boolean [(f_bit xy (0 : Int32)), (f_bit xy (1 : Int32)), (f_bit xy (2 : Int32)), (f_bit xy (3 : Int32)), (f_bit xy (4 : Int32))]) :: []) H137 1 rfl (Or.inr rfl)) (hw _ (List.mem_of_getElem? (i := 12) rfl)) (hw _ (List.mem_of_getElem? (i := 13) rfl)) (hw _ (List.mem_of_getElem? (i := 3) rfl)) (hw _ (List.mem_of_getElem? (i := 14) rfl)) (by decide) 0 (by decide) (by decide) rfl [(.ref a137), (.int (1 : Int32)), (.int (f_bit xy (1 : Int32)))] rfl pd_4 rfl rfl (Nat.le_of_eq rfl) 3 15 rfl rfl (by decide) (by decide) 91 rfl ?_
    rintro _ T142 _ X142 ⟨rfl, rfl⟩
    show OE p e room_1 below s n0 Q' T142 (mkF m 91 #[.val (.int xl), .val (.int xx), .val (.int xy), .val (.int (5 : Int32)), .val (.ref b131), .val (.ref b132), .val (.ref a137), .unset] [(.int (1 : Int32))])
    refine o_ifEq X142 at_91 170 94 (by decide) (by decide) rfl (fun q => by exfalso; exact absurd q (by decide)) ?_
    intro hc91
    refine o_aload X142 at_94 rfl rfl 96 rfl ?_
    refine o_iconst (v := (2 : Int32)) X142 at_96 rfl 97 rfl ?_
    refine o_iloadN X142 at_97 rfl 98 rfl ?_
    refine o_iconst (v := (2 : Int32)) X142 at_98 rfl 99 rfl ?_
    refine o_callS X142 at_99 (rest := [(.int (2 : Int32)), (.ref a137)]) (c_bit l Z a0 hw [] n0 _ X142.size xx (2 : Int32) ) (hw _ (List.mem_of_getElem? (i := 9) rfl)) (hw _ (List.mem_of_getElem? (i := 10) rfl)) (hw _ (List.mem_of_getElem? (i := 3) rfl)) (hw _ (List.mem_of_getElem? (i := 11) rfl)) (by decide) 2 (by decide) (by decide) rfl [(.int xx), (.int (2 : Int32))] rfl pd_3 rfl rfl (Nat.le_of_eq rfl) 3 15 rfl rfl (by decide) (by decide) 102 rfl ?_
    rintro _ T143 _ X143 ⟨rfl, rfl⟩
    show OE p e room_1 below s n0 Q' T143 (mkF m 102 #[.val (.int xl), .val (.int xx), .val (.int xy), .val (.int (5 : Int32)), .val (.ref b131), .val (.ref b132), .val (.ref a137), .unset] [(.int (f_bit xx (2 : Int32))), (.int (2 : Int32)), (.ref a137)])
    refine o_callS X143 at_102 (rest := []) (c_at l Z a0 hw [] n0 _ X143.size a137 (2 : Int32) (f_bit xx (2 : Int32)) [(f_bit xx (0 : Int32)), (f_bit xy (1 : Int32)), (f_bit xx (2 : Int32)), (f_bit xy (3 : Int32)), (f_bit xx (4 : Int32))] ((b131, OA Z .boolean [(f_bit xx (0 : Int32)), (f_bit xx (1 : Int32)), (f_bit xx (2 : Int32)), (f_bit xx (3 : Int32)), (f_bit xx (4 : Int32))]) :: (b132, OA Z .boolean [(f_bit xy (0 : Int32)), (f_bit xy (1 : Int32)), (f_bit xy (2 : Int32)), (f_bit xy (3 : Int32)), (f_bit xy (4 : Int32))]) :: []) H137 2 rfl (Or.inr rfl)) (hw _ (List.mem_of_getElem? (i := 12) rfl)) (hw _ (List.mem_of_getElem? (i := 13) rfl)) (hw _ (List.mem_of_getElem? (i := 3) rfl)) (hw _ (List.mem_of_getElem? (i := 14) rfl)) (by decide) 0 (by decide) (by decide) rfl [(.ref a137), (.int (2 : Int32)), (.int (f_bit xx (2 : Int32)))] rfl pd_4 rfl rfl (Nat.le_of_eq rfl) 3 15 rfl rfl (by decide) (by decide) 105 rfl ?_
    rintro _ T144 _ X144 ⟨rfl, rfl⟩
    show OE p e room_1 below s n0 Q' T144 (mkF m 105 #[.val (.int xl), .val (.int xx), .val (.int xy), .val (.int (5 : Int32)), .val (.ref b131), .val (.ref b132), .val (.ref a137), .unset] [(.int (1 : Int32))])
    refine o_ifEq X144 at_105 170 108 (by decide) (by decide) rfl (fun q => by exfalso; exact absurd q (by decide)) ?_
    intro hc105
    refine o_aload X144 at_108 rfl rfl 110 rfl ?_
    refine o_iconst (v := (3 : Int32)) X144 at_110 rfl 111 rfl ?_
    refine o_iloadN X144 at_111 rfl 112 rfl ?_
    refine o_iconst (v := (3 : Int32)) X144 at_112 rfl 113 rfl ?_
    refine o_callS X144 at_113 (rest := [(.int (3 : Int32)), (.ref a137)]) (c_bit l Z a0 hw [] n0 _ X144.size xy (3 : Int32) ) (hw _ (List.mem_of_getElem? (i := 9) rfl)) (hw _ (List.mem_of_getElem? (i := 10) rfl)) (hw _ (List.mem_of_getElem? (i := 3) rfl)) (hw _ (List.mem_of_getElem? (i := 11) rfl)) (by decide) 2 (by decide) (by decide) rfl [(.int xy), (.int (3 : Int32))] rfl pd_3 rfl rfl (Nat.le_of_eq rfl) 3 15 rfl rfl (by decide) (by decide) 116 rfl ?_
    rintro _ T145 _ X145 ⟨rfl, rfl⟩
    show OE p e room_1 below s n0 Q' T145 (mkF m 116 #[.val (.int xl), .val (.int xx), .val (.int xy), .val (.int (5 : Int32)), .val (.ref b131), .val (.ref b132), .val (.ref a137), .unset] [(.int (f_bit xy (3 : Int32))), (.int (3 : Int32)), (.ref a137)])
    refine o_callS X145 at_116 (rest := []) (c_at l Z a0 hw [] n0 _ X145.size a137 (3 : Int32) (f_bit xy (3 : Int32)) [(f_bit xx (0 : Int32)), (f_bit xy (1 : Int32)), (f_bit xx (2 : Int32)), (f_bit xy (3 : Int32)), (f_bit xx (4 : Int32))] ((b131, OA Z .boolean [(f_bit xx (0 : Int32)), (f_bit xx (1 : Int32)), (f_bit xx (2 : Int32)), (f_bit xx (3 : Int32)), (f_bit xx (4 : Int32))]) :: (b132, OA Z .boolean [(f_bit xy (0 : Int32)), (f_bit xy (1 : Int32)), (f_bit xy (2 : Int32)), (f_bit xy (3 : Int32)), (f_bit xy (4 : Int32))]) :: []) H137 3 rfl (Or.inr rfl)) (hw _ (List.mem_of_getElem? (i := 12) rfl)) (hw _ (List.mem_of_getElem? (i := 13) rfl)) (hw _ (List.mem_of_getElem? (i := 3) rfl)) (hw _ (List.mem_of_getElem? (i := 14) rfl)) (by decide) 0 (by decide) (by decide) rfl [(.ref a137), (.int (3 : Int32)), (.int (f_bit xy (3 : Int32)))] rfl pd_4 rfl rfl (Nat.le_of_eq rfl) 3 15 rfl rfl (by decide) (by decide) 119 rfl ?_
    rintro _ T146 _ X146 ⟨rfl, rfl⟩
    show OE p e room_1 below s n0 Q' T146 (mkF m 119 #[.val (.int xl), .val (.int xx), .val (.int xy), .val (.int (5 : Int32)), .val (.ref b131), .val (.ref b132), .val (.ref a137), .unset] [(.int (1 : Int32))])
    refine o_ifEq X146 at_119 170 122 (by decide) (by decide) rfl (fun q => by exfalso; exact absurd q (by decide)) ?_
    intro hc119
    refine o_aload X146 at_122 rfl rfl 124 rfl ?_
    refine o_iconst (v := (4 : Int32)) X146 at_124 rfl 125 rfl ?_
    refine o_iloadN X146 at_125 rfl 126 rfl ?_
    refine o_iconst (v := (4 : Int32)) X146 at_126 rfl 127 rfl ?_
    refine o_callS X146 at_127 (rest := [(.int (4 : Int32)), (.ref a137)]) (c_bit l Z a0 hw [] n0 _ X146.size xx (4 : Int32) ) (hw _ (List.mem_of_getElem? (i := 9) rfl)) (hw _ (List.mem_of_getElem? (i := 10) rfl)) (hw _ (List.mem_of_getElem? (i := 3) rfl)) (hw _ (List.mem_of_getElem? (i := 11) rfl)) (by decide) 2 (by decide) (by decide) rfl [(.int xx), (.int (4 : Int32))] rfl pd_3 rfl rfl (Nat.le_of_eq rfl) 3 15 rfl rfl (by decide) (by decide) 130 rfl ?_
    rintro _ T147 _ X147 ⟨rfl, rfl⟩
    show OE p e room_1 below s n0 Q' T147 (mkF m 130 #[.val (.int xl), .val (.int xx), .val (.int xy), .val (.int (5 : Int32)), .val (.ref b131), .val (.ref b132), .val (.ref a137), .unset] [(.int (f_bit xx (4 : Int32))), (.int (4 : Int32)), (.ref a137)])
    refine o_callS X147 at_130 (rest := []) (c_at l Z a0 hw [] n0 _ X147.size a137 (4 : Int32) (f_bit xx (4 : Int32)) [(f_bit xx (0 : Int32)), (f_bit xy (1 : Int32)), (f_bit xx (2 : Int32)), (f_bit xy (3 : Int32)), (f_bit xx (4 : Int32))] ((b131, OA Z .boolean [(f_bit xx (0 : Int32)), (f_bit xx (1 : Int32)), (f_bit xx (2 : Int32)), (f_bit xx (3 : Int32)), (f_bit xx (4 : Int32))]) :: (b132, OA Z .boolean [(f_bit xy (0 : Int32)), (f_bit xy (1 : Int32)), (f_bit xy (2 : Int32)), (f_bit xy (3 : Int32)), (f_bit xy (4 : Int32))]) :: []) H137 4 rfl (Or.inr rfl)) (hw _ (List.mem_of_getElem? (i := 12) rfl)) (hw _ (List.mem_of_getElem? (i := 13) rfl)) (hw _ (List.mem_of_getElem? (i := 3) rfl)) (hw _ (List.mem_of_getElem? (i := 14) rfl)) (by decide) 0 (by decide) (by decide) rfl [(.ref a137), (.int (4 : Int32)), (.int (f_bit xx (4 : Int32)))] rfl pd_4 rfl rfl (Nat.le_of_eq rfl) 3 15 rfl rfl (by decide) (by decide) 133 rfl ?_
    rintro _ T148 _ X148 ⟨rfl, rfl⟩
    show OE p e room_1 below s n0 Q' T148 (mkF m 133 #[.val (.int xl), .val (.int xx), .val (.int xy), .val (.int (5 : Int32)), .val (.ref b131), .val (.ref b132), .val (.ref a137), .unset] [(.int (1 : Int32))])
    refine o_ifEq X148 at_133 170 136 (by decide) (by decide) rfl (fun q => by exfalso; exact absurd q (by decide)) ?_
    intro hc133
    refine o_aload X148 at_136 rfl rfl 138 rfl ?_
    refine o_iconst (v := (5 : Int32)) X148 at_138 rfl 139 rfl ?_
    refine o_iloadN X148 at_139 rfl 140 rfl ?_
    refine o_iconst (v := (5 : Int32)) X148 at_140 rfl 141 rfl ?_
    refine o_callS X148 at_141 (rest := [(.int (5 : Int32)), (.ref a137)]) (c_bit l Z a0 hw [] n0 _ X148.size xy (5 : Int32) ) (hw _ (List.mem_of_getElem? (i := 9) rfl)) (hw _ (List.mem_of_getElem? (i := 10) rfl)) (hw _ (List.mem_of_getElem? (i := 3) rfl)) (hw _ (List.mem_of_getElem? (i := 11) rfl)) (by decide) 2 (by decide) (by decide) rfl [(.int xy), (.int (5 : Int32))] rfl pd_3 rfl rfl (Nat.le_of_eq rfl) 3 15 rfl rfl (by decide) (by decide) 144 rfl ?_
    rintro _ T149 _ X149 ⟨rfl, rfl⟩
    show OE p e room_1 below s n0 Q' T149 (mkF m 144 #[.val (.int xl), .val (.int xx), .val (.int xy), .val (.int (5 : Int32)), .val (.ref b131), .val (.ref b132), .val (.ref a137), .unset] [(.int (f_bit xy (5 : Int32))), (.int (5 : Int32)), (.ref a137)])
    refine o_callS X149 at_144 (rest := []) (c_at l Z a0 hw [] n0 _ X149.size a137 (5 : Int32) (f_bit xy (5 : Int32)) [(f_bit xx (0 : Int32)), (f_bit xy (1 : Int32)), (f_bit xx (2 : Int32)), (f_bit xy (3 : Int32)), (f_bit xx (4 : Int32))] ((b131, OA Z .boolean [(f_bit xx (0 : Int32)), (f_bit xx (1 : Int32)), (f_bit xx (2 : Int32)), (f_bit xx (3 : Int32)), (f_bit xx (4 : Int32))]) :: (b132, OA Z .boolean [(f_bit xy (0 : Int32)), (f_bit xy (1 : Int32)), (f_bit xy (2 : Int32)), (f_bit xy (3 : Int32)), (f_bit xy (4 : Int32))]) :: []) H137 5 rfl (Or.inl (by show 5 ≤ 5; decide))) (hw _ (List.mem_of_getElem? (i := 12) rfl)) (hw _ (List.mem_of_getElem? (i := 13) rfl)) (hw _ (List.mem_of_getElem? (i := 3) rfl)) (hw _ (List.mem_of_getElem? (i := 14) rfl)) (by decide) 0 (by decide) (by decide) rfl [(.ref a137), (.int (5 : Int32)), (.int (f_bit xy (5 : Int32)))] rfl pd_4 rfl rfl (Nat.le_of_eq rfl) 3 15 rfl rfl (by decide) (by decide) 147 rfl ?_
    rintro _ T150 _ X150 ⟨rfl, rfl⟩
    show OE p e room_1 below s n0 Q' T150 (mkF m 147 #[.val (.int xl), .val (.int xx), .val (.int xy), .val (.int (5 : Int32)), .val (.ref b131), .val (.ref b132), .val (.ref a137), .unset] [(.int (1 : Int32))])
    refine o_ifEq X150 at_147 170 150 (by decide) (by decide) rfl (fun q => by exfalso; exact absurd q (by decide)) ?_
    intro hc147
    refine o_aload X150 at_150 rfl rfl 152 rfl ?_
    refine o_bipush (v := (6 : Int32)) X150 at_152 rfl 154 rfl ?_
    refine o_iloadN X150 at_154 rfl 155 rfl ?_
    refine o_bipush (v := (6 : Int32)) X150 at_155 rfl 157 rfl ?_
    refine o_callS X150 at_157 (rest := [(.int (6 : Int32)), (.ref a137)]) (c_bit l Z a0 hw [] n0 _ X150.size xx (6 : Int32) ) (hw _ (List.mem_of_getElem? (i := 9) rfl)) (hw _ (List.mem_of_getElem? (i := 10) rfl)) (hw _ (List.mem_of_getElem? (i := 3) rfl)) (hw _ (List.mem_of_getElem? (i := 11) rfl)) (by decide) 2 (by decide) (by decide) rfl [(.int xx), (.int (6 : Int32))] rfl pd_3 rfl rfl (Nat.le_of_eq rfl) 3 15 rfl rfl (by decide) (by decide) 160 rfl ?_
    rintro _ T151 _ X151 ⟨rfl, rfl⟩
    show OE p e room_1 below s n0 Q' T151 (mkF m 160 #[.val (.int xl), .val (.int xx), .val (.int xy), .val (.int (5 : Int32)), .val (.ref b131), .val (.ref b132), .val (.ref a137), .unset] [(.int (f_bit xx (6 : Int32))), (.int (6 : Int32)), (.ref a137)])
    refine o_callS X151 at_160 (rest := []) (c_at l Z a0 hw [] n0 _ X151.size a137 (6 : Int32) (f_bit xx (6 : Int32)) [(f_bit xx (0 : Int32)), (f_bit xy (1 : Int32)), (f_bit xx (2 : Int32)), (f_bit xy (3 : Int32)), (f_bit xx (4 : Int32))] ((b131, OA Z .boolean [(f_bit xx (0 : Int32)), (f_bit xx (1 : Int32)), (f_bit xx (2 : Int32)), (f_bit xx (3 : Int32)), (f_bit xx (4 : Int32))]) :: (b132, OA Z .boolean [(f_bit xy (0 : Int32)), (f_bit xy (1 : Int32)), (f_bit xy (2 : Int32)), (f_bit xy (3 : Int32)), (f_bit xy (4 : Int32))]) :: []) H137 6 rfl (Or.inl (by show 5 ≤ 6; decide))) (hw _ (List.mem_of_getElem? (i := 12) rfl)) (hw _ (List.mem_of_getElem? (i := 13) rfl)) (hw _ (List.mem_of_getElem? (i := 3) rfl)) (hw _ (List.mem_of_getElem? (i := 14) rfl)) (by decide) 0 (by decide) (by decide) rfl [(.ref a137), (.int (6 : Int32)), (.int (f_bit xx (6 : Int32)))] rfl pd_4 rfl rfl (Nat.le_of_eq rfl) 3 15 rfl rfl (by decide) (by decide) 163 rfl ?_
    rintro _ T152 _ X152 ⟨rfl, rfl⟩
    show OE p e room_1 below s n0 Q' T152 (mkF m 163 #[.val (.int xl), .val (.int xx), .val (.int xy), .val (.int (5 : Int32)), .val (.ref b131), .val (.ref b132), .val (.ref a137), .unset] [(.int (1 : Int32))])
    refine o_ifEq X152 at_163 170 166 (by decide) (by decide) rfl (fun q => by exfalso; exact absurd q (by decide)) ?_
    intro hc163
    refine o_iconst (v := (1 : Int32)) X152 at_166 rfl 167 rfl ?_
    refine o_goto X152 at_167 171 (by decide) (by decide) ?_
    refine o_istore X152 at_171 #[.val (.int xl), .val (.int xx), .val (.int xy), .val (.int (5 : Int32)), .val (.ref b131), .val (.ref b132), .val (.ref a137), .val (.int (1 : Int32))] rfl 173 rfl ?_
    refine o_iload X152 at_173 rfl 175 rfl ?_
    refine o_ifEq X152 at_175 200 178 (by decide) (by decide) rfl (fun q => by exfalso; exact absurd q (by decide)) ?_
    intro hc175
    refine o_aload X152 at_178 rfl rfl 180 rfl ?_
    refine o_iloadN X152 at_180 rfl 181 rfl ?_
    have H154 : OL n0 h137 ((b131, OA Z .boolean [(f_bit xx (0 : Int32)), (f_bit xx (1 : Int32)), (f_bit xx (2 : Int32)), (f_bit xx (3 : Int32)), (f_bit xx (4 : Int32))]) :: (a137, OA Z .boolean [(f_bit xx (0 : Int32)), (f_bit xy (1 : Int32)), (f_bit xx (2 : Int32)), (f_bit xy (3 : Int32)), (f_bit xx (4 : Int32))]) :: (b132, OA Z .boolean [(f_bit xy (0 : Int32)), (f_bit xy (1 : Int32)), (f_bit xy (2 : Int32)), (f_bit xy (3 : Int32)), (f_bit xy (4 : Int32))]) :: []) := H137.front 1 rfl
    refine o_callS X152 at_181 (rest := []) (c_same5 l Z a0 hw [] n0 _ X152.size b131 xx ((a137, OA Z .boolean [(f_bit xx (0 : Int32)), (f_bit xy (1 : Int32)), (f_bit xx (2 : Int32)), (f_bit xy (3 : Int32)), (f_bit xx (4 : Int32))]) :: (b132, OA Z .boolean [(f_bit xy (0 : Int32)), (f_bit xy (1 : Int32)), (f_bit xy (2 : Int32)), (f_bit xy (3 : Int32)), (f_bit xy (4 : Int32))]) :: []) H154) (hw _ (List.mem_of_getElem? (i := 15) rfl)) (hw _ (List.mem_of_getElem? (i := 16) rfl)) (hw _ (List.mem_of_getElem? (i := 3) rfl)) (hw _ (List.mem_of_getElem? (i := 17) rfl)) (by decide) 0 (by decide) (by decide) rfl [(.ref b131), (.int xx)] rfl pd_5 rfl rfl (Nat.le_of_eq rfl) 3 15 rfl rfl (by decide) (by decide) 184 rfl ?_
    rintro _ T153 _ X153 ⟨rfl, rfl⟩
    show OE p e room_1 below s n0 Q' T153 (mkF m 184 #[.val (.int xl), .val (.int xx), .val (.int xy), .val (.int (5 : Int32)), .val (.ref b131), .val (.ref b132), .val (.ref a137), .val (.int (1 : Int32))] [(.int (1 : Int32))])
    refine o_ifEq X153 at_184 200 187 (by decide) (by decide) rfl (fun q => by exfalso; exact absurd q (by decide)) ?_
    intro hc184
    refine o_aload X153 at_187 rfl rfl 189 rfl ?_
    refine o_iloadN X153 at_189 rfl 190 rfl ?_
    have H156 : OL n0 h137 ((b132, OA Z .boolean [(f_bit xy (0 : Int32)), (f_bit xy (1 : Int32)), (f_bit xy (2 : Int32)), (f_bit xy (3 : Int32)), (f_bit xy (4 : Int32))]) :: (b131, OA Z .boolean [(f_bit xx (0 : Int32)), (f_bit xx (1 : Int32)), (f_bit xx (2 : Int32)), (f_bit xx (3 : Int32)), (f_bit xx (4 : Int32))]) :: (a137, OA Z .boolean [(f_bit xx (0 : Int32)), (f_bit xy (1 : Int32)), (f_bit xx (2 : Int32)), (f_bit xy (3 : Int32)), (f_bit xx (4 : Int32))]) :: []) := H154.front 2 rfl
    refine o_callS X153 at_190 (rest := []) (c_same5 l Z a0 hw [] n0 _ X153.size b132 xy ((b131, OA Z .boolean [(f_bit xx (0 : Int32)), (f_bit xx (1 : Int32)), (f_bit xx (2 : Int32)), (f_bit xx (3 : Int32)), (f_bit xx (4 : Int32))]) :: (a137, OA Z .boolean [(f_bit xx (0 : Int32)), (f_bit xy (1 : Int32)), (f_bit xx (2 : Int32)), (f_bit xy (3 : Int32)), (f_bit xx (4 : Int32))]) :: []) H156) (hw _ (List.mem_of_getElem? (i := 15) rfl)) (hw _ (List.mem_of_getElem? (i := 16) rfl)) (hw _ (List.mem_of_getElem? (i := 3) rfl)) (hw _ (List.mem_of_getElem? (i := 17) rfl)) (by decide) 0 (by decide) (by decide) rfl [(.ref b132), (.int xy)] rfl pd_5 rfl rfl (Nat.le_of_eq rfl) 3 15 rfl rfl (by decide) (by decide) 193 rfl ?_
    rintro _ T155 _ X155 ⟨rfl, rfl⟩
    show OE p e room_1 below s n0 Q' T155 (mkF m 193 #[.val (.int xl), .val (.int xx), .val (.int xy), .val (.int (5 : Int32)), .val (.ref b131), .val (.ref b132), .val (.ref a137), .val (.int (1 : Int32))] [(.int (1 : Int32))])
    refine o_ifEq X155 at_193 200 196 (by decide) (by decide) rfl (fun q => by exfalso; exact absurd q (by decide)) ?_
    intro hc193
    refine o_iconst (v := (1 : Int32)) X155 at_196 rfl 197 rfl ?_
    refine o_goto X155 at_197 201 (by decide) (by decide) ?_
    exact o_retZ X155 at_201 (by decide) (by decide) (hQ _ _ rfl)
  · rw [hv]
    refine o_iloadN X0 at_5 rfl 6 rfl ?_
    refine o_newarray (L := []) X0 OL.nil at_6 (hw _ (List.mem_of_getElem? (i := 0) rfl)) rfl rfl 6 6 rfl (by decide) (by decide) 1 6 rfl rfl (by decide) (by decide) 8 rfl ?_
    intro T157 h157 b157 X157 H157
    replace H157 : OL n0 h157 ((b157, OA Z .boolean [(0 : Int32), (0 : Int32), (0 : Int32), (0 : Int32), (0 : Int32), (0 : Int32)]) :: []) := H157
    refine o_astore X157 at_8 rfl #[.val (.int xl), .val (.int xx), .val (.int xy), .val (.int (6 : Int32)), .val (.ref b157), .unset, .unset, .unset] rfl 10 rfl ?_
    refine o_iloadN X157 at_10 rfl 11 rfl ?_
    refine o_newarray (L := ((b157, OA Z .boolean [(0 : Int32), (0 : Int32), (0 : Int32), (0 : Int32), (0 : Int32), (0 : Int32)]) :: [])) X157 H157 at_11 (hw _ (List.mem_of_getElem? (i := 0) rfl)) rfl rfl 6 6 rfl (by decide) (by decide) 2 12 rfl rfl (by decide) (by decide) 13 rfl ?_
    intro T158 h158 b158 X158 H158
    replace H158 : OL n0 h158 ((b158, OA Z .boolean [(0 : Int32), (0 : Int32), (0 : Int32), (0 : Int32), (0 : Int32), (0 : Int32)]) :: (b157, OA Z .boolean [(0 : Int32), (0 : Int32), (0 : Int32), (0 : Int32), (0 : Int32), (0 : Int32)]) :: []) := H158
    refine o_astore X158 at_13 rfl #[.val (.int xl), .val (.int xx), .val (.int xy), .val (.int (6 : Int32)), .val (.ref b157), .val (.ref b158), .unset, .unset] rfl 15 rfl ?_
    refine o_aload X158 at_15 rfl rfl 17 rfl ?_
    refine o_iloadN X158 at_17 rfl 18 rfl ?_
    have H160 : OL n0 h158 ((b157, OA Z .boolean [(0 : Int32), (0 : Int32), (0 : Int32), (0 : Int32), (0 : Int32), (0 : Int32)]) :: (b158, OA Z .boolean [(0 : Int32), (0 : Int32), (0 : Int32), (0 : Int32), (0 : Int32), (0 : Int32)]) :: []) := H158.front 1 rfl
    refine o_callS X158 at_18 (rest := []) (c_fill6 l Z a0 hw [] n0 _ X158.size b157 xx ((b158, OA Z .boolean [(0 : Int32), (0 : Int32), (0 : Int32), (0 : Int32), (0 : Int32), (0 : Int32)]) :: []) H160) (hw _ (List.mem_of_getElem? (i := 1) rfl)) (hw _ (List.mem_of_getElem? (i := 2) rfl)) (hw _ (List.mem_of_getElem? (i := 3) rfl)) (hw _ (List.mem_of_getElem? (i := 4) rfl)) (by decide) 0 (by decide) (by decide) rfl [(.ref b157), (.int xx)] rfl pd_1 rfl rfl (Nat.le_of_eq rfl) 2 12 rfl rfl (by decide) (by decide) 21 rfl ?_
    rintro _ T159 h159 X159 ⟨rfl, H159⟩
    replace H159 : OL n0 h159 ((b157, OA Z .boolean [(f_bit xx (0 : Int32)), (f_bit xx (1 : Int32)), (f_bit xx (2 : Int32)), (f_bit xx (3 : Int32)), (f_bit xx (4 : Int32)), (f_bit xx (5 : Int32))]) :: (b158, OA Z .boolean [(0 : Int32), (0 : Int32), (0 : Int32), (0 : Int32), (0 : Int32), (0 : Int32)]) :: []) := H159
    show OE p e room_1 below s n0 Q' T159 (mkF m 21 #[.val (.int xl), .val (.int xx), .val (.int xy), .val (.int (6 : Int32)), .val (.ref b157), .val (.ref b158), .unset, .unset] [])
    refine o_aload X159 at_21 rfl rfl 23 rfl ?_
    refine o_iloadN X159 at_23 rfl 24 rfl ?_
    have H162 : OL n0 h159 ((b158, OA Z .boolean [(0 : Int32), (0 : Int32), (0 : Int32), (0 : Int32), (0 : Int32), (0 : Int32)]) :: (b157, OA Z .boolean [(f_bit xx (0 : Int32)), (f_bit xx (1 : Int32)), (f_bit xx (2 : Int32)), (f_bit xx (3 : Int32)), (f_bit xx (4 : Int32)), (f_bit xx (5 : Int32))]) :: []) := H159.front 1 rfl
    refine o_callS X159 at_24 (rest := []) (c_fill6 l Z a0 hw [] n0 _ X159.size b158 xy ((b157, OA Z .boolean [(f_bit xx (0 : Int32)), (f_bit xx (1 : Int32)), (f_bit xx (2 : Int32)), (f_bit xx (3 : Int32)), (f_bit xx (4 : Int32)), (f_bit xx (5 : Int32))]) :: []) H162) (hw _ (List.mem_of_getElem? (i := 1) rfl)) (hw _ (List.mem_of_getElem? (i := 2) rfl)) (hw _ (List.mem_of_getElem? (i := 3) rfl)) (hw _ (List.mem_of_getElem? (i := 4) rfl)) (by decide) 0 (by decide) (by decide) rfl [(.ref b158), (.int xy)] rfl pd_1 rfl rfl (Nat.le_of_eq rfl) 2 12 rfl rfl (by decide) (by decide) 27 rfl ?_
    rintro _ T161 h161 X161 ⟨rfl, H161⟩
    replace H161 : OL n0 h161 ((b158, OA Z .boolean [(f_bit xy (0 : Int32)), (f_bit xy (1 : Int32)), (f_bit xy (2 : Int32)), (f_bit xy (3 : Int32)), (f_bit xy (4 : Int32)), (f_bit xy (5 : Int32))]) :: (b157, OA Z .boolean [(f_bit xx (0 : Int32)), (f_bit xx (1 : Int32)), (f_bit xx (2 : Int32)), (f_bit xx (3 : Int32)), (f_bit xx (4 : Int32)), (f_bit xx (5 : Int32))]) :: []) := H161
    show OE p e room_1 below s n0 Q' T161 (mkF m 27 #[.val (.int xl), .val (.int xx), .val (.int xy), .val (.int (6 : Int32)), .val (.ref b157), .val (.ref b158), .unset, .unset] [])
    refine o_aload X161 at_27 rfl rfl 29 rfl ?_
    refine o_aload X161 at_29 rfl rfl 31 rfl ?_
    have H164 : OL n0 h161 ((b157, OA Z .boolean [(f_bit xx (0 : Int32)), (f_bit xx (1 : Int32)), (f_bit xx (2 : Int32)), (f_bit xx (3 : Int32)), (f_bit xx (4 : Int32)), (f_bit xx (5 : Int32))]) :: (b158, OA Z .boolean [(f_bit xy (0 : Int32)), (f_bit xy (1 : Int32)), (f_bit xy (2 : Int32)), (f_bit xy (3 : Int32)), (f_bit xy (4 : Int32)), (f_bit xy (5 : Int32))]) :: []) := H161.front 1 rfl
    refine o_callS X161 at_31 (rest := []) (c_comb6 l Z a0 hw [] n0 _ X161.size b157 b158 xx xy [] H164) (hw _ (List.mem_of_getElem? (i := 5) rfl)) (hw _ (List.mem_of_getElem? (i := 6) rfl)) (hw _ (List.mem_of_getElem? (i := 7) rfl)) (hw _ (List.mem_of_getElem? (i := 8) rfl)) (by decide) 0 (by decide) (by decide) rfl [(.ref b157), (.ref b158)] rfl pd_2 rfl rfl (Nat.le_of_eq rfl) 3 18 rfl rfl (by decide) (by decide) 34 rfl ?_
    rintro _ T163 h163 X163 ⟨a163, rfl, H163⟩
    replace H163 : OL n0 h163 ((a163, OA Z .boolean [(f_bit xx (0 : Int32)), (f_bit xy (1 : Int32)), (f_bit xx (2 : Int32)), (f_bit xy (3 : Int32)), (f_bit xx (4 : Int32)), (f_bit xy (5 : Int32))]) :: (b157, OA Z .boolean [(f_bit xx (0 : Int32)), (f_bit xx (1 : Int32)), (f_bit xx (2 : Int32)), (f_bit xx (3 : Int32)), (f_bit xx (4 : Int32)), (f_bit xx (5 : Int32))]) :: (b158, OA Z .boolean [(f_bit xy (0 : Int32)), (f_bit xy (1 : Int32)), (f_bit xy (2 : Int32)), (f_bit xy (3 : Int32)), (f_bit xy (4 : Int32)), (f_bit xy (5 : Int32))]) :: []) := H163
    show OE p e room_1 below s n0 Q' T163 (mkF m 34 #[.val (.int xl), .val (.int xx), .val (.int xy), .val (.int (6 : Int32)), .val (.ref b157), .val (.ref b158), .unset, .unset] [(.ref a163)])
    refine o_astore X163 at_34 rfl #[.val (.int xl), .val (.int xx), .val (.int xy), .val (.int (6 : Int32)), .val (.ref b157), .val (.ref b158), .val (.ref a163), .unset] rfl 36 rfl ?_
    refine o_aload X163 at_36 rfl rfl 38 rfl ?_
    refine o_ifnullR X163 at_38 41 rfl ?_
    refine o_aload X163 at_41 rfl rfl 43 rfl ?_
    refine o_arraylength X163 H163 0 rfl at_43 (6 : Int32) rfl 44 rfl ?_
    refine o_iloadN X163 at_44 rfl 45 rfl ?_
    refine o_icmpEq X163 at_45 50 48 (by decide) (by decide) rfl ?_ (fun q => by exfalso; exact absurd q (by decide))
    intro hc45
    refine o_aload X163 at_50 rfl rfl 52 rfl ?_
    refine o_aload X163 at_52 rfl rfl 54 rfl ?_
    refine o_acmpEqN X163 at_54 (H163.ne (i := 0) (j := 1) rfl rfl (by decide)) 57 rfl ?_
    refine o_aload X163 at_57 rfl rfl 59 rfl ?_
    refine o_aload X163 at_59 rfl rfl 61 rfl ?_
    refine o_acmpNeY X163 at_61 (H163.ne (i := 0) (j := 2) rfl rfl (by decide)) 66 (by decide) (by decide) ?_
    refine o_aload X163 at_66 rfl rfl 68 rfl ?_
    refine o_iconst (v := (0 : Int32)) X163 at_68 rfl 69 rfl ?_
    refine o_iloadN X163 at_69 rfl 70 rfl ?_
    refine o_iconst (v := (0 : Int32)) X163 at_70 rfl 71 rfl ?_
    refine o_callS X163 at_71 (rest := [(.int (0 : Int32)), (.ref a163)]) (c_bit l Z a0 hw [] n0 _ X163.size xx (0 : Int32) ) (hw _ (List.mem_of_getElem? (i := 9) rfl)) (hw _ (List.mem_of_getElem? (i := 10) rfl)) (hw _ (List.mem_of_getElem? (i := 3) rfl)) (hw _ (List.mem_of_getElem? (i := 11) rfl)) (by decide) 2 (by decide) (by decide) rfl [(.int xx), (.int (0 : Int32))] rfl pd_3 rfl rfl (Nat.le_of_eq rfl) 3 18 rfl rfl (by decide) (by decide) 74 rfl ?_
    rintro _ T165 _ X165 ⟨rfl, rfl⟩
    show OE p e room_1 below s n0 Q' T165 (mkF m 74 #[.val (.int xl), .val (.int xx), .val (.int xy), .val (.int (6 : Int32)), .val (.ref b157), .val (.ref b158), .val (.ref a163), .unset] [(.int (f_bit xx (0 : Int32))), (.int (0 : Int32)), (.ref a163)])
    refine o_callS X165 at_74 (rest := []) (c_at l Z a0 hw [] n0 _ X165.size a163 (0 : Int32) (f_bit xx (0 : Int32)) [(f_bit xx (0 : Int32)), (f_bit xy (1 : Int32)), (f_bit xx (2 : Int32)), (f_bit xy (3 : Int32)), (f_bit xx (4 : Int32)), (f_bit xy (5 : Int32))] ((b157, OA Z .boolean [(f_bit xx (0 : Int32)), (f_bit xx (1 : Int32)), (f_bit xx (2 : Int32)), (f_bit xx (3 : Int32)), (f_bit xx (4 : Int32)), (f_bit xx (5 : Int32))]) :: (b158, OA Z .boolean [(f_bit xy (0 : Int32)), (f_bit xy (1 : Int32)), (f_bit xy (2 : Int32)), (f_bit xy (3 : Int32)), (f_bit xy (4 : Int32)), (f_bit xy (5 : Int32))]) :: []) H163 0 rfl (Or.inr rfl)) (hw _ (List.mem_of_getElem? (i := 12) rfl)) (hw _ (List.mem_of_getElem? (i := 13) rfl)) (hw _ (List.mem_of_getElem? (i := 3) rfl)) (hw _ (List.mem_of_getElem? (i := 14) rfl)) (by decide) 0 (by decide) (by decide) rfl [(.ref a163), (.int (0 : Int32)), (.int (f_bit xx (0 : Int32)))] rfl pd_4 rfl rfl (Nat.le_of_eq rfl) 3 18 rfl rfl (by decide) (by decide) 77 rfl ?_
    rintro _ T166 _ X166 ⟨rfl, rfl⟩
    show OE p e room_1 below s n0 Q' T166 (mkF m 77 #[.val (.int xl), .val (.int xx), .val (.int xy), .val (.int (6 : Int32)), .val (.ref b157), .val (.ref b158), .val (.ref a163), .unset] [(.int (1 : Int32))])
    refine o_ifEq X166 at_77 170 80 (by decide) (by decide) rfl (fun q => by exfalso; exact absurd q (by decide)) ?_
    intro hc77
    refine o_aload X166 at_80 rfl rfl 82 rfl ?_
    refine o_iconst (v := (1 : Int32)) X166 at_82 rfl 83 rfl ?_
    refine o_iloadN X166 at_83 rfl 84 rfl ?_
    refine o_iconst (v := (1 : Int32)) X166 at_84 rfl 85 rfl ?_
    refine o_callS X166 at_85 (rest := [(.int (1 : Int32)), (.ref a163)]) (c_bit l Z a0 hw [] n0 _ X166.size xy (1 : Int32) ) (hw _ (List.mem_of_getElem? (i := 9) rfl)) (hw _ (List.mem_of_getElem? (i := 10) rfl)) (hw _ (List.mem_of_getElem? (i := 3) rfl)) (hw _ (List.mem_of_getElem? (i := 11) rfl)) (by decide) 2 (by decide) (by decide) rfl [(.int xy), (.int (1 : Int32))] rfl pd_3 rfl rfl (Nat.le_of_eq rfl) 3 18 rfl rfl (by decide) (by decide) 88 rfl ?_
    rintro _ T167 _ X167 ⟨rfl, rfl⟩
    show OE p e room_1 below s n0 Q' T167 (mkF m 88 #[.val (.int xl), .val (.int xx), .val (.int xy), .val (.int (6 : Int32)), .val (.ref b157), .val (.ref b158), .val (.ref a163), .unset] [(.int (f_bit xy (1 : Int32))), (.int (1 : Int32)), (.ref a163)])
    refine o_callS X167 at_88 (rest := []) (c_at l Z a0 hw [] n0 _ X167.size a163 (1 : Int32) (f_bit xy (1 : Int32)) [(f_bit xx (0 : Int32)), (f_bit xy (1 : Int32)), (f_bit xx (2 : Int32)), (f_bit xy (3 : Int32)), (f_bit xx (4 : Int32)), (f_bit xy (5 : Int32))] ((b157, OA Z .boolean [(f_bit xx (0 : Int32)), (f_bit xx (1 : Int32)), (f_bit xx (2 : Int32)), (f_bit xx (3 : Int32)), (f_bit xx (4 : Int32)), (f_bit xx (5 : Int32))]) :: (b158, OA Z .boolean [(f_bit xy (0 : Int32)), (f_bit xy (1 : Int32)), (f_bit xy (2 : Int32)), (f_bit xy (3 : Int32)), (f_bit xy (4 : Int32)), (f_bit xy (5 : Int32))]) :: []) H163 1 rfl (Or.inr rfl)) (hw _ (List.mem_of_getElem? (i := 12) rfl)) (hw _ (List.mem_of_getElem? (i := 13) rfl)) (hw _ (List.mem_of_getElem? (i := 3) rfl)) (hw _ (List.mem_of_getElem? (i := 14) rfl)) (by decide) 0 (by decide) (by decide) rfl [(.ref a163), (.int (1 : Int32)), (.int (f_bit xy (1 : Int32)))] rfl pd_4 rfl rfl (Nat.le_of_eq rfl) 3 18 rfl rfl (by decide) (by decide) 91 rfl ?_
    rintro _ T168 _ X168 ⟨rfl, rfl⟩
    show OE p e room_1 below s n0 Q' T168 (mkF m 91 #[.val (.int xl), .val (.int xx), .val (.int xy), .val (.int (6 : Int32)), .val (.ref b157), .val (.ref b158), .val (.ref a163), .unset] [(.int (1 : Int32))])
    refine o_ifEq X168 at_91 170 94 (by decide) (by decide) rfl (fun q => by exfalso; exact absurd q (by decide)) ?_
    intro hc91
    refine o_aload X168 at_94 rfl rfl 96 rfl ?_
    refine o_iconst (v := (2 : Int32)) X168 at_96 rfl 97 rfl ?_
    refine o_iloadN X168 at_97 rfl 98 rfl ?_
    refine o_iconst (v := (2 : Int32)) X168 at_98 rfl 99 rfl ?_
    refine o_callS X168 at_99 (rest := [(.int (2 : Int32)), (.ref a163)]) (c_bit l Z a0 hw [] n0 _ X168.size xx (2 : Int32) ) (hw _ (List.mem_of_getElem? (i := 9) rfl)) (hw _ (List.mem_of_getElem? (i := 10) rfl)) (hw _ (List.mem_of_getElem? (i := 3) rfl)) (hw _ (List.mem_of_getElem? (i := 11) rfl)) (by decide) 2 (by decide) (by decide) rfl [(.int xx), (.int (2 : Int32))] rfl pd_3 rfl rfl (Nat.le_of_eq rfl) 3 18 rfl rfl (by decide) (by decide) 102 rfl ?_
    rintro _ T169 _ X169 ⟨rfl, rfl⟩
    show OE p e room_1 below s n0 Q' T169 (mkF m 102 #[.val (.int xl), .val (.int xx), .val (.int xy), .val (.int (6 : Int32)), .val (.ref b157), .val (.ref b158), .val (.ref a163), .unset] [(.int (f_bit xx (2 : Int32))), (.int (2 : Int32)), (.ref a163)])
    refine o_callS X169 at_102 (rest := []) (c_at l Z a0 hw [] n0 _ X169.size a163 (2 : Int32) (f_bit xx (2 : Int32)) [(f_bit xx (0 : Int32)), (f_bit xy (1 : Int32)), (f_bit xx (2 : Int32)), (f_bit xy (3 : Int32)), (f_bit xx (4 : Int32)), (f_bit xy (5 : Int32))] ((b157, OA Z .boolean [(f_bit xx (0 : Int32)), (f_bit xx (1 : Int32)), (f_bit xx (2 : Int32)), (f_bit xx (3 : Int32)), (f_bit xx (4 : Int32)), (f_bit xx (5 : Int32))]) :: (b158, OA Z .boolean [(f_bit xy (0 : Int32)), (f_bit xy (1 : Int32)), (f_bit xy (2 : Int32)), (f_bit xy (3 : Int32)), (f_bit xy (4 : Int32)), (f_bit xy (5 : Int32))]) :: []) H163 2 rfl (Or.inr rfl)) (hw _ (List.mem_of_getElem? (i := 12) rfl)) (hw _ (List.mem_of_getElem? (i := 13) rfl)) (hw _ (List.mem_of_getElem? (i := 3) rfl)) (hw _ (List.mem_of_getElem? (i := 14) rfl)) (by decide) 0 (by decide) (by decide) rfl [(.ref a163), (.int (2 : Int32)), (.int (f_bit xx (2 : Int32)))] rfl pd_4 rfl rfl (Nat.le_of_eq rfl) 3 18 rfl rfl (by decide) (by decide) 105 rfl ?_
    rintro _ T170 _ X170 ⟨rfl, rfl⟩
    show OE p e room_1 below s n0 Q' T170 (mkF m 105 #[.val (.int xl), .val (.int xx), .val (.int xy), .val (.int (6 : Int32)), .val (.ref b157), .val (.ref b158), .val (.ref a163), .unset] [(.int (1 : Int32))])
    refine o_ifEq X170 at_105 170 108 (by decide) (by decide) rfl (fun q => by exfalso; exact absurd q (by decide)) ?_
    intro hc105
    refine o_aload X170 at_108 rfl rfl 110 rfl ?_
    refine o_iconst (v := (3 : Int32)) X170 at_110 rfl 111 rfl ?_
    refine o_iloadN X170 at_111 rfl 112 rfl ?_
    refine o_iconst (v := (3 : Int32)) X170 at_112 rfl 113 rfl ?_
    refine o_callS X170 at_113 (rest := [(.int (3 : Int32)), (.ref a163)]) (c_bit l Z a0 hw [] n0 _ X170.size xy (3 : Int32) ) (hw _ (List.mem_of_getElem? (i := 9) rfl)) (hw _ (List.mem_of_getElem? (i := 10) rfl)) (hw _ (List.mem_of_getElem? (i := 3) rfl)) (hw _ (List.mem_of_getElem? (i := 11) rfl)) (by decide) 2 (by decide) (by decide) rfl [(.int xy), (.int (3 : Int32))] rfl pd_3 rfl rfl (Nat.le_of_eq rfl) 3 18 rfl rfl (by decide) (by decide) 116 rfl ?_
    rintro _ T171 _ X171 ⟨rfl, rfl⟩
    show OE p e room_1 below s n0 Q' T171 (mkF m 116 #[.val (.int xl), .val (.int xx), .val (.int xy), .val (.int (6 : Int32)), .val (.ref b157), .val (.ref b158), .val (.ref a163), .unset] [(.int (f_bit xy (3 : Int32))), (.int (3 : Int32)), (.ref a163)])
    refine o_callS X171 at_116 (rest := []) (c_at l Z a0 hw [] n0 _ X171.size a163 (3 : Int32) (f_bit xy (3 : Int32)) [(f_bit xx (0 : Int32)), (f_bit xy (1 : Int32)), (f_bit xx (2 : Int32)), (f_bit xy (3 : Int32)), (f_bit xx (4 : Int32)), (f_bit xy (5 : Int32))] ((b157, OA Z .boolean [(f_bit xx (0 : Int32)), (f_bit xx (1 : Int32)), (f_bit xx (2 : Int32)), (f_bit xx (3 : Int32)), (f_bit xx (4 : Int32)), (f_bit xx (5 : Int32))]) :: (b158, OA Z .boolean [(f_bit xy (0 : Int32)), (f_bit xy (1 : Int32)), (f_bit xy (2 : Int32)), (f_bit xy (3 : Int32)), (f_bit xy (4 : Int32)), (f_bit xy (5 : Int32))]) :: []) H163 3 rfl (Or.inr rfl)) (hw _ (List.mem_of_getElem? (i := 12) rfl)) (hw _ (List.mem_of_getElem? (i := 13) rfl)) (hw _ (List.mem_of_getElem? (i := 3) rfl)) (hw _ (List.mem_of_getElem? (i := 14) rfl)) (by decide) 0 (by decide) (by decide) rfl [(.ref a163), (.int (3 : Int32)), (.int (f_bit xy (3 : Int32)))] rfl pd_4 rfl rfl (Nat.le_of_eq rfl) 3 18 rfl rfl (by decide) (by decide) 119 rfl ?_
    rintro _ T172 _ X172 ⟨rfl, rfl⟩
    show OE p e room_1 below s n0 Q' T172 (mkF m 119 #[.val (.int xl), .val (.int xx), .val (.int xy), .val (.int (6 : Int32)), .val (.ref b157), .val (.ref b158), .val (.ref a163), .unset] [(.int (1 : Int32))])
    refine o_ifEq X172 at_119 170 122 (by decide) (by decide) rfl (fun q => by exfalso; exact absurd q (by decide)) ?_
    intro hc119
    refine o_aload X172 at_122 rfl rfl 124 rfl ?_
    refine o_iconst (v := (4 : Int32)) X172 at_124 rfl 125 rfl ?_
    refine o_iloadN X172 at_125 rfl 126 rfl ?_
    refine o_iconst (v := (4 : Int32)) X172 at_126 rfl 127 rfl ?_
    refine o_callS X172 at_127 (rest := [(.int (4 : Int32)), (.ref a163)]) (c_bit l Z a0 hw [] n0 _ X172.size xx (4 : Int32) ) (hw _ (List.mem_of_getElem? (i := 9) rfl)) (hw _ (List.mem_of_getElem? (i := 10) rfl)) (hw _ (List.mem_of_getElem? (i := 3) rfl)) (hw _ (List.mem_of_getElem? (i := 11) rfl)) (by decide) 2 (by decide) (by decide) rfl [(.int xx), (.int (4 : Int32))] rfl pd_3 rfl rfl (Nat.le_of_eq rfl) 3 18 rfl rfl (by decide) (by decide) 130 rfl ?_
    rintro _ T173 _ X173 ⟨rfl, rfl⟩
    show OE p e room_1 below s n0 Q' T173 (mkF m 130 #[.val (.int xl), .val (.int xx), .val (.int xy), .val (.int (6 : Int32)), .val (.ref b157), .val (.ref b158), .val (.ref a163), .unset] [(.int (f_bit xx (4 : Int32))), (.int (4 : Int32)), (.ref a163)])
    refine o_callS X173 at_130 (rest := []) (c_at l Z a0 hw [] n0 _ X173.size a163 (4 : Int32) (f_bit xx (4 : Int32)) [(f_bit xx (0 : Int32)), (f_bit xy (1 : Int32)), (f_bit xx (2 : Int32)), (f_bit xy (3 : Int32)), (f_bit xx (4 : Int32)), (f_bit xy (5 : Int32))] ((b157, OA Z .boolean [(f_bit xx (0 : Int32)), (f_bit xx (1 : Int32)), (f_bit xx (2 : Int32)), (f_bit xx (3 : Int32)), (f_bit xx (4 : Int32)), (f_bit xx (5 : Int32))]) :: (b158, OA Z .boolean [(f_bit xy (0 : Int32)), (f_bit xy (1 : Int32)), (f_bit xy (2 : Int32)), (f_bit xy (3 : Int32)), (f_bit xy (4 : Int32)), (f_bit xy (5 : Int32))]) :: []) H163 4 rfl (Or.inr rfl)) (hw _ (List.mem_of_getElem? (i := 12) rfl)) (hw _ (List.mem_of_getElem? (i := 13) rfl)) (hw _ (List.mem_of_getElem? (i := 3) rfl)) (hw _ (List.mem_of_getElem? (i := 14) rfl)) (by decide) 0 (by decide) (by decide) rfl [(.ref a163), (.int (4 : Int32)), (.int (f_bit xx (4 : Int32)))] rfl pd_4 rfl rfl (Nat.le_of_eq rfl) 3 18 rfl rfl (by decide) (by decide) 133 rfl ?_
    rintro _ T174 _ X174 ⟨rfl, rfl⟩
    show OE p e room_1 below s n0 Q' T174 (mkF m 133 #[.val (.int xl), .val (.int xx), .val (.int xy), .val (.int (6 : Int32)), .val (.ref b157), .val (.ref b158), .val (.ref a163), .unset] [(.int (1 : Int32))])
    refine o_ifEq X174 at_133 170 136 (by decide) (by decide) rfl (fun q => by exfalso; exact absurd q (by decide)) ?_
    intro hc133
    refine o_aload X174 at_136 rfl rfl 138 rfl ?_
    refine o_iconst (v := (5 : Int32)) X174 at_138 rfl 139 rfl ?_
    refine o_iloadN X174 at_139 rfl 140 rfl ?_
    refine o_iconst (v := (5 : Int32)) X174 at_140 rfl 141 rfl ?_
    refine o_callS X174 at_141 (rest := [(.int (5 : Int32)), (.ref a163)]) (c_bit l Z a0 hw [] n0 _ X174.size xy (5 : Int32) ) (hw _ (List.mem_of_getElem? (i := 9) rfl)) (hw _ (List.mem_of_getElem? (i := 10) rfl)) (hw _ (List.mem_of_getElem? (i := 3) rfl)) (hw _ (List.mem_of_getElem? (i := 11) rfl)) (by decide) 2 (by decide) (by decide) rfl [(.int xy), (.int (5 : Int32))] rfl pd_3 rfl rfl (Nat.le_of_eq rfl) 3 18 rfl rfl (by decide) (by decide) 144 rfl ?_
    rintro _ T175 _ X175 ⟨rfl, rfl⟩
    show OE p e room_1 below s n0 Q' T175 (mkF m 144 #[.val (.int xl), .val (.int xx), .val (.int xy), .val (.int (6 : Int32)), .val (.ref b157), .val (.ref b158), .val (.ref a163), .unset] [(.int (f_bit xy (5 : Int32))), (.int (5 : Int32)), (.ref a163)])
    refine o_callS X175 at_144 (rest := []) (c_at l Z a0 hw [] n0 _ X175.size a163 (5 : Int32) (f_bit xy (5 : Int32)) [(f_bit xx (0 : Int32)), (f_bit xy (1 : Int32)), (f_bit xx (2 : Int32)), (f_bit xy (3 : Int32)), (f_bit xx (4 : Int32)), (f_bit xy (5 : Int32))] ((b157, OA Z .boolean [(f_bit xx (0 : Int32)), (f_bit xx (1 : Int32)), (f_bit xx (2 : Int32)), (f_bit xx (3 : Int32)), (f_bit xx (4 : Int32)), (f_bit xx (5 : Int32))]) :: (b158, OA Z .boolean [(f_bit xy (0 : Int32)), (f_bit xy (1 : Int32)), (f_bit xy (2 : Int32)), (f_bit xy (3 : Int32)), (f_bit xy (4 : Int32)), (f_bit xy (5 : Int32))]) :: []) H163 5 rfl (Or.inr rfl)) (hw _ (List.mem_of_getElem? (i := 12) rfl)) (hw _ (List.mem_of_getElem? (i := 13) rfl)) (hw _ (List.mem_of_getElem? (i := 3) rfl)) (hw _ (List.mem_of_getElem? (i := 14) rfl)) (by decide) 0 (by decide) (by decide) rfl [(.ref a163), (.int (5 : Int32)), (.int (f_bit xy (5 : Int32)))] rfl pd_4 rfl rfl (Nat.le_of_eq rfl) 3 18 rfl rfl (by decide) (by decide) 147 rfl ?_
    rintro _ T176 _ X176 ⟨rfl, rfl⟩
    show OE p e room_1 below s n0 Q' T176 (mkF m 147 #[.val (.int xl), .val (.int xx), .val (.int xy), .val (.int (6 : Int32)), .val (.ref b157), .val (.ref b158), .val (.ref a163), .unset] [(.int (1 : Int32))])
    refine o_ifEq X176 at_147 170 150 (by decide) (by decide) rfl (fun q => by exfalso; exact absurd q (by decide)) ?_
    intro hc147
    refine o_aload X176 at_150 rfl rfl 152 rfl ?_
    refine o_bipush (v := (6 : Int32)) X176 at_152 rfl 154 rfl ?_
    refine o_iloadN X176 at_154 rfl 155 rfl ?_
    refine o_bipush (v := (6 : Int32)) X176 at_155 rfl 157 rfl ?_
    refine o_callS X176 at_157 (rest := [(.int (6 : Int32)), (.ref a163)]) (c_bit l Z a0 hw [] n0 _ X176.size xx (6 : Int32) ) (hw _ (List.mem_of_getElem? (i := 9) rfl)) (hw _ (List.mem_of_getElem? (i := 10) rfl)) (hw _ (List.mem_of_getElem? (i := 3) rfl)) (hw _ (List.mem_of_getElem? (i := 11) rfl)) (by decide) 2 (by decide) (by decide) rfl [(.int xx), (.int (6 : Int32))] rfl pd_3 rfl rfl (Nat.le_of_eq rfl) 3 18 rfl rfl (by decide) (by decide) 160 rfl ?_
    rintro _ T177 _ X177 ⟨rfl, rfl⟩
    show OE p e room_1 below s n0 Q' T177 (mkF m 160 #[.val (.int xl), .val (.int xx), .val (.int xy), .val (.int (6 : Int32)), .val (.ref b157), .val (.ref b158), .val (.ref a163), .unset] [(.int (f_bit xx (6 : Int32))), (.int (6 : Int32)), (.ref a163)])
    refine o_callS X177 at_160 (rest := []) (c_at l Z a0 hw [] n0 _ X177.size a163 (6 : Int32) (f_bit xx (6 : Int32)) [(f_bit xx (0 : Int32)), (f_bit xy (1 : Int32)), (f_bit xx (2 : Int32)), (f_bit xy (3 : Int32)), (f_bit xx (4 : Int32)), (f_bit xy (5 : Int32))] ((b157, OA Z .boolean [(f_bit xx (0 : Int32)), (f_bit xx (1 : Int32)), (f_bit xx (2 : Int32)), (f_bit xx (3 : Int32)), (f_bit xx (4 : Int32)), (f_bit xx (5 : Int32))]) :: (b158, OA Z .boolean [(f_bit xy (0 : Int32)), (f_bit xy (1 : Int32)), (f_bit xy (2 : Int32)), (f_bit xy (3 : Int32)), (f_bit xy (4 : Int32)), (f_bit xy (5 : Int32))]) :: []) H163 6 rfl (Or.inl (by show 6 ≤ 6; decide))) (hw _ (List.mem_of_getElem? (i := 12) rfl)) (hw _ (List.mem_of_getElem? (i := 13) rfl)) (hw _ (List.mem_of_getElem? (i := 3) rfl)) (hw _ (List.mem_of_getElem? (i := 14) rfl)) (by decide) 0 (by decide) (by decide) rfl [(.ref a163), (.int (6 : Int32)), (.int (f_bit xx (6 : Int32)))] rfl pd_4 rfl rfl (Nat.le_of_eq rfl) 3 18 rfl rfl (by decide) (by decide) 163 rfl ?_
    rintro _ T178 _ X178 ⟨rfl, rfl⟩
    show OE p e room_1 below s n0 Q' T178 (mkF m 163 #[.val (.int xl), .val (.int xx), .val (.int xy), .val (.int (6 : Int32)), .val (.ref b157), .val (.ref b158), .val (.ref a163), .unset] [(.int (1 : Int32))])
    refine o_ifEq X178 at_163 170 166 (by decide) (by decide) rfl (fun q => by exfalso; exact absurd q (by decide)) ?_
    intro hc163
    refine o_iconst (v := (1 : Int32)) X178 at_166 rfl 167 rfl ?_
    refine o_goto X178 at_167 171 (by decide) (by decide) ?_
    refine o_istore X178 at_171 #[.val (.int xl), .val (.int xx), .val (.int xy), .val (.int (6 : Int32)), .val (.ref b157), .val (.ref b158), .val (.ref a163), .val (.int (1 : Int32))] rfl 173 rfl ?_
    refine o_iload X178 at_173 rfl 175 rfl ?_
    refine o_ifEq X178 at_175 200 178 (by decide) (by decide) rfl (fun q => by exfalso; exact absurd q (by decide)) ?_
    intro hc175
    refine o_aload X178 at_178 rfl rfl 180 rfl ?_
    refine o_iloadN X178 at_180 rfl 181 rfl ?_
    have H180 : OL n0 h163 ((b157, OA Z .boolean [(f_bit xx (0 : Int32)), (f_bit xx (1 : Int32)), (f_bit xx (2 : Int32)), (f_bit xx (3 : Int32)), (f_bit xx (4 : Int32)), (f_bit xx (5 : Int32))]) :: (a163, OA Z .boolean [(f_bit xx (0 : Int32)), (f_bit xy (1 : Int32)), (f_bit xx (2 : Int32)), (f_bit xy (3 : Int32)), (f_bit xx (4 : Int32)), (f_bit xy (5 : Int32))]) :: (b158, OA Z .boolean [(f_bit xy (0 : Int32)), (f_bit xy (1 : Int32)), (f_bit xy (2 : Int32)), (f_bit xy (3 : Int32)), (f_bit xy (4 : Int32)), (f_bit xy (5 : Int32))]) :: []) := H163.front 1 rfl
    refine o_callS X178 at_181 (rest := []) (c_same6 l Z a0 hw [] n0 _ X178.size b157 xx ((a163, OA Z .boolean [(f_bit xx (0 : Int32)), (f_bit xy (1 : Int32)), (f_bit xx (2 : Int32)), (f_bit xy (3 : Int32)), (f_bit xx (4 : Int32)), (f_bit xy (5 : Int32))]) :: (b158, OA Z .boolean [(f_bit xy (0 : Int32)), (f_bit xy (1 : Int32)), (f_bit xy (2 : Int32)), (f_bit xy (3 : Int32)), (f_bit xy (4 : Int32)), (f_bit xy (5 : Int32))]) :: []) H180) (hw _ (List.mem_of_getElem? (i := 15) rfl)) (hw _ (List.mem_of_getElem? (i := 16) rfl)) (hw _ (List.mem_of_getElem? (i := 3) rfl)) (hw _ (List.mem_of_getElem? (i := 17) rfl)) (by decide) 0 (by decide) (by decide) rfl [(.ref b157), (.int xx)] rfl pd_5 rfl rfl (Nat.le_of_eq rfl) 3 18 rfl rfl (by decide) (by decide) 184 rfl ?_
    rintro _ T179 _ X179 ⟨rfl, rfl⟩
    show OE p e room_1 below s n0 Q' T179 (mkF m 184 #[.val (.int xl), .val (.int xx), .val (.int xy), .val (.int (6 : Int32)), .val (.ref b157), .val (.ref b158), .val (.ref a163), .val (.int (1 : Int32))] [(.int (1 : Int32))])
    refine o_ifEq X179 at_184 200 187 (by decide) (by decide) rfl (fun q => by exfalso; exact absurd q (by decide)) ?_
    intro hc184
    refine o_aload X179 at_187 rfl rfl 189 rfl ?_
    refine o_iloadN X179 at_189 rfl 190 rfl ?_
    have H182 : OL n0 h163 ((b158, OA Z .boolean [(f_bit xy (0 : Int32)), (f_bit xy (1 : Int32)), (f_bit xy (2 : Int32)), (f_bit xy (3 : Int32)), (f_bit xy (4 : Int32)), (f_bit xy (5 : Int32))]) :: (b157, OA Z .boolean [(f_bit xx (0 : Int32)), (f_bit xx (1 : Int32)), (f_bit xx (2 : Int32)), (f_bit xx (3 : Int32)), (f_bit xx (4 : Int32)), (f_bit xx (5 : Int32))]) :: (a163, OA Z .boolean [(f_bit xx (0 : Int32)), (f_bit xy (1 : Int32)), (f_bit xx (2 : Int32)), (f_bit xy (3 : Int32)), (f_bit xx (4 : Int32)), (f_bit xy (5 : Int32))]) :: []) := H180.front 2 rfl
    refine o_callS X179 at_190 (rest := []) (c_same6 l Z a0 hw [] n0 _ X179.size b158 xy ((b157, OA Z .boolean [(f_bit xx (0 : Int32)), (f_bit xx (1 : Int32)), (f_bit xx (2 : Int32)), (f_bit xx (3 : Int32)), (f_bit xx (4 : Int32)), (f_bit xx (5 : Int32))]) :: (a163, OA Z .boolean [(f_bit xx (0 : Int32)), (f_bit xy (1 : Int32)), (f_bit xx (2 : Int32)), (f_bit xy (3 : Int32)), (f_bit xx (4 : Int32)), (f_bit xy (5 : Int32))]) :: []) H182) (hw _ (List.mem_of_getElem? (i := 15) rfl)) (hw _ (List.mem_of_getElem? (i := 16) rfl)) (hw _ (List.mem_of_getElem? (i := 3) rfl)) (hw _ (List.mem_of_getElem? (i := 17) rfl)) (by decide) 0 (by decide) (by decide) rfl [(.ref b158), (.int xy)] rfl pd_5 rfl rfl (Nat.le_of_eq rfl) 3 18 rfl rfl (by decide) (by decide) 193 rfl ?_
    rintro _ T181 _ X181 ⟨rfl, rfl⟩
    show OE p e room_1 below s n0 Q' T181 (mkF m 193 #[.val (.int xl), .val (.int xx), .val (.int xy), .val (.int (6 : Int32)), .val (.ref b157), .val (.ref b158), .val (.ref a163), .val (.int (1 : Int32))] [(.int (1 : Int32))])
    refine o_ifEq X181 at_193 200 196 (by decide) (by decide) rfl (fun q => by exfalso; exact absurd q (by decide)) ?_
    intro hc193
    refine o_iconst (v := (1 : Int32)) X181 at_196 rfl 197 rfl ?_
    refine o_goto X181 at_197 201 (by decide) (by decide) ?_
    exact o_retZ X181 at_201 (by decide) (by decide) (hQ _ _ rfl)
  · rw [hv]
    refine o_iloadN X0 at_5 rfl 6 rfl ?_
    refine o_newarray (L := []) X0 OL.nil at_6 (hw _ (List.mem_of_getElem? (i := 0) rfl)) rfl rfl 7 7 rfl (by decide) (by decide) 1 7 rfl rfl (by decide) (by decide) 8 rfl ?_
    intro T183 h183 b183 X183 H183
    replace H183 : OL n0 h183 ((b183, OA Z .boolean [(0 : Int32), (0 : Int32), (0 : Int32), (0 : Int32), (0 : Int32), (0 : Int32), (0 : Int32)]) :: []) := H183
    refine o_astore X183 at_8 rfl #[.val (.int xl), .val (.int xx), .val (.int xy), .val (.int (7 : Int32)), .val (.ref b183), .unset, .unset, .unset] rfl 10 rfl ?_
    refine o_iloadN X183 at_10 rfl 11 rfl ?_
    refine o_newarray (L := ((b183, OA Z .boolean [(0 : Int32), (0 : Int32), (0 : Int32), (0 : Int32), (0 : Int32), (0 : Int32), (0 : Int32)]) :: [])) X183 H183 at_11 (hw _ (List.mem_of_getElem? (i := 0) rfl)) rfl rfl 7 7 rfl (by decide) (by decide) 2 14 rfl rfl (by decide) (by decide) 13 rfl ?_
    intro T184 h184 b184 X184 H184
    replace H184 : OL n0 h184 ((b184, OA Z .boolean [(0 : Int32), (0 : Int32), (0 : Int32), (0 : Int32), (0 : Int32), (0 : Int32), (0 : Int32)]) :: (b183, OA Z .boolean [(0 : Int32), (0 : Int32), (0 : Int32), (0 : Int32), (0 : Int32), (0 : Int32), (0 : Int32)]) :: []) := H184
    refine o_astore X184 at_13 rfl #[.val (.int xl), .val (.int xx), .val (.int xy), .val (.int (7 : Int32)), .val (.ref b183), .val (.ref b184), .unset, .unset] rfl 15 rfl ?_
    refine o_aload X184 at_15 rfl rfl 17 rfl ?_
    refine o_iloadN X184 at_17 rfl 18 rfl ?_
    have H186 : OL n0 h184 ((b183, OA Z .boolean [(0 : Int32), (0 : Int32), (0 : Int32), (0 : Int32), (0 : Int32), (0 : Int32), (0 : Int32)]) :: (b184, OA Z .boolean [(0 : Int32), (0 : Int32), (0 : Int32), (0 : Int32), (0 : Int32), (0 : Int32), (0 : Int32)]) :: []) := H184.front 1 rfl
    refine o_callS X184 at_18 (rest := []) (c_fill7 l Z a0 hw [] n0 _ X184.size b183 xx ((b184, OA Z .boolean [(0 : Int32), (0 : Int32), (0 : Int32), (0 : Int32), (0 : Int32), (0 : Int32), (0 : Int32)]) :: []) H186) (hw _ (List.mem_of_getElem? (i := 1) rfl)) (hw _ (List.mem_of_getElem? (i := 2) rfl)) (hw _ (List.mem_of_getElem? (i := 3) rfl)) (hw _ (List.mem_of_getElem? (i := 4) rfl)) (by decide) 0 (by decide) (by decide) rfl [(.ref b183), (.int xx)] rfl pd_1 rfl rfl (Nat.le_of_eq rfl) 2 14 rfl rfl (by decide) (by decide) 21 rfl ?_
    rintro _ T185 h185 X185 ⟨rfl, H185⟩
    replace H185 : OL n0 h185 ((b183, OA Z .boolean [(f_bit xx (0 : Int32)), (f_bit xx (1 : Int32)), (f_bit xx (2 : Int32)), (f_bit xx (3 : Int32)), (f_bit xx (4 : Int32)), (f_bit xx (5 : Int32)), (f_bit xx (6 : Int32))]) :: (b184, OA Z .boolean [(0 : Int32), (0 : Int32), (0 : Int32), (0 : Int32), (0 : Int32), (0 : Int32), (0 : Int32)]) :: []) := H185
    show OE p e room_1 below s n0 Q' T185 (mkF m 21 #[.val (.int xl), .val (.int xx), .val (.int xy), .val (.int (7 : Int32)), .val (.ref b183), .val (.ref b184), .unset, .unset] [])
    refine o_aload X185 at_21 rfl rfl 23 rfl ?_
    refine o_iloadN X185 at_23 rfl 24 rfl ?_
    have H188 : OL n0 h185 ((b184, OA Z .boolean [(0 : Int32), (0 : Int32), (0 : Int32), (0 : Int32), (0 : Int32), (0 : Int32), (0 : Int32)]) :: (b183, OA Z .boolean [(f_bit xx (0 : Int32)), (f_bit xx (1 : Int32)), (f_bit xx (2 : Int32)), (f_bit xx (3 : Int32)), (f_bit xx (4 : Int32)), (f_bit xx (5 : Int32)), (f_bit xx (6 : Int32))]) :: []) := H185.front 1 rfl
    refine o_callS X185 at_24 (rest := []) (c_fill7 l Z a0 hw [] n0 _ X185.size b184 xy ((b183, OA Z .boolean [(f_bit xx (0 : Int32)), (f_bit xx (1 : Int32)), (f_bit xx (2 : Int32)), (f_bit xx (3 : Int32)), (f_bit xx (4 : Int32)), (f_bit xx (5 : Int32)), (f_bit xx (6 : Int32))]) :: []) H188) (hw _ (List.mem_of_getElem? (i := 1) rfl)) (hw _ (List.mem_of_getElem? (i := 2) rfl)) (hw _ (List.mem_of_getElem? (i := 3) rfl)) (hw _ (List.mem_of_getElem? (i := 4) rfl)) (by decide) 0 (by decide) (by decide) rfl [(.ref b184), (.int xy)] rfl pd_1 rfl rfl (Nat.le_of_eq rfl) 2 14 rfl rfl (by decide) (by decide) 27 rfl ?_
    rintro _ T187 h187 X187 ⟨rfl, H187⟩
    replace H187 : OL n0 h187 ((b184, OA Z .boolean [(f_bit xy (0 : Int32)), (f_bit xy (1 : Int32)), (f_bit xy (2 : Int32)), (f_bit xy (3 : Int32)), (f_bit xy (4 : Int32)), (f_bit xy (5 : Int32)), (f_bit xy (6 : Int32))]) :: (b183, OA Z .boolean [(f_bit xx (0 : Int32)), (f_bit xx (1 : Int32)), (f_bit xx (2 : Int32)), (f_bit xx (3 : Int32)), (f_bit xx (4 : Int32)), (f_bit xx (5 : Int32)), (f_bit xx (6 : Int32))]) :: []) := H187
    show OE p e room_1 below s n0 Q' T187 (mkF m 27 #[.val (.int xl), .val (.int xx), .val (.int xy), .val (.int (7 : Int32)), .val (.ref b183), .val (.ref b184), .unset, .unset] [])
    refine o_aload X187 at_27 rfl rfl 29 rfl ?_
    refine o_aload X187 at_29 rfl rfl 31 rfl ?_
    have H190 : OL n0 h187 ((b183, OA Z .boolean [(f_bit xx (0 : Int32)), (f_bit xx (1 : Int32)), (f_bit xx (2 : Int32)), (f_bit xx (3 : Int32)), (f_bit xx (4 : Int32)), (f_bit xx (5 : Int32)), (f_bit xx (6 : Int32))]) :: (b184, OA Z .boolean [(f_bit xy (0 : Int32)), (f_bit xy (1 : Int32)), (f_bit xy (2 : Int32)), (f_bit xy (3 : Int32)), (f_bit xy (4 : Int32)), (f_bit xy (5 : Int32)), (f_bit xy (6 : Int32))]) :: []) := H187.front 1 rfl
    refine o_callS X187 at_31 (rest := []) (c_comb7 l Z a0 hw [] n0 _ X187.size b183 b184 xx xy [] H190) (hw _ (List.mem_of_getElem? (i := 5) rfl)) (hw _ (List.mem_of_getElem? (i := 6) rfl)) (hw _ (List.mem_of_getElem? (i := 7) rfl)) (hw _ (List.mem_of_getElem? (i := 8) rfl)) (by decide) 0 (by decide) (by decide) rfl [(.ref b183), (.ref b184)] rfl pd_2 rfl rfl (Nat.le_of_eq rfl) 3 21 rfl rfl (by decide) (by decide) 34 rfl ?_
    rintro _ T189 h189 X189 ⟨a189, rfl, H189⟩
    replace H189 : OL n0 h189 ((a189, OA Z .boolean [(f_bit xx (0 : Int32)), (f_bit xy (1 : Int32)), (f_bit xx (2 : Int32)), (f_bit xy (3 : Int32)), (f_bit xx (4 : Int32)), (f_bit xy (5 : Int32)), (f_bit xx (6 : Int32))]) :: (b183, OA Z .boolean [(f_bit xx (0 : Int32)), (f_bit xx (1 : Int32)), (f_bit xx (2 : Int32)), (f_bit xx (3 : Int32)), (f_bit xx (4 : Int32)), (f_bit xx (5 : Int32)), (f_bit xx (6 : Int32))]) :: (b184, OA Z .boolean [(f_bit xy (0 : Int32)), (f_bit xy (1 : Int32)), (f_bit xy (2 : Int32)), (f_bit xy (3 : Int32)), (f_bit xy (4 : Int32)), (f_bit xy (5 : Int32)), (f_bit xy (6 : Int32))]) :: []) := H189
    show OE p e room_1 below s n0 Q' T189 (mkF m 34 #[.val (.int xl), .val (.int xx), .val (.int xy), .val (.int (7 : Int32)), .val (.ref b183), .val (.ref b184), .unset, .unset] [(.ref a189)])
    refine o_astore X189 at_34 rfl #[.val (.int xl), .val (.int xx), .val (.int xy), .val (.int (7 : Int32)), .val (.ref b183), .val (.ref b184), .val (.ref a189), .unset] rfl 36 rfl ?_
    refine o_aload X189 at_36 rfl rfl 38 rfl ?_
    refine o_ifnullR X189 at_38 41 rfl ?_
    refine o_aload X189 at_41 rfl rfl 43 rfl ?_
    refine o_arraylength X189 H189 0 rfl at_43 (7 : Int32) rfl 44 rfl ?_
    refine o_iloadN X189 at_44 rfl 45 rfl ?_
    refine o_icmpEq X189 at_45 50 48 (by decide) (by decide) rfl ?_ (fun q => by exfalso; exact absurd q (by decide))
    intro hc45
    refine o_aload X189 at_50 rfl rfl 52 rfl ?_
    refine o_aload X189 at_52 rfl rfl 54 rfl ?_
    refine o_acmpEqN X189 at_54 (H189.ne (i := 0) (j := 1) rfl rfl (by decide)) 57 rfl ?_
    refine o_aload X189 at_57 rfl rfl 59 rfl ?_
    refine o_aload X189 at_59 rfl rfl 61 rfl ?_
    refine o_acmpNeY X189 at_61 (H189.ne (i := 0) (j := 2) rfl rfl (by decide)) 66 (by decide) (by decide) ?_
    refine o_aload X189 at_66 rfl rfl 68 rfl ?_
    refine o_iconst (v := (0 : Int32)) X189 at_68 rfl 69 rfl ?_
    refine o_iloadN X189 at_69 rfl 70 rfl ?_
    refine o_iconst (v := (0 : Int32)) X189 at_70 rfl 71 rfl ?_
    refine o_callS X189 at_71 (rest := [(.int (0 : Int32)), (.ref a189)]) (c_bit l Z a0 hw [] n0 _ X189.size xx (0 : Int32) ) (hw _ (List.mem_of_getElem? (i := 9) rfl)) (hw _ (List.mem_of_getElem? (i := 10) rfl)) (hw _ (List.mem_of_getElem? (i := 3) rfl)) (hw _ (List.mem_of_getElem? (i := 11) rfl)) (by decide) 2 (by decide) (by decide) rfl [(.int xx), (.int (0 : Int32))] rfl pd_3 rfl rfl (Nat.le_of_eq rfl) 3 21 rfl rfl (by decide) (by decide) 74 rfl ?_
    rintro _ T191 _ X191 ⟨rfl, rfl⟩
    show OE p e room_1 below s n0 Q' T191 (mkF m 74 #[.val (.int xl), .val (.int xx), .val (.int xy), .val (.int (7 : Int32)), .val (.ref b183), .val (.ref b184), .val (.ref a189), .unset] [(.int (f_bit xx (0 : Int32))), (.int (0 : Int32)), (.ref a189)])
    refine o_callS X191 at_74 (rest := []) (c_at l Z a0 hw [] n0 _ X191.size a189 (0 : Int32) (f_bit xx (0 : Int32)) [(f_bit xx (0 : Int32)), (f_bit xy (1 : Int32)), (f_bit xx (2 : Int32)), (f_bit xy (3 : Int32)), (f_bit xx (4 : Int32)), (f_bit xy (5 : Int32)), (f_bit xx (6 : Int32))] ((b183, OA Z .boolean [(f_bit xx (0 : Int32)), (f_bit xx (1 : Int32)), (f_bit xx (2 : Int32)), (f_bit xx (3 : Int32)), (f_bit xx (4 : Int32)), (f_bit xx (5 : Int32)), (f_bit xx (6 : Int32))]) :: (b184, OA Z .boolean [(f_bit xy (0 : Int32)), (f_bit xy (1 : Int32)), (f_bit xy (2 : Int32)), (f_bit xy (3 : Int32)), (f_bit xy (4 : Int32)), (f_bit xy (5 : Int32)), (f_bit xy (6 : Int32))]) :: []) H189 0 rfl (Or.inr rfl)) (hw _ (List.mem_of_getElem? (i := 12) rfl)) (hw _ (List.mem_of_getElem? (i := 13) rfl)) (hw _ (List.mem_of_getElem? (i := 3) rfl)) (hw _ (List.mem_of_getElem? (i := 14) rfl)) (by decide) 0 (by decide) (by decide) rfl [(.ref a189), (.int (0 : Int32)), (.int (f_bit xx (0 : Int32)))] rfl pd_4 rfl rfl (Nat.le_of_eq rfl) 3 21 rfl rfl (by decide) (by decide) 77 rfl ?_
    rintro _ T192 _ X192 ⟨rfl, rfl⟩
    show OE p e room_1 below s n0 Q' T192 (mkF m 77 #[.val (.int xl), .val (.int xx), .val (.int xy), .val (.int (7 : Int32)), .val (.ref b183), .val (.ref b184), .val (.ref a189), .unset] [(.int (1 : Int32))])
    refine o_ifEq X192 at_77 170 80 (by decide) (by decide) rfl (fun q => by exfalso; exact absurd q (by decide)) ?_
    intro hc77
    refine o_aload X192 at_80 rfl rfl 82 rfl ?_
    refine o_iconst (v := (1 : Int32)) X192 at_82 rfl 83 rfl ?_
    refine o_iloadN X192 at_83 rfl 84 rfl ?_
    refine o_iconst (v := (1 : Int32)) X192 at_84 rfl 85 rfl ?_
    refine o_callS X192 at_85 (rest := [(.int (1 : Int32)), (.ref a189)]) (c_bit l Z a0 hw [] n0 _ X192.size xy (1 : Int32) ) (hw _ (List.mem_of_getElem? (i := 9) rfl)) (hw _ (List.mem_of_getElem? (i := 10) rfl)) (hw _ (List.mem_of_getElem? (i := 3) rfl)) (hw _ (List.mem_of_getElem? (i := 11) rfl)) (by decide) 2 (by decide) (by decide) rfl [(.int xy), (.int (1 : Int32))] rfl pd_3 rfl rfl (Nat.le_of_eq rfl) 3 21 rfl rfl (by decide) (by decide) 88 rfl ?_
    rintro _ T193 _ X193 ⟨rfl, rfl⟩
    show OE p e room_1 below s n0 Q' T193 (mkF m 88 #[.val (.int xl), .val (.int xx), .val (.int xy), .val (.int (7 : Int32)), .val (.ref b183), .val (.ref b184), .val (.ref a189), .unset] [(.int (f_bit xy (1 : Int32))), (.int (1 : Int32)), (.ref a189)])
    refine o_callS X193 at_88 (rest := []) (c_at l Z a0 hw [] n0 _ X193.size a189 (1 : Int32) (f_bit xy (1 : Int32)) [(f_bit xx (0 : Int32)), (f_bit xy (1 : Int32)), (f_bit xx (2 : Int32)), (f_bit xy (3 : Int32)), (f_bit xx (4 : Int32)), (f_bit xy (5 : Int32)), (f_bit xx (6 : Int32))] ((b183, OA Z .boolean [(f_bit xx (0 : Int32)), (f_bit xx (1 : Int32)), (f_bit xx (2 : Int32)), (f_bit xx (3 : Int32)), (f_bit xx (4 : Int32)), (f_bit xx (5 : Int32)), (f_bit xx (6 : Int32))]) :: (b184, OA Z .boolean [(f_bit xy (0 : Int32)), (f_bit xy (1 : Int32)), (f_bit xy (2 : Int32)), (f_bit xy (3 : Int32)), (f_bit xy (4 : Int32)), (f_bit xy (5 : Int32)), (f_bit xy (6 : Int32))]) :: []) H189 1 rfl (Or.inr rfl)) (hw _ (List.mem_of_getElem? (i := 12) rfl)) (hw _ (List.mem_of_getElem? (i := 13) rfl)) (hw _ (List.mem_of_getElem? (i := 3) rfl)) (hw _ (List.mem_of_getElem? (i := 14) rfl)) (by decide) 0 (by decide) (by decide) rfl [(.ref a189), (.int (1 : Int32)), (.int (f_bit xy (1 : Int32)))] rfl pd_4 rfl rfl (Nat.le_of_eq rfl) 3 21 rfl rfl (by decide) (by decide) 91 rfl ?_
    rintro _ T194 _ X194 ⟨rfl, rfl⟩
    show OE p e room_1 below s n0 Q' T194 (mkF m 91 #[.val (.int xl), .val (.int xx), .val (.int xy), .val (.int (7 : Int32)), .val (.ref b183), .val (.ref b184), .val (.ref a189), .unset] [(.int (1 : Int32))])
    refine o_ifEq X194 at_91 170 94 (by decide) (by decide) rfl (fun q => by exfalso; exact absurd q (by decide)) ?_
    intro hc91
    refine o_aload X194 at_94 rfl rfl 96 rfl ?_
    refine o_iconst (v := (2 : Int32)) X194 at_96 rfl 97 rfl ?_
    refine o_iloadN X194 at_97 rfl 98 rfl ?_
    refine o_iconst (v := (2 : Int32)) X194 at_98 rfl 99 rfl ?_
    refine o_callS X194 at_99 (rest := [(.int (2 : Int32)), (.ref a189)]) (c_bit l Z a0 hw [] n0 _ X194.size xx (2 : Int32) ) (hw _ (List.mem_of_getElem? (i := 9) rfl)) (hw _ (List.mem_of_getElem? (i := 10) rfl)) (hw _ (List.mem_of_getElem? (i := 3) rfl)) (hw _ (List.mem_of_getElem? (i := 11) rfl)) (by decide) 2 (by decide) (by decide) rfl [(.int xx), (.int (2 : Int32))] rfl pd_3 rfl rfl (Nat.le_of_eq rfl) 3 21 rfl rfl (by decide) (by decide) 102 rfl ?_
    rintro _ T195 _ X195 ⟨rfl, rfl⟩
    show OE p e room_1 below s n0 Q' T195 (mkF m 102 #[.val (.int xl), .val (.int xx), .val (.int xy), .val (.int (7 : Int32)), .val (.ref b183), .val (.ref b184), .val (.ref a189), .unset] [(.int (f_bit xx (2 : Int32))), (.int (2 : Int32)), (.ref a189)])
    refine o_callS X195 at_102 (rest := []) (c_at l Z a0 hw [] n0 _ X195.size a189 (2 : Int32) (f_bit xx (2 : Int32)) [(f_bit xx (0 : Int32)), (f_bit xy (1 : Int32)), (f_bit xx (2 : Int32)), (f_bit xy (3 : Int32)), (f_bit xx (4 : Int32)), (f_bit xy (5 : Int32)), (f_bit xx (6 : Int32))] ((b183, OA Z .boolean [(f_bit xx (0 : Int32)), (f_bit xx (1 : Int32)), (f_bit xx (2 : Int32)), (f_bit xx (3 : Int32)), (f_bit xx (4 : Int32)), (f_bit xx (5 : Int32)), (f_bit xx (6 : Int32))]) :: (b184, OA Z .boolean [(f_bit xy (0 : Int32)), (f_bit xy (1 : Int32)), (f_bit xy (2 : Int32)), (f_bit xy (3 : Int32)), (f_bit xy (4 : Int32)), (f_bit xy (5 : Int32)), (f_bit xy (6 : Int32))]) :: []) H189 2 rfl (Or.inr rfl)) (hw _ (List.mem_of_getElem? (i := 12) rfl)) (hw _ (List.mem_of_getElem? (i := 13) rfl)) (hw _ (List.mem_of_getElem? (i := 3) rfl)) (hw _ (List.mem_of_getElem? (i := 14) rfl)) (by decide) 0 (by decide) (by decide) rfl [(.ref a189), (.int (2 : Int32)), (.int (f_bit xx (2 : Int32)))] rfl pd_4 rfl rfl (Nat.le_of_eq rfl) 3 21 rfl rfl (by decide) (by decide) 105 rfl ?_
    rintro _ T196 _ X196 ⟨rfl, rfl⟩
    show OE p e room_1 below s n0 Q' T196 (mkF m 105 #[.val (.int xl), .val (.int xx), .val (.int xy), .val (.int (7 : Int32)), .val (.ref b183), .val (.ref b184), .val (.ref a189), .unset] [(.int (1 : Int32))])
    refine o_ifEq X196 at_105 170 108 (by decide) (by decide) rfl (fun q => by exfalso; exact absurd q (by decide)) ?_
    intro hc105
    refine o_aload X196 at_108 rfl rfl 110 rfl ?_
    refine o_iconst (v := (3 : Int32)) X196 at_110 rfl 111 rfl ?_
    refine o_iloadN X196 at_111 rfl 112 rfl ?_
    refine o_iconst (v := (3 : Int32)) X196 at_112 rfl 113 rfl ?_
    refine o_callS X196 at_113 (rest := [(.int (3 : Int32)), (.ref a189)]) (c_bit l Z a0 hw [] n0 _ X196.size xy (3 : Int32) ) (hw _ (List.mem_of_getElem? (i := 9) rfl)) (hw _ (List.mem_of_getElem? (i := 10) rfl)) (hw _ (List.mem_of_getElem? (i := 3) rfl)) (hw _ (List.mem_of_getElem? (i := 11) rfl)) (by decide) 2 (by decide) (by decide) rfl [(.int xy), (.int (3 : Int32))] rfl pd_3 rfl rfl (Nat.le_of_eq rfl) 3 21 rfl rfl (by decide) (by decide) 116 rfl ?_
    rintro _ T197 _ X197 ⟨rfl, rfl⟩
    show OE p e room_1 below s n0 Q' T197 (mkF m 116 #[.val (.int xl), .val (.int xx), .val (.int xy), .val (.int (7 : Int32)), .val (.ref b183), .val (.ref b184), .val (.ref a189), .unset] [(.int (f_bit xy (3 : Int32))), (.int (3 : Int32)), (.ref a189)])
    refine o_callS X197 at_116 (rest := []) (c_at l Z a0 hw [] n0 _ X197.size a189 (3 : Int32) (f_bit xy (3 : Int32)) [(f_bit xx (0 : Int32)), (f_bit xy (1 : Int32)), (f_bit xx (2 : Int32)), (f_bit xy (3 : Int32)), (f_bit xx (4 : Int32)), (f_bit xy (5 : Int32)), (f_bit xx (6 : Int32))] ((b183, OA Z .boolean [(f_bit xx (0 : Int32)), (f_bit xx (1 : Int32)), (f_bit xx (2 : Int32)), (f_bit xx (3 : Int32)), (f_bit xx (4 : Int32)), (f_bit xx (5 : Int32)), (f_bit xx (6 : Int32))]) :: (b184, OA Z .boolean [(f_bit xy (0 : Int32)), (f_bit xy (1 : Int32)), (f_bit xy (2 : Int32)), (f_bit xy (3 : Int32)), (f_bit xy (4 : Int32)), (f_bit xy (5 : Int32)), (f_bit xy (6 : Int32))]) :: []) H189 3 rfl (Or.inr rfl)) (hw _ (List.mem_of_getElem? (i := 12) rfl)) (hw _ (List.mem_of_getElem? (i := 13) rfl)) (hw _ (List.mem_of_getElem? (i := 3) rfl)) (hw _ (List.mem_of_getElem? (i := 14) rfl)) (by decide) 0 (by decide) (by decide) rfl [(.ref a189), (.int (3 : Int32)), (.int (f_bit xy (3 : Int32)))] rfl pd_4 rfl rfl (Nat.le_of_eq rfl) 3 21 rfl rfl (by decide) (by decide) 119 rfl ?_
    rintro _ T198 _ X198 ⟨rfl, rfl⟩
    show OE p e room_1 below s n0 Q' T198 (mkF m 119 #[.val (.int xl), .val (.int xx), .val (.int xy), .val (.int (7 : Int32)), .val (.ref b183), .val (.ref b184), .val (.ref a189), .unset] [(.int (1 : Int32))])
    refine o_ifEq X198 at_119 170 122 (by decide) (by decide) rfl (fun q => by exfalso; exact absurd q (by decide)) ?_
    intro hc119
    refine o_aload X198 at_122 rfl rfl 124 rfl ?_
    refine o_iconst (v := (4 : Int32)) X198 at_124 rfl 125 rfl ?_
    refine o_iloadN X198 at_125 rfl 126 rfl ?_
    refine o_iconst (v := (4 : Int32)) X198 at_126 rfl 127 rfl ?_
    refine o_callS X198 at_127 (rest := [(.int (4 : Int32)), (.ref a189)]) (c_bit l Z a0 hw [] n0 _ X198.size xx (4 : Int32) ) (hw _ (List.mem_of_getElem? (i := 9) rfl)) (hw _ (List.mem_of_getElem? (i := 10) rfl)) (hw _ (List.mem_of_getElem? (i := 3) rfl)) (hw _ (List.mem_of_getElem? (i := 11) rfl)) (by decide) 2 (by decide) (by decide) rfl [(.int xx), (.int (4 : Int32))] rfl pd_3 rfl rfl (Nat.le_of_eq rfl) 3 21 rfl rfl (by decide) (by decide) 130 rfl ?_
    rintro _ T199 _ X199 ⟨rfl, rfl⟩
    show OE p e room_1 below s n0 Q' T199 (mkF m 130 #[.val (.int xl), .val (.int xx), .val (.int xy), .val (.int (7 : Int32)), .val (.ref b183), .val (.ref b184), .val (.ref a189), .unset] [(.int (f_bit xx (4 : Int32))), (.int (4 : Int32)), (.ref a189)])
    refine o_callS X199 at_130 (rest := []) (c_at l Z a0 hw [] n0 _ X199.size a189 (4 : Int32) (f_bit xx (4 : Int32)) [(f_bit xx (0 : Int32)), (f_bit xy (1 : Int32)), (f_bit xx (2 : Int32)), (f_bit xy (3 : Int32)), (f_bit xx (4 : Int32)), (f_bit xy (5 : Int32)), (f_bit xx (6 : Int32))] ((b183, OA Z .boolean [(f_bit xx (0 : Int32)), (f_bit xx (1 : Int32)), (f_bit xx (2 : Int32)), (f_bit xx (3 : Int32)), (f_bit xx (4 : Int32)), (f_bit xx (5 : Int32)), (f_bit xx (6 : Int32))]) :: (b184, OA Z .boolean [(f_bit xy (0 : Int32)), (f_bit xy (1 : Int32)), (f_bit xy (2 : Int32)), (f_bit xy (3 : Int32)), (f_bit xy (4 : Int32)), (f_bit xy (5 : Int32)), (f_bit xy (6 : Int32))]) :: []) H189 4 rfl (Or.inr rfl)) (hw _ (List.mem_of_getElem? (i := 12) rfl)) (hw _ (List.mem_of_getElem? (i := 13) rfl)) (hw _ (List.mem_of_getElem? (i := 3) rfl)) (hw _ (List.mem_of_getElem? (i := 14) rfl)) (by decide) 0 (by decide) (by decide) rfl [(.ref a189), (.int (4 : Int32)), (.int (f_bit xx (4 : Int32)))] rfl pd_4 rfl rfl (Nat.le_of_eq rfl) 3 21 rfl rfl (by decide) (by decide) 133 rfl ?_
    rintro _ T200 _ X200 ⟨rfl, rfl⟩
    show OE p e room_1 below s n0 Q' T200 (mkF m 133 #[.val (.int xl), .val (.int xx), .val (.int xy), .val (.int (7 : Int32)), .val (.ref b183), .val (.ref b184), .val (.ref a189), .unset] [(.int (1 : Int32))])
    refine o_ifEq X200 at_133 170 136 (by decide) (by decide) rfl (fun q => by exfalso; exact absurd q (by decide)) ?_
    intro hc133
    refine o_aload X200 at_136 rfl rfl 138 rfl ?_
    refine o_iconst (v := (5 : Int32)) X200 at_138 rfl 139 rfl ?_
    refine o_iloadN X200 at_139 rfl 140 rfl ?_
    refine o_iconst (v := (5 : Int32)) X200 at_140 rfl 141 rfl ?_
    refine o_callS X200 at_141 (rest := [(.int (5 : Int32)), (.ref a189)]) (c_bit l Z a0 hw [] n0 _ X200.size xy (5 : Int32) ) (hw _ (List.mem_of_getElem? (i := 9) rfl)) (hw _ (List.mem_of_getElem? (i := 10) rfl)) (hw _ (List.mem_of_getElem? (i := 3) rfl)) (hw _ (List.mem_of_getElem? (i := 11) rfl)) (by decide) 2 (by decide) (by decide) rfl [(.int xy), (.int (5 : Int32))] rfl pd_3 rfl rfl (Nat.le_of_eq rfl) 3 21 rfl rfl (by decide) (by decide) 144 rfl ?_
    rintro _ T201 _ X201 ⟨rfl, rfl⟩
    show OE p e room_1 below s n0 Q' T201 (mkF m 144 #[.val (.int xl), .val (.int xx), .val (.int xy), .val (.int (7 : Int32)), .val (.ref b183), .val (.ref b184), .val (.ref a189), .unset] [(.int (f_bit xy (5 : Int32))), (.int (5 : Int32)), (.ref a189)])
    refine o_callS X201 at_144 (rest := []) (c_at l Z a0 hw [] n0 _ X201.size a189 (5 : Int32) (f_bit xy (5 : Int32)) [(f_bit xx (0 : Int32)), (f_bit xy (1 : Int32)), (f_bit xx (2 : Int32)), (f_bit xy (3 : Int32)), (f_bit xx (4 : Int32)), (f_bit xy (5 : Int32)), (f_bit xx (6 : Int32))] ((b183, OA Z .boolean [(f_bit xx (0 : Int32)), (f_bit xx (1 : Int32)), (f_bit xx (2 : Int32)), (f_bit xx (3 : Int32)), (f_bit xx (4 : Int32)), (f_bit xx (5 : Int32)), (f_bit xx (6 : Int32))]) :: (b184, OA Z .boolean [(f_bit xy (0 : Int32)), (f_bit xy (1 : Int32)), (f_bit xy (2 : Int32)), (f_bit xy (3 : Int32)), (f_bit xy (4 : Int32)), (f_bit xy (5 : Int32)), (f_bit xy (6 : Int32))]) :: []) H189 5 rfl (Or.inr rfl)) (hw _ (List.mem_of_getElem? (i := 12) rfl)) (hw _ (List.mem_of_getElem? (i := 13) rfl)) (hw _ (List.mem_of_getElem? (i := 3) rfl)) (hw _ (List.mem_of_getElem? (i := 14) rfl)) (by decide) 0 (by decide) (by decide) rfl [(.ref a189), (.int (5 : Int32)), (.int (f_bit xy (5 : Int32)))] rfl pd_4 rfl rfl (Nat.le_of_eq rfl) 3 21 rfl rfl (by decide) (by decide) 147 rfl ?_
    rintro _ T202 _ X202 ⟨rfl, rfl⟩
    show OE p e room_1 below s n0 Q' T202 (mkF m 147 #[.val (.int xl), .val (.int xx), .val (.int xy), .val (.int (7 : Int32)), .val (.ref b183), .val (.ref b184), .val (.ref a189), .unset] [(.int (1 : Int32))])
    refine o_ifEq X202 at_147 170 150 (by decide) (by decide) rfl (fun q => by exfalso; exact absurd q (by decide)) ?_
    intro hc147
    refine o_aload X202 at_150 rfl rfl 152 rfl ?_
    refine o_bipush (v := (6 : Int32)) X202 at_152 rfl 154 rfl ?_
    refine o_iloadN X202 at_154 rfl 155 rfl ?_
    refine o_bipush (v := (6 : Int32)) X202 at_155 rfl 157 rfl ?_
    refine o_callS X202 at_157 (rest := [(.int (6 : Int32)), (.ref a189)]) (c_bit l Z a0 hw [] n0 _ X202.size xx (6 : Int32) ) (hw _ (List.mem_of_getElem? (i := 9) rfl)) (hw _ (List.mem_of_getElem? (i := 10) rfl)) (hw _ (List.mem_of_getElem? (i := 3) rfl)) (hw _ (List.mem_of_getElem? (i := 11) rfl)) (by decide) 2 (by decide) (by decide) rfl [(.int xx), (.int (6 : Int32))] rfl pd_3 rfl rfl (Nat.le_of_eq rfl) 3 21 rfl rfl (by decide) (by decide) 160 rfl ?_
    rintro _ T203 _ X203 ⟨rfl, rfl⟩
    show OE p e room_1 below s n0 Q' T203 (mkF m 160 #[.val (.int xl), .val (.int xx), .val (.int xy), .val (.int (7 : Int32)), .val (.ref b183), .val (.ref b184), .val (.ref a189), .unset] [(.int (f_bit xx (6 : Int32))), (.int (6 : Int32)), (.ref a189)])
    refine o_callS X203 at_160 (rest := []) (c_at l Z a0 hw [] n0 _ X203.size a189 (6 : Int32) (f_bit xx (6 : Int32)) [(f_bit xx (0 : Int32)), (f_bit xy (1 : Int32)), (f_bit xx (2 : Int32)), (f_bit xy (3 : Int32)), (f_bit xx (4 : Int32)), (f_bit xy (5 : Int32)), (f_bit xx (6 : Int32))] ((b183, OA Z .boolean [(f_bit xx (0 : Int32)), (f_bit xx (1 : Int32)), (f_bit xx (2 : Int32)), (f_bit xx (3 : Int32)), (f_bit xx (4 : Int32)), (f_bit xx (5 : Int32)), (f_bit xx (6 : Int32))]) :: (b184, OA Z .boolean [(f_bit xy (0 : Int32)), (f_bit xy (1 : Int32)), (f_bit xy (2 : Int32)), (f_bit xy (3 : Int32)), (f_bit xy (4 : Int32)), (f_bit xy (5 : Int32)), (f_bit xy (6 : Int32))]) :: []) H189 6 rfl (Or.inr rfl)) (hw _ (List.mem_of_getElem? (i := 12) rfl)) (hw _ (List.mem_of_getElem? (i := 13) rfl)) (hw _ (List.mem_of_getElem? (i := 3) rfl)) (hw _ (List.mem_of_getElem? (i := 14) rfl)) (by decide) 0 (by decide) (by decide) rfl [(.ref a189), (.int (6 : Int32)), (.int (f_bit xx (6 : Int32)))] rfl pd_4 rfl rfl (Nat.le_of_eq rfl) 3 21 rfl rfl (by decide) (by decide) 163 rfl ?_
    rintro _ T204 _ X204 ⟨rfl, rfl⟩
    show OE p e room_1 below s n0 Q' T204 (mkF m 163 #[.val (.int xl), .val (.int xx), .val (.int xy), .val (.int (7 : Int32)), .val (.ref b183), .val (.ref b184), .val (.ref a189), .unset] [(.int (1 : Int32))])
    refine o_ifEq X204 at_163 170 166 (by decide) (by decide) rfl (fun q => by exfalso; exact absurd q (by decide)) ?_
    intro hc163
    refine o_iconst (v := (1 : Int32)) X204 at_166 rfl 167 rfl ?_
    refine o_goto X204 at_167 171 (by decide) (by decide) ?_
    refine o_istore X204 at_171 #[.val (.int xl), .val (.int xx), .val (.int xy), .val (.int (7 : Int32)), .val (.ref b183), .val (.ref b184), .val (.ref a189), .val (.int (1 : Int32))] rfl 173 rfl ?_
    refine o_iload X204 at_173 rfl 175 rfl ?_
    refine o_ifEq X204 at_175 200 178 (by decide) (by decide) rfl (fun q => by exfalso; exact absurd q (by decide)) ?_
    intro hc175
    refine o_aload X204 at_178 rfl rfl 180 rfl ?_
    refine o_iloadN X204 at_180 rfl 181 rfl ?_
    have H206 : OL n0 h189 ((b183, OA Z .boolean [(f_bit xx (0 : Int32)), (f_bit xx (1 : Int32)), (f_bit xx (2 : Int32)), (f_bit xx (3 : Int32)), (f_bit xx (4 : Int32)), (f_bit xx (5 : Int32)), (f_bit xx (6 : Int32))]) :: (a189, OA Z .boolean [(f_bit xx (0 : Int32)), (f_bit xy (1 : Int32)), (f_bit xx (2 : Int32)), (f_bit xy (3 : Int32)), (f_bit xx (4 : Int32)), (f_bit xy (5 : Int32)), (f_bit xx (6 : Int32))]) :: (b184, OA Z .boolean [(f_bit xy (0 : Int32)), (f_bit xy (1 : Int32)), (f_bit xy (2 : Int32)), (f_bit xy (3 : Int32)), (f_bit xy (4 : Int32)), (f_bit xy (5 : Int32)), (f_bit xy (6 : Int32))]) :: []) := H189.front 1 rfl
    refine o_callS X204 at_181 (rest := []) (c_same7 l Z a0 hw [] n0 _ X204.size b183 xx ((a189, OA Z .boolean [(f_bit xx (0 : Int32)), (f_bit xy (1 : Int32)), (f_bit xx (2 : Int32)), (f_bit xy (3 : Int32)), (f_bit xx (4 : Int32)), (f_bit xy (5 : Int32)), (f_bit xx (6 : Int32))]) :: (b184, OA Z .boolean [(f_bit xy (0 : Int32)), (f_bit xy (1 : Int32)), (f_bit xy (2 : Int32)), (f_bit xy (3 : Int32)), (f_bit xy (4 : Int32)), (f_bit xy (5 : Int32)), (f_bit xy (6 : Int32))]) :: []) H206) (hw _ (List.mem_of_getElem? (i := 15) rfl)) (hw _ (List.mem_of_getElem? (i := 16) rfl)) (hw _ (List.mem_of_getElem? (i := 3) rfl)) (hw _ (List.mem_of_getElem? (i := 17) rfl)) (by decide) 0 (by decide) (by decide) rfl [(.ref b183), (.int xx)] rfl pd_5 rfl rfl (Nat.le_of_eq rfl) 3 21 rfl rfl (by decide) (by decide) 184 rfl ?_
    rintro _ T205 _ X205 ⟨rfl, rfl⟩
    show OE p e room_1 below s n0 Q' T205 (mkF m 184 #[.val (.int xl), .val (.int xx), .val (.int xy), .val (.int (7 : Int32)), .val (.ref b183), .val (.ref b184), .val (.ref a189), .val (.int (1 : Int32))] [(.int (1 : Int32))])
    refine o_ifEq X205 at_184 200 187 (by decide) (by decide) rfl (fun q => by exfalso; exact absurd q (by decide)) ?_
    intro hc184
    refine o_aload X205 at_187 rfl rfl 189 rfl ?_
    refine o_iloadN X205 at_189 rfl 190 rfl ?_
    have H208 : OL n0 h189 ((b184, OA Z .boolean [(f_bit xy (0 : Int32)), (f_bit xy (1 : Int32)), (f_bit xy (2 : Int32)), (f_bit xy (3 : Int32)), (f_bit xy (4 : Int32)), (f_bit xy (5 : Int32)), (f_bit xy (6 : Int32))]) :: (b183, OA Z .boolean [(f_bit xx (0 : Int32)), (f_bit xx (1 : Int32)), (f_bit xx (2 : Int32)), (f_bit xx (3 : Int32)), (f_bit xx (4 : Int32)), (f_bit xx (5 : Int32)), (f_bit xx (6 : Int32))]) :: (a189, OA Z .boolean [(f_bit xx (0 : Int32)), (f_bit xy (1 : Int32)), (f_bit xx (2 : Int32)), (f_bit xy (3 : Int32)), (f_bit xx (4 : Int32)), (f_bit xy (5 : Int32)), (f_bit xx (6 : Int32))]) :: []) := H206.front 2 rfl
    refine o_callS X205 at_190 (rest := []) (c_same7 l Z a0 hw [] n0 _ X205.size b184 xy ((b183, OA Z .boolean [(f_bit xx (0 : Int32)), (f_bit xx (1 : Int32)), (f_bit xx (2 : Int32)), (f_bit xx (3 : Int32)), (f_bit xx (4 : Int32)), (f_bit xx (5 : Int32)), (f_bit xx (6 : Int32))]) :: (a189, OA Z .boolean [(f_bit xx (0 : Int32)), (f_bit xy (1 : Int32)), (f_bit xx (2 : Int32)), (f_bit xy (3 : Int32)), (f_bit xx (4 : Int32)), (f_bit xy (5 : Int32)), (f_bit xx (6 : Int32))]) :: []) H208) (hw _ (List.mem_of_getElem? (i := 15) rfl)) (hw _ (List.mem_of_getElem? (i := 16) rfl)) (hw _ (List.mem_of_getElem? (i := 3) rfl)) (hw _ (List.mem_of_getElem? (i := 17) rfl)) (by decide) 0 (by decide) (by decide) rfl [(.ref b184), (.int xy)] rfl pd_5 rfl rfl (Nat.le_of_eq rfl) 3 21 rfl rfl (by decide) (by decide) 193 rfl ?_
    rintro _ T207 _ X207 ⟨rfl, rfl⟩
    show OE p e room_1 below s n0 Q' T207 (mkF m 193 #[.val (.int xl), .val (.int xx), .val (.int xy), .val (.int (7 : Int32)), .val (.ref b183), .val (.ref b184), .val (.ref a189), .val (.int (1 : Int32))] [(.int (1 : Int32))])
    refine o_ifEq X207 at_193 200 196 (by decide) (by decide) rfl (fun q => by exfalso; exact absurd q (by decide)) ?_
    intro hc193
    refine o_iconst (v := (1 : Int32)) X207 at_196 rfl 197 rfl ?_
    refine o_goto X207 at_197 201 (by decide) (by decide) ?_
    exact o_retZ X207 at_201 (by decide) (by decide) (hQ _ _ rfl)
set_option maxRecDepth 65536 in
set_option maxHeartbeats 40000000 in
theorem comes_1 {Post : Tables → Env → Array Value → State → Outcome → State → Prop} (hpost : ∀ tb e args s v u, (limb_1_1.after args s (.returned v) u = true ∧ limb_1_2.after args s (.returned v) u = true ∧ True) → FrameEnd s (.returned v) u (Jvm.fieldLocs frame_1_writes args s ++ Jvm.arrayLocs frame_1_arrays args s ++ Jvm.staticLocs frame_1_statics s) 16 128 → Post tb e args s (.returned v) u) :
    ArmFor flags0 classFile x code maxLocals ret World_1 tables_1 room_1 Calls_1 rest_1 Pre_1 Post := by
  intro l hfl _ _ p e ha hc hk s m args below hf hA hF happ hP
  obtain ⟨hcalls, hrest, hpre⟩ := hP
  obtain ⟨-, -, -, hnamed, -, -, -, hat⟩ := (Spec.applies_iff hf).mp happ
  obtain ⟨hg, hn⟩ := and_e (Cond.before_iff.mp (show (Jvm.Cond.and given_1 narrow_1).before args s = true from hpre))
  obtain ⟨hcnt, hg0⟩ := and_e hg
  obtain ⟨ha0, hg1⟩ := and_e hg0
  obtain ⟨ha1, hg2⟩ := and_e hg1
  have ha2 := hg2
  obtain ⟨w0, w1, w2, rfl⟩ : ∃ w0 w1 w2 : Value, args = #[w0, w1, w2] := by
    have hs : args.size = 3 := by simpa [Cond.value, given_1] using hcnt
    obtain ⟨L⟩ := args
    match L, hs with
    | [w0, w1, w2], _ => exact ⟨w0, w1, w2, rfl⟩
  have hw := fun d (hd : d ∈ tables_1) => atoms_spec (ws := Jvm.Cond.code x code maxLocals ret :: tables_1) hat d (List.mem_cons_of_mem _ hd)
  obtain ⟨i0, ei0⟩ := is_v ha0
  obtain rfl : w0 = (.int i0) := Option.some.inj ei0
  obtain ⟨i1, ei1⟩ := is_v ha1
  obtain rfl : w1 = (.int i1) := Option.some.inj ei1
  obtain ⟨i2, ei2⟩ := is_v ha2
  obtain rfl : w2 = (.int i2) := Option.some.inj ei2
  obtain ⟨n, o, h1, h2, h3, _, L, rfl, ⟨rfl, N⟩, hq⟩ := c_law l s _ hw tables_1 s.heap.size s.heap (Nat.le_refl _) i0 i1 i2 p e ha hc hk s m _ below hf ((Spec.applies_iff_loose hf).mp happ).1 ⟨rfl, State.Warmed39.refl s, rfl⟩ trivial
  refine ⟨n, _, h1, h2, h3, hpost _ _ _ _ _ _ ⟨Cond.after_iff.mpr rfl, Cond.after_iff.mpr (eq_i res_at (Term.int_eval (1)) rfl), trivial⟩ ⟨hq.1, hq.2.1, (hq.2.2.sift fun y hy => Or.inr (N y hy)).mono (by decide) (by decide)⟩⟩
theorem main_1_1 : Claimed_1_1 := comes_1 fun _ _ _ _ _ _ h hF => ⟨h.1, hF⟩
theorem main_1_2 : Claimed_1_2 := comes_1 fun _ _ _ _ _ _ h hF => ⟨h.2.1, hF⟩
end Jvm.Pilot.@@N@@
namespace Jvm.Pilot.@@N@@
open Jvm Jvm.ClassFile Sem Op Lib Jvm.Free Jvm.Stand Jvm.Pilot.@@N@@.Jvm.D
/-! MADE BY PROGRAM (witnessworld.py) out of the Statement's table words and the real class files: 11 classes; the members and pool entries that the words name. The judged class is class 1, her method 5. -/
namespace start1
open Jvm.ClassFile
def u (s : String) : CpInfo := .utf8 (stringToUtf16 s)
/-- a pool by its gaps: so many unusable entries, then the entry; so many at the end -/
def gap : Nat → List CpInfo → List CpInfo
  | 0, r => r
  | n + 1, r => .unusable :: gap n r
def poolList (es : List (Nat × CpInfo)) (last : Nat) : List CpInfo := es.foldr (fun e r => gap e.1 (e.2 :: r)) (gap last [])
def pool (es : List (Nat × CpInfo)) (last : Nat) : Array CpInfo := ⟨poolList es last⟩
def fileOf (pool : Array CpInfo) (this : Nat) (attrs : Array Attribute := #[]) (ms : Array MethodInfo := #[]) (fl : Nat := 33) (sup : Nat := 0) (ifs : Array Nat := #[]) (fds : Array FieldInfo := #[]) : ClassFile where
  minorVersion := 0
  majorVersion := 65
  constantPool := pool
  accessFlags := fl
  thisClass := this
  superClass := sup
  interfaces := ifs
  fields := fds
  methods := ms
  attributes := attrs
def plain (name : String) (sup : Option ClassId) : Class where
  name := name
  kind := .ordinary
  loader := none
  accessFlags := 33
  super := sup
  interfaces := #[]
  cf := none
  fields := #[]
  methods := #[]
  instanceTypes := #[]
  staticTypes := #[]
  resolved := #[]
  callSites := []
  init := .initialized
  statics := none
  mirror := none

def pool0 : Array CpInfo := pool [(5, u "<init>"), (0, u "()V"), (1, .class_ 10), (1, u "java/lang/Object")] 113

def k0m0 : Method := { name := "<init>", desc := "()V", sig := { parameters := [], returnType := none }, accessFlags := 1, code := none }
/-- java/lang/Object -/
def k0 : Class := { plain "java/lang/Object" none with
  accessFlags := 33
  interfaces := #[]
  cf := some (fileOf pool0 8 #[] #[{ accessFlags := 1, nameIndex := 5, descriptorIndex := 6, attributes := #[] }] 33 0 #[] #[])
  fields := #[]
  methods := #[k0m0]
  instanceTypes := #[]
  staticTypes := #[]
  resolved := Array.replicate 124 none
  statics := none }

def pool1 : Array CpInfo := pool [(2, .class_ 4), (1, u "java/lang/Object"), (0, u "<init>"), (0, u "()V"), (0, .methodref 8 9), (0, .class_ 10), (0, .nameAndType 11 12), (0, u "com/example/eratosthenes/eratosthenes/tune/GeneticSearchCombPinLaw"), (0, u "bit"), (0, u "(II)Z"), (0, .methodref 8 14), (0, .nameAndType 15 16), (0, u "at"), (0, u "([ZIZ)Z"), (0, .methodref 8 18), (0, .nameAndType 19 20), (0, u "fill"), (0, u "([ZI)V"), (0, .methodref 22 23), (0, .class_ 24), (0, .nameAndType 25 26), (0, u "com/example/eratosthenes/eratosthenes/tune/GeneticSearch"), (0, u "comb"), (0, u "([Z[Z)[Z"), (0, .methodref 8 28), (0, .nameAndType 29 30), (0, u "same"), (0, u "([ZI)Z"), (3, u "law"), (0, u "(III)Z")] 4

def k1m0 : Method := { name := "<init>", desc := "()V", sig := { parameters := [], returnType := none }, accessFlags := 1, code := none }
def k1c1 : Code := { maxStack := 2, maxLocals := 2, code := method_2_code, exceptionTable := #[], attributes := #[] }
def k1m1 : Method := { name := "bit", desc := "(II)Z", sig := { parameters := [.int, .int], returnType := some .boolean }, accessFlags := 10, code := some k1c1 }
def k1c2 : Code := { maxStack := 2, maxLocals := 3, code := method_3_code, exceptionTable := #[], attributes := #[] }
def k1m2 : Method := { name := "at", desc := "([ZIZ)Z", sig := { parameters := [(.array .boolean), .int, .boolean], returnType := some .boolean }, accessFlags := 10, code := some k1c2 }
def k1c3 : Code := { maxStack := 4, maxLocals := 2, code := method_4_code, exceptionTable := #[], attributes := #[] }
def k1m3 : Method := { name := "fill", desc := "([ZI)V", sig := { parameters := [(.array .boolean), .int], returnType := none }, accessFlags := 10, code := some k1c3 }
def k1c4 : Code := { maxStack := 4, maxLocals := 2, code := method_5_code, exceptionTable := #[], attributes := #[] }
def k1m4 : Method := { name := "same", desc := "([ZI)Z", sig := { parameters := [(.array .boolean), .int], returnType := some .boolean }, accessFlags := 10, code := some k1c4 }
def k1c5 : Code := { maxStack := 4, maxLocals := 8, code := code, exceptionTable := #[], attributes := #[] }
def k1m5 : Method := { name := "law", desc := "(III)Z", sig := { parameters := [.int, .int, .int], returnType := some .boolean }, accessFlags := 9, code := some k1c5 }
/-- com/example/eratosthenes/eratosthenes/tune/GeneticSearchCombPinLaw -/
def k1 : Class := { plain "com/example/eratosthenes/eratosthenes/tune/GeneticSearchCombPinLaw" (some 0) with
  accessFlags := 49
  interfaces := #[]
  cf := some (fileOf pool1 8 #[] #[{ accessFlags := 1, nameIndex := 5, descriptorIndex := 6, attributes := #[] }, { accessFlags := 10, nameIndex := 11, descriptorIndex := 12, attributes := #[] }, { accessFlags := 10, nameIndex := 15, descriptorIndex := 16, attributes := #[] }, { accessFlags := 10, nameIndex := 19, descriptorIndex := 20, attributes := #[] }, { accessFlags := 10, nameIndex := 29, descriptorIndex := 30, attributes := #[] }, { accessFlags := 9, nameIndex := 34, descriptorIndex := 35, attributes := #[] }] 49 2 #[] #[])
  fields := #[]
  methods := #[k1m0, k1m1, k1m2, k1m3, k1m4, k1m5]
  instanceTypes := #[]
  staticTypes := #[]
  resolved := Array.replicate 40 none
  statics := none }

def pool2 : Array CpInfo := pool [(2, .class_ 4), (1, u "java/lang/Object"), (2, .class_ 8), (0, u "com/example/eratosthenes/eratosthenes/tune/GeneticSearch"), (12, u "population"), (0, u "I"), (2, u "generations"), (2, u "seed"), (0, u "J"), (56, .class_ 87), (0, u "com/example/eratosthenes/eratosthenes/tune/GeneticSearch$Member"), (10, u "comb"), (0, u "([Z[Z)[Z"), (75, .class_ 177), (1, u "com/example/eratosthenes/eratosthenes/tune/GeneticSearch$Fitness"), (25, u "DEFAULT_POPULATION"), (2, u "DEFAULT_GENERATIONS"), (0, u "LEAST_POPULATION"), (1, u "FLIP"), (0, u "D")] 54

def k2c0 : Code := { maxStack := 4, maxLocals := 4, code := prog_27_method_3_code, exceptionTable := #[], attributes := #[] }
def k2m0 : Method := { name := "comb", desc := "([Z[Z)[Z", sig := { parameters := [(.array .boolean), (.array .boolean)], returnType := some (.array .boolean) }, accessFlags := 8, code := some k2c0 }
/-- com/example/eratosthenes/eratosthenes/tune/GeneticSearch -/
def k2 : Class := { plain "com/example/eratosthenes/eratosthenes/tune/GeneticSearch" (some 0) with
  accessFlags := 33
  interfaces := #[]
  cf := some (fileOf pool2 7 #[.nestMembers #[86, 175]] #[{ accessFlags := 8, nameIndex := 98, descriptorIndex := 99, attributes := #[] }] 33 2 #[] #[{ accessFlags := 25, nameIndex := 203, descriptorIndex := 22, attributes := #[] }, { accessFlags := 25, nameIndex := 206, descriptorIndex := 22, attributes := #[] }, { accessFlags := 25, nameIndex := 207, descriptorIndex := 22, attributes := #[] }, { accessFlags := 26, nameIndex := 209, descriptorIndex := 210, attributes := #[] }, { accessFlags := 18, nameIndex := 21, descriptorIndex := 22, attributes := #[] }, { accessFlags := 18, nameIndex := 25, descriptorIndex := 22, attributes := #[] }, { accessFlags := 18, nameIndex := 28, descriptorIndex := 29, attributes := #[] }])
  fields := #[{ name := "DEFAULT_POPULATION", type := .int, accessFlags := 25, slot := 0, constantValue := 0 }, { name := "DEFAULT_GENERATIONS", type := .int, accessFlags := 25, slot := 1, constantValue := 0 }, { name := "LEAST_POPULATION", type := .int, accessFlags := 25, slot := 2, constantValue := 0 }, { name := "FLIP", type := .double, accessFlags := 26, slot := 3, constantValue := 0 }, { name := "population", type := .int, accessFlags := 18, slot := 0, constantValue := 0 }, { name := "generations", type := .int, accessFlags := 18, slot := 1, constantValue := 0 }, { name := "seed", type := .long, accessFlags := 18, slot := 2, constantValue := 0 }]
  methods := #[k2m0]
  instanceTypes := #[.int, .int, .long]
  staticTypes := #[.int, .int, .int, .double]
  resolved := Array.replicate 265 none
  statics := none }

def pool3 : Array CpInfo := pool [(1, u "java/lang/Cloneable"), (0, .class_ 1), (0, u "java/lang/Object"), (0, .class_ 3)] 3

/-- java/lang/Cloneable -/
def k3 : Class := { plain "java/lang/Cloneable" (some 0) with
  accessFlags := 1537
  interfaces := #[]
  cf := some (fileOf pool3 2 #[] #[] 1537 4 #[] #[])
  fields := #[]
  methods := #[]
  instanceTypes := #[]
  staticTypes := #[]
  resolved := Array.replicate 8 none
  statics := none }

def pool4 : Array CpInfo := pool [(1, u "java/io/Serializable"), (0, .class_ 1), (0, u "java/lang/Object"), (0, .class_ 3)] 3

/-- java/io/Serializable -/
def k4 : Class := { plain "java/io/Serializable" (some 0) with
  accessFlags := 1537
  interfaces := #[]
  cf := some (fileOf pool4 2 #[] #[] 1537 4 #[] #[])
  fields := #[]
  methods := #[]
  instanceTypes := #[]
  staticTypes := #[]
  resolved := Array.replicate 8 none
  statics := none }

/-- the primitive boolean -/
def k5 : Class := { plain "boolean" none with kind := .primitive 'Z', accessFlags := 0x411 }
/-- [Z -/
def k6 : Class := { plain "[Z" (some 0) with kind := .array 5 .boolean, interfaces := #[3, 4], accessFlags := 1041 }

/-- the primitive byte -/
def k7 : Class := { plain "byte" none with kind := .primitive 'B', accessFlags := 0x411 }
/-- [B -/
def k8 : Class := { plain "[B" (some 0) with kind := .array 7 .byte, interfaces := #[3, 4], accessFlags := 1041 }

/-- the primitive int -/
def k9 : Class := { plain "int" none with kind := .primitive 'I', accessFlags := 0x411 }
/-- [I -/
def k10 : Class := { plain "[I" (some 0) with kind := .array 9 .int, interfaces := #[3, 4], accessFlags := 1041 }

def heap : Heap := #[]
def classes : Array Class := #[k0, k1, k2, k3, k4, k5, k6, k7, k8, k9, k10]
def interned : List (Array UInt16 × Addr) := []
def slotsUsed : Nat := 0
def theMethod : MethodId := ⟨1, 5⟩
def args0 : Array Value := #[.int 5, .int 3, .int 7]
def aboutOver (below : List Frame) : State where
  vm := { classes := classes, interned := interned.toArray }
  heap := heap
  slotsUsed := slotsUsed
  threads := #[{ frames := .invoking theMethod args0 :: below }]
def below0 : List Frame := [.native { method := ⟨0, 0⟩, args := #[] }]
def about1 : State := aboutOver below0
def p0 : Program := .bare "" "" ""
def e0 : Env := launch0.env 0 0 0
theorem w_frames : about1.frames = Frame.invoking theMethod args0 :: below0 := rfl
set_option maxRecDepth 65536 in
theorem w_args : argsFit about1.vm theMethod args0 = true := by decide +kernel
set_option maxRecDepth 65536 in
theorem w_heap : heapFits about1 = true := by decide +kernel
set_option maxRecDepth 65536 in
theorem w_runnable : about1.curStatus? = some .runnable := by decide +kernel
set_option maxRecDepth 65536 in
theorem w_alone : about1.alone = true := by decide +kernel
set_option maxRecDepth 65536 in
theorem w_named : about1.methodNamed? x = some theMethod := by decide +kernel
set_option maxRecDepth 65536 in
theorem w_hears : about1.hears theMethod below0 = true := by decide +kernel
set_option maxRecDepth 65536 in
theorem w_ripe : about1.ripe theMethod args0 below0 = true := by decide +kernel
theorem w_running : about1.status = .running := rfl
set_option maxRecDepth 65536 in
theorem w_room : about1.hasRoom e0.platform room_1 = true :=
  launch0.hasRoom_least _ room_1 (by decide +kernel) (by decide +kernel) (by decide +kernel) (by decide +kernel) (by decide +kernel) (by decide +kernel)
theorem allAtoms_all (ts : List Jvm.Cond) (a : Array Jvm.Value) (st : Jvm.State) : (allAtoms ts).before a st = ts.all (fun c => c.before a st) := by
  induction ts with
  | nil => rfl
  | cons c t ih =>
    show (Jvm.Cond.and c (allAtoms t)).before a st = _
    rw [Jvm.Cond.before_and, ih, List.all_cons]
def words1 : List Jvm.Cond := Jvm.Cond.code x code maxLocals ret :: tables_1
/-- a 'code' word, met by the world's own term for the bytes: nothing is compared byte by byte -/
theorem code_word {y : MethodName} {bytes : ByteArray} {mx : Nat} {rt : Option FieldType} {a : Array Value} {s : State} {m : MethodId} {meth : Method} {c : Code} (h1 : s.methodNamed? y = some m) (h2 : s.vm.method? m = some meth) (h3 : meth.code = some c) (h4 : c.code = bytes)
    (h5 : (c.maxLocals == mx && c.exceptionTable.isEmpty && decide (c.maxStack ≤ mostOperands) && decide (meth.sig.returnType = rt) && !meth.locks && decide (parseMethodDescriptor y.desc = some meth.sig)) = true) : (Jvm.Cond.code y bytes mx rt).before a s = true := by
  simp only [Bool.and_eq_true, beq_iff_eq, Bool.not_eq_true', decide_eq_true_eq] at h5
  obtain ⟨⟨⟨⟨⟨g1, g2⟩, g3⟩, g4⟩, g5⟩, g6⟩ := h5
  simp [Cond.before, Cond.holds, Cond.value, h1, h2, h3, h4, g1, g2, g3, g4, g5, g6]
def isCode : Jvm.Cond → Bool
  | .code _ _ _ _ => true
  | _ => false
theorem all_split {L : List Jvm.Cond} {P : Jvm.Cond → Bool} (h1 : L.all (fun c => isCode c || P c) = true) (h2 : ∀ c ∈ L.filter isCode, P c = true) : L.all P = true := by
  refine List.all_eq_true.mpr fun c hc => ?_
  have h := List.all_eq_true.mp h1 c hc
  rcases Bool.eq_false_or_eq_true (isCode c) with hi | hi
  · exact h2 c (List.mem_filter.mpr ⟨hc, hi⟩)
  · simpa [hi] using h
set_option maxRecDepth 65536 in
theorem w_c0 : (Jvm.Cond.code x code maxLocals ret).before args0 about1 = true := code_word (m := ⟨1, 5⟩) (meth := k1m5) (c := k1c5) (by decide +kernel) rfl rfl rfl (by decide +kernel)
set_option maxRecDepth 65536 in
theorem w_c1 : (Jvm.Cond.code ({ cls := "com/example/eratosthenes/eratosthenes/tune/GeneticSearchCombPinLaw", name := "fill", desc := "([ZI)V" } : Jvm.MethodName) method_4_code (2 : Nat) (Option.none : Option Jvm.ClassFile.FieldType)).before args0 about1 = true := code_word (m := ⟨1, 3⟩) (meth := k1m3) (c := k1c3) (by decide +kernel) rfl rfl rfl (by decide +kernel)
set_option maxRecDepth 65536 in
theorem w_c2 : (Jvm.Cond.code ({ cls := "com/example/eratosthenes/eratosthenes/tune/GeneticSearch", name := "comb", desc := "([Z[Z)[Z" } : Jvm.MethodName) prog_27_method_3_code (4 : Nat) (Option.some (Jvm.ClassFile.FieldType.array Jvm.ClassFile.FieldType.boolean))).before args0 about1 = true := code_word (m := ⟨2, 0⟩) (meth := k2m0) (c := k2c0) (by decide +kernel) rfl rfl rfl (by decide +kernel)
set_option maxRecDepth 65536 in
theorem w_c3 : (Jvm.Cond.code ({ cls := "com/example/eratosthenes/eratosthenes/tune/GeneticSearchCombPinLaw", name := "bit", desc := "(II)Z" } : Jvm.MethodName) method_2_code (2 : Nat) (Option.some Jvm.ClassFile.FieldType.boolean)).before args0 about1 = true := code_word (m := ⟨1, 1⟩) (meth := k1m1) (c := k1c1) (by decide +kernel) rfl rfl rfl (by decide +kernel)
set_option maxRecDepth 65536 in
theorem w_c4 : (Jvm.Cond.code ({ cls := "com/example/eratosthenes/eratosthenes/tune/GeneticSearchCombPinLaw", name := "at", desc := "([ZIZ)Z" } : Jvm.MethodName) method_3_code (3 : Nat) (Option.some Jvm.ClassFile.FieldType.boolean)).before args0 about1 = true := code_word (m := ⟨1, 2⟩) (meth := k1m2) (c := k1c2) (by decide +kernel) rfl rfl rfl (by decide +kernel)
set_option maxRecDepth 65536 in
theorem w_c5 : (Jvm.Cond.code ({ cls := "com/example/eratosthenes/eratosthenes/tune/GeneticSearchCombPinLaw", name := "same", desc := "([ZI)Z" } : Jvm.MethodName) method_5_code (2 : Nat) (Option.some Jvm.ClassFile.FieldType.boolean)).before args0 about1 = true := code_word (m := ⟨1, 4⟩) (meth := k1m4) (c := k1c4) (by decide +kernel) rfl rfl rfl (by decide +kernel)
def codes1 : List Jvm.Cond := [Jvm.Cond.code x code maxLocals ret, Jvm.Cond.code ({ cls := "com/example/eratosthenes/eratosthenes/tune/GeneticSearchCombPinLaw", name := "fill", desc := "([ZI)V" } : Jvm.MethodName) method_4_code (2 : Nat) (Option.none : Option Jvm.ClassFile.FieldType), Jvm.Cond.code ({ cls := "com/example/eratosthenes/eratosthenes/tune/GeneticSearch", name := "comb", desc := "([Z[Z)[Z" } : Jvm.MethodName) prog_27_method_3_code (4 : Nat) (Option.some (Jvm.ClassFile.FieldType.array Jvm.ClassFile.FieldType.boolean)), Jvm.Cond.code ({ cls := "com/example/eratosthenes/eratosthenes/tune/GeneticSearchCombPinLaw", name := "bit", desc := "(II)Z" } : Jvm.MethodName) method_2_code (2 : Nat) (Option.some Jvm.ClassFile.FieldType.boolean), Jvm.Cond.code ({ cls := "com/example/eratosthenes/eratosthenes/tune/GeneticSearchCombPinLaw", name := "at", desc := "([ZIZ)Z" } : Jvm.MethodName) method_3_code (3 : Nat) (Option.some Jvm.ClassFile.FieldType.boolean), Jvm.Cond.code ({ cls := "com/example/eratosthenes/eratosthenes/tune/GeneticSearchCombPinLaw", name := "same", desc := "([ZI)Z" } : Jvm.MethodName) method_5_code (2 : Nat) (Option.some Jvm.ClassFile.FieldType.boolean)]
set_option maxRecDepth 65536 in
theorem codes_eq : words1.filter isCode = codes1 := rfl
theorem w_codes : ∀ c ∈ words1.filter isCode, c.before args0 about1 = true := by
  rw [codes_eq]
  intro c hc
  simp only [codes1, List.mem_cons, List.not_mem_nil, or_false] at hc
  rcases hc with rfl | rfl | rfl | rfl | rfl | rfl
  · exact w_c0
  · exact w_c1
  · exact w_c2
  · exact w_c3
  · exact w_c4
  · exact w_c5
set_option maxRecDepth 65536 in
theorem w_t1 : words1.all (fun c => isCode c || c.before args0 about1) = true := by decide +kernel
theorem w_tables : (allAtoms (Jvm.Cond.code x code maxLocals ret :: tables_1)).before args0 about1 = true := by
  rw [allAtoms_all]
  show words1.all (fun c => c.before args0 about1) = true
  refine all_split ?_ w_codes
  rw [w_t1]
set_option maxRecDepth 65536 in
theorem w_case : (Jvm.Cond.and given_1 narrow_1).before args0 about1 = true := by decide +kernel
theorem w_applies : (headSpec (Jvm.Cond.code x code maxLocals ret :: tables_1) room_1).applies x e0.platform about1 = true :=
  (Spec.applies_iff w_frames).mpr ⟨w_running, w_runnable, w_alone, w_named, w_hears, w_ripe, w_room, w_tables⟩
theorem atStart : AtStart classFile x code maxLocals ret World_1 tables_1 room_1 Calls_1 rest_1 Pre_1 launch0 p0 e0 about1 theMethod args0 below0 :=
  ⟨lists_1, trivial, launch0.admits_env _ _ _, launch0.least_env, fairChoices_fair.cas, fairChoices_fair.clock, w_frames, w_args, w_heap, w_applies, trivial, trivial, w_case⟩
end start1
theorem witness_1 : WitnessClaimed_1 := ⟨start1.p0, start1.e0, start1.about1, start1.theMethod, start1.args0, start1.below0, start1.atStart⟩
end Jvm.Pilot.@@N@@
