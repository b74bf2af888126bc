import JvmDerived
import JvmDerived.Pilot.@@N@@Statement
import JvmDerived.Pilot.@@N@@Code
set_option linter.unusedVariables false
set_option linter.unusedSimpArgs false
@@BLOCK:NumsL.lean.txt@@
namespace Jvm.Pilot.@@N@@
open Jvm Jvm.ClassFile Sem Op Lib Jvm.Free Jvm.Stand Jvm.LawKit Jvm.RoadKit Bundle Jvm.Pilot.@@N@@.Jvm.D
section OwnKit
variable {p : Program} {l : Launch} {e : Env} {R : Room} {s : State} {m : MethodId} {args : Array Value} {below : List Frame} {meth : Method} {c : Code} {T T' : State} {Z : State} {h : Heap} {n0 k n mx : Nat} {y : MethodName} {bytes : ByteArray} {ret : Option FieldType} {Q : Option Value → Heap → Prop} {pc : Nat} {Ls : Array Slot} {st rest : List Value} {a0 : Array Value} {g g' : JFrame}
/-- where a body's walk stands: all that its steps ask, bundled -/
def OW (p : Program) (l : Launch) (e : Env) (R : Room) (s : State) (m : MethodId) (args : Array Value) (below : List Frame) (meth : Method) (c : Code) (Z : State) (y : MethodName) (bytes : ByteArray) (mx : Nat) (ret : Option FieldType) (n0 : Nat) (T : State) (h : Heap) (k n : Nat) : Prop :=
  p.tables.exec = Jvm.exec ∧ Z.Warmed39 s.vm ∧ s.vm.findClass y.cls = some m.cls ∧ c.code = bytes ∧ c.maxLocals = mx ∧ meth.sig.returnType = ret ∧ meth.name = y.name ∧ meth.locks = false ∧ n0 ≤ s.heap.size ∧ T.heap = h ∧ ∃ locs, Stand p l e R s m args below meth c T locs k n ∧ Fr n0 locs
/-- what a body owes from the frame g on: it returns, and Q holds of what it returns and of the heap -/
def OE (p : Program) (e : Env) (R : Room) (below : List Frame) (s : State) (n0 : Nat) (Q : Option Value → Heap → Prop) (T : State) (g : JFrame) : Prop :=
  ∃ t o, Steps p.tables e below (T.setTop g) t ∧ t.status = .running ∧ Ended t below o ∧ ∃ v L, o = .returned v ∧ (Q v t.heap ∧ Fr n0 L) ∧ FrameEnd s o t L R.cells R.slots
theorem OE.by (hs : ∀ t, Steps p.tables e below (T'.setTop g') t → Steps p.tables e below (T.setTop g) t) (K : OE p e R below s n0 Q T' g') : OE p e R below s n0 Q T g := by
  obtain ⟨t, o, h1, r⟩ := K; exact ⟨t, o, hs t h1, r⟩
theorem OW.size (X : OW p l e R s m args below meth c Z y bytes mx ret n0 T h k n) : n0 ≤ h.size := by
  obtain ⟨-, -, -, -, -, -, -, -, h0, rfl, locs, S, -⟩ := X
  exact Nat.le_trans h0 S.same.2.1
theorem OW.more (X : OW p l e R s m args below meth c Z y bytes mx ret n0 T h k n) {k' n' : Nat} (hk : k ≤ k') (hn : n ≤ n') : OW p l e R s m args below meth c Z y bytes mx ret n0 T h k' n' := by
  obtain ⟨h1, h2, h3, h4, h5, h6, h7, h8, h9, h10, locs, S, N⟩ := X
  exact ⟨h1, h2, h3, h4, h5, h6, h7, h8, h9, h10, locs, S.more hk hn, N⟩
theorem o_iloadN (X : OW p l e R s m args below meth c Z y bytes mx ret n0 T h k n) {j : Fin 4} {v : Int32} (hd : decode bytes pc = .ok (.iload_n j, 1)) (hl : Ls[j.val]? = some (.val (.int v))) (pc' : Nat) (hp : pc + 1 = pc') (K : OE p e R below s n0 Q T (mkF m pc' Ls (.int v :: st))) : OE p e R below s n0 Q T (mkF m pc Ls st) := by
  obtain ⟨hx, hZ, hown, hby, hmx, hret, hnm, hlk, h0, hT, locs, S, N⟩ := X; subst hp
  exact OE.by (fun t q => XS.iloadN S.here hx rfl (hb hby hd) hl q) K
theorem o_iload (X : OW p l e R s m args below meth c Z y bytes mx ret n0 T h k n) {j : Nat} {v : Int32} (hd : decode bytes pc = .ok (.iload j, 2)) (hl : Ls[j]? = some (.val (.int v))) (pc' : Nat) (hp : pc + 2 = pc') (K : OE p e R below s n0 Q T (mkF m pc' Ls (.int v :: st))) : OE p e R below s n0 Q T (mkF m pc Ls st) := by
  obtain ⟨hx, hZ, hown, hby, hmx, hret, hnm, hlk, h0, hT, locs, S, N⟩ := X; subst hp
  exact OE.by (fun t q => XS.iload S.here hx rfl (hb hby hd) hl q) K
theorem o_aloadN (X : OW p l e R s m args below meth c Z y bytes mx ret n0 T h k n) {j : Fin 4} {v : Value} (hd : decode bytes pc = .ok (.aload_n j, 1)) (hl : Ls[j.val]? = some (.val v)) (hv : v.isRef = true) (pc' : Nat) (hp : pc + 1 = pc') (K : OE p e R below s n0 Q T (mkF m pc' Ls (v :: st))) : OE p e R below s n0 Q T (mkF m pc Ls st) := by
  obtain ⟨hx, hZ, hown, hby, hmx, hret, hnm, hlk, h0, hT, locs, S, N⟩ := X; subst hp
  exact OE.by (fun t q => XS.aloadN S.here hx rfl (hb hby hd) hl hv q) K
theorem o_aload (X : OW p l e R s m args below meth c Z y bytes mx ret n0 T h k n) {j : Nat} {v : Value} (hd : decode bytes pc = .ok (.aload j, 2)) (hl : Ls[j]? = some (.val v)) (hv : v.isRef = true) (pc' : Nat) (hp : pc + 2 = pc') (K : OE p e R below s n0 Q T (mkF m pc' Ls (v :: st))) : OE p e R below s n0 Q T (mkF m pc Ls st) := by
  obtain ⟨hx, hZ, hown, hby, hmx, hret, hnm, hlk, h0, hT, locs, S, N⟩ := X; subst hp
  exact OE.by (fun t q => XS.aload S.here hx rfl (hb hby hd) hl hv q) K
theorem o_lloadN (X : OW p l e R s m args below meth c Z y bytes mx ret n0 T h k n) {j : Fin 4} {v : Int64} (hd : decode bytes pc = .ok (.lload_n j, 1)) (hl : Ls[j.val]? = some (.val (.long v))) (pc' : Nat) (hp : pc + 1 = pc') (K : OE p e R below s n0 Q T (mkF m pc' Ls (.long v :: st))) : OE p e R below s n0 Q T (mkF m pc Ls st) := by
  obtain ⟨hx, hZ, hown, hby, hmx, hret, hnm, hlk, h0, hT, locs, S, N⟩ := X; subst hp
  exact OE.by (fun t q => XT.lloadN S.here hx rfl (hb hby hd) hl q) K
theorem o_lload (X : OW p l e R s m args below meth c Z y bytes mx ret n0 T h k n) {j : Nat} {v : Int64} (hd : decode bytes pc = .ok (.lload j, 2)) (hl : Ls[j]? = some (.val (.long v))) (pc' : Nat) (hp : pc + 2 = pc') (K : OE p e R below s n0 Q T (mkF m pc' Ls (.long v :: st))) : OE p e R below s n0 Q T (mkF m pc Ls st) := by
  obtain ⟨hx, hZ, hown, hby, hmx, hret, hnm, hlk, h0, hT, locs, S, N⟩ := X; subst hp
  exact OE.by (fun t q => XT.lload S.here hx rfl (hb hby hd) hl q) K
theorem o_iconst (X : OW p l e R s m args below meth c Z y bytes mx ret n0 T h k n) {i : Int} {v : Int32} (hd : decode bytes pc = .ok (.iconst i, 1)) (hv : Int32.ofInt i = v) (pc' : Nat) (hp : pc + 1 = pc') (K : OE p e R below s n0 Q T (mkF m pc' Ls (.int v :: st))) : OE p e R below s n0 Q T (mkF m pc Ls st) := by
  obtain ⟨hx, hZ, hown, hby, hmx, hret, hnm, hlk, h0, hT, locs, S, N⟩ := X; subst hp hv
  exact OE.by (fun t q => XS.iconst S.here hx rfl (hb hby hd) q) K
theorem o_bipush (X : OW p l e R s m args below meth c Z y bytes mx ret n0 T h k n) {i : Int} {v : Int32} (hd : decode bytes pc = .ok (.bipush i, 2)) (hv : (Int8.ofInt i).toInt32 = v) (pc' : Nat) (hp : pc + 2 = pc') (K : OE p e R below s n0 Q T (mkF m pc' Ls (.int v :: st))) : OE p e R below s n0 Q T (mkF m pc Ls st) := by
  obtain ⟨hx, hZ, hown, hby, hmx, hret, hnm, hlk, h0, hT, locs, S, N⟩ := X; subst hp hv
  exact OE.by (fun t q => XS.bipush S.here hx rfl (hb hby hd) q) K
theorem o_sipush (X : OW p l e R s m args below meth c Z y bytes mx ret n0 T h k n) {i : Int} {v : Int32} (hd : decode bytes pc = .ok (.sipush i, 3)) (hv : (Int16.ofInt i).toInt32 = v) (pc' : Nat) (hp : pc + 3 = pc') (K : OE p e R below s n0 Q T (mkF m pc' Ls (.int v :: st))) : OE p e R below s n0 Q T (mkF m pc Ls st) := by
  obtain ⟨hx, hZ, hown, hby, hmx, hret, hnm, hlk, h0, hT, locs, S, N⟩ := X; subst hp hv
  exact OE.by (fun t q => XS.sipush S.here hx rfl (hb hby hd) q) K
theorem o_lconst (X : OW p l e R s m args below meth c Z y bytes mx ret n0 T h k n) {i : Fin 2} {v : Int64} (hd : decode bytes pc = .ok (.lconst i, 1)) (hv : Int64.ofNat i = v) (pc' : Nat) (hp : pc + 1 = pc') (K : OE p e R below s n0 Q T (mkF m pc' Ls (.long v :: st))) : OE p e R below s n0 Q T (mkF m pc Ls st) := by
  obtain ⟨hx, hZ, hown, hby, hmx, hret, hnm, hlk, h0, hT, locs, S, N⟩ := X; subst hp hv
  exact OE.by (fun t q => XT.lconst S.here hx rfl (hb hby hd) q) K
theorem o_iadd (X : OW p l e R s m args below meth c Z y bytes mx ret n0 T h k n) {x z : Int32} (hd : decode bytes pc = .ok (.iadd, 1))  (pc' : Nat) (hp : pc + 1 = pc') (K : OE p e R below s n0 Q T (mkF m pc' Ls (.int (x + z) :: st))) : OE p e R below s n0 Q T (mkF m pc Ls (.int z :: .int x :: st)) := by
  obtain ⟨hx, hZ, hown, hby, hmx, hret, hnm, hlk, h0, hT, locs, S, N⟩ := X; subst hp
  exact OE.by (fun t q => XS.iadd S.here hx rfl (hb hby hd) rfl q) K
theorem o_isub (X : OW p l e R s m args below meth c Z y bytes mx ret n0 T h k n) {x z : Int32} (hd : decode bytes pc = .ok (.isub, 1))  (pc' : Nat) (hp : pc + 1 = pc') (K : OE p e R below s n0 Q T (mkF m pc' Ls (.int (x - z) :: st))) : OE p e R below s n0 Q T (mkF m pc Ls (.int z :: .int x :: st)) := by
  obtain ⟨hx, hZ, hown, hby, hmx, hret, hnm, hlk, h0, hT, locs, S, N⟩ := X; subst hp
  exact OE.by (fun t q => XS.isub S.here hx rfl (hb hby hd) rfl q) K
theorem o_imul (X : OW p l e R s m args below meth c Z y bytes mx ret n0 T h k n) {x z : Int32} (hd : decode bytes pc = .ok (.imul, 1))  (pc' : Nat) (hp : pc + 1 = pc') (K : OE p e R below s n0 Q T (mkF m pc' Ls (.int (x * z) :: st))) : OE p e R below s n0 Q T (mkF m pc Ls (.int z :: .int x :: st)) := by
  obtain ⟨hx, hZ, hown, hby, hmx, hret, hnm, hlk, h0, hT, locs, S, N⟩ := X; subst hp
  exact OE.by (fun t q => XS.imul S.here hx rfl (hb hby hd) rfl q) K
theorem o_iand (X : OW p l e R s m args below meth c Z y bytes mx ret n0 T h k n) {x z : Int32} (hd : decode bytes pc = .ok (.iand, 1))  (pc' : Nat) (hp : pc + 1 = pc') (K : OE p e R below s n0 Q T (mkF m pc' Ls (.int (x &&& z) :: st))) : OE p e R below s n0 Q T (mkF m pc Ls (.int z :: .int x :: st)) := by
  obtain ⟨hx, hZ, hown, hby, hmx, hret, hnm, hlk, h0, hT, locs, S, N⟩ := X; subst hp
  exact OE.by (fun t q => XS.iand S.here hx rfl (hb hby hd) rfl q) K
theorem o_ior (X : OW p l e R s m args below meth c Z y bytes mx ret n0 T h k n) {x z : Int32} (hd : decode bytes pc = .ok (.ior, 1))  (pc' : Nat) (hp : pc + 1 = pc') (K : OE p e R below s n0 Q T (mkF m pc' Ls (.int (x ||| z) :: st))) : OE p e R below s n0 Q T (mkF m pc Ls (.int z :: .int x :: st)) := by
  obtain ⟨hx, hZ, hown, hby, hmx, hret, hnm, hlk, h0, hT, locs, S, N⟩ := X; subst hp
  exact OE.by (fun t q => XT.ior S.here hx rfl (hb hby hd) rfl q) K
theorem o_ixor (X : OW p l e R s m args below meth c Z y bytes mx ret n0 T h k n) {x z : Int32} (hd : decode bytes pc = .ok (.ixor, 1))  (pc' : Nat) (hp : pc + 1 = pc') (K : OE p e R below s n0 Q T (mkF m pc' Ls (.int (x ^^^ z) :: st))) : OE p e R below s n0 Q T (mkF m pc Ls (.int z :: .int x :: st)) := by
  obtain ⟨hx, hZ, hown, hby, hmx, hret, hnm, hlk, h0, hT, locs, S, N⟩ := X; subst hp
  exact OE.by (fun t q => XT.ixor S.here hx rfl (hb hby hd) rfl q) K
theorem o_ishl (X : OW p l e R s m args below meth c Z y bytes mx ret n0 T h k n) {x z : Int32} (hd : decode bytes pc = .ok (.ishl, 1))  (pc' : Nat) (hp : pc + 1 = pc') (K : OE p e R below s n0 Q T (mkF m pc' Ls (.int (x <<< (z &&& 31)) :: st))) : OE p e R below s n0 Q T (mkF m pc Ls (.int z :: .int x :: st)) := by
  obtain ⟨hx, hZ, hown, hby, hmx, hret, hnm, hlk, h0, hT, locs, S, N⟩ := X; subst hp
  exact OE.by (fun t q => XT.ishl S.here hx rfl (hb hby hd) rfl q) K
theorem o_ishr (X : OW p l e R s m args below meth c Z y bytes mx ret n0 T h k n) {x z : Int32} (hd : decode bytes pc = .ok (.ishr, 1))  (pc' : Nat) (hp : pc + 1 = pc') (K : OE p e R below s n0 Q T (mkF m pc' Ls (.int (x >>> (z &&& 31)) :: st))) : OE p e R below s n0 Q T (mkF m pc Ls (.int z :: .int x :: st)) := by
  obtain ⟨hx, hZ, hown, hby, hmx, hret, hnm, hlk, h0, hT, locs, S, N⟩ := X; subst hp
  exact OE.by (fun t q => XT.ishr S.here hx rfl (hb hby hd) rfl q) K
theorem o_iushr (X : OW p l e R s m args below meth c Z y bytes mx ret n0 T h k n) {x z : Int32} (hd : decode bytes pc = .ok (.iushr, 1))  (pc' : Nat) (hp : pc + 1 = pc') (K : OE p e R below s n0 Q T (mkF m pc' Ls (.int (XT.ushr x z) :: st))) : OE p e R below s n0 Q T (mkF m pc Ls (.int z :: .int x :: st)) := by
  obtain ⟨hx, hZ, hown, hby, hmx, hret, hnm, hlk, h0, hT, locs, S, N⟩ := X; subst hp
  exact OE.by (fun t q => XT.iushr S.here hx rfl (hb hby hd) rfl q) K
theorem o_idiv (X : OW p l e R s m args below meth c Z y bytes mx ret n0 T h k n) {x z : Int32} (hd : decode bytes pc = .ok (.idiv, 1)) (hz : z ≠ 0) (pc' : Nat) (hp : pc + 1 = pc') (K : OE p e R below s n0 Q T (mkF m pc' Ls (.int (x / z) :: st))) : OE p e R below s n0 Q T (mkF m pc Ls (.int z :: .int x :: st)) := by
  obtain ⟨hx, hZ, hown, hby, hmx, hret, hnm, hlk, h0, hT, locs, S, N⟩ := X; subst hp
  exact OE.by (fun t q => XS.idiv S.here hx rfl (hb hby hd) rfl hz q) K
theorem o_irem (X : OW p l e R s m args below meth c Z y bytes mx ret n0 T h k n) {x z : Int32} (hd : decode bytes pc = .ok (.irem, 1)) (hz : z ≠ 0) (pc' : Nat) (hp : pc + 1 = pc') (K : OE p e R below s n0 Q T (mkF m pc' Ls (.int (x % z) :: st))) : OE p e R below s n0 Q T (mkF m pc Ls (.int z :: .int x :: st)) := by
  obtain ⟨hx, hZ, hown, hby, hmx, hret, hnm, hlk, h0, hT, locs, S, N⟩ := X; subst hp
  exact OE.by (fun t q => iremM S hx rfl (hb hby hd) rfl hz q) K
theorem o_ladd (X : OW p l e R s m args below meth c Z y bytes mx ret n0 T h k n) {x z : Int64} (hd : decode bytes pc = .ok (.ladd, 1))  (pc' : Nat) (hp : pc + 1 = pc') (K : OE p e R below s n0 Q T (mkF m pc' Ls (.long (x + z) :: st))) : OE p e R below s n0 Q T (mkF m pc Ls (.long z :: .long x :: st)) := by
  obtain ⟨hx, hZ, hown, hby, hmx, hret, hnm, hlk, h0, hT, locs, S, N⟩ := X; subst hp
  exact OE.by (fun t q => XT.ladd S.here hx rfl (hb hby hd) rfl q) K
theorem o_lsub (X : OW p l e R s m args below meth c Z y bytes mx ret n0 T h k n) {x z : Int64} (hd : decode bytes pc = .ok (.lsub, 1))  (pc' : Nat) (hp : pc + 1 = pc') (K : OE p e R below s n0 Q T (mkF m pc' Ls (.long (x - z) :: st))) : OE p e R below s n0 Q T (mkF m pc Ls (.long z :: .long x :: st)) := by
  obtain ⟨hx, hZ, hown, hby, hmx, hret, hnm, hlk, h0, hT, locs, S, N⟩ := X; subst hp
  exact OE.by (fun t q => XT.lsub S.here hx rfl (hb hby hd) rfl q) K
theorem o_lor (X : OW p l e R s m args below meth c Z y bytes mx ret n0 T h k n) {x z : Int64} (hd : decode bytes pc = .ok (.lor, 1))  (pc' : Nat) (hp : pc + 1 = pc') (K : OE p e R below s n0 Q T (mkF m pc' Ls (.long (x ||| z) :: st))) : OE p e R below s n0 Q T (mkF m pc Ls (.long z :: .long x :: st)) := by
  obtain ⟨hx, hZ, hown, hby, hmx, hret, hnm, hlk, h0, hT, locs, S, N⟩ := X; subst hp
  exact OE.by (fun t q => XT.lor S.here hx rfl (hb hby hd) rfl q) K
theorem o_land (X : OW p l e R s m args below meth c Z y bytes mx ret n0 T h k n) {x z : Int64} (hd : decode bytes pc = .ok (.land, 1))  (pc' : Nat) (hp : pc + 1 = pc') (K : OE p e R below s n0 Q T (mkF m pc' Ls (.long (x &&& z) :: st))) : OE p e R below s n0 Q T (mkF m pc Ls (.long z :: .long x :: st)) := by
  obtain ⟨hx, hZ, hown, hby, hmx, hret, hnm, hlk, h0, hT, locs, S, N⟩ := X; subst hp
  exact OE.by (fun t q => XT.land S.here hx rfl (hb hby hd) rfl q) K
theorem o_lmul (X : OW p l e R s m args below meth c Z y bytes mx ret n0 T h k n) {x z : Int64} (hd : decode bytes pc = .ok (.lmul, 1))  (pc' : Nat) (hp : pc + 1 = pc') (K : OE p e R below s n0 Q T (mkF m pc' Ls (.long (x * z) :: st))) : OE p e R below s n0 Q T (mkF m pc Ls (.long z :: .long x :: st)) := by
  obtain ⟨hx, hZ, hown, hby, hmx, hret, hnm, hlk, h0, hT, locs, S, N⟩ := X; subst hp
  exact OE.by (fun t q => XT.lmul S.here hx rfl (hb hby hd) rfl q) K
theorem o_lshl (X : OW p l e R s m args below meth c Z y bytes mx ret n0 T h k n) {x : Int64} {z : Int32} (hd : decode bytes pc = .ok (.lshl, 1))  (pc' : Nat) (hp : pc + 1 = pc') (K : OE p e R below s n0 Q T (mkF m pc' Ls (.long (x <<< (z.toInt64 &&& 63)) :: st))) : OE p e R below s n0 Q T (mkF m pc Ls (.int z :: .long x :: st)) := by
  obtain ⟨hx, hZ, hown, hby, hmx, hret, hnm, hlk, h0, hT, locs, S, N⟩ := X; subst hp
  exact OE.by (fun t q => XT.lshl S.here hx rfl (hb hby hd) rfl q) K
theorem o_lushr (X : OW p l e R s m args below meth c Z y bytes mx ret n0 T h k n) {x : Int64} {z : Int32} (hd : decode bytes pc = .ok (.lushr, 1))  (pc' : Nat) (hp : pc + 1 = pc') (K : OE p e R below s n0 Q T (mkF m pc' Ls (.long (XT.ushrL x z) :: st))) : OE p e R below s n0 Q T (mkF m pc Ls (.int z :: .long x :: st)) := by
  obtain ⟨hx, hZ, hown, hby, hmx, hret, hnm, hlk, h0, hT, locs, S, N⟩ := X; subst hp
  exact OE.by (fun t q => XT.lushr S.here hx rfl (hb hby hd) rfl q) K
theorem o_lcmp (X : OW p l e R s m args below meth c Z y bytes mx ret n0 T h k n) {x z : Int64} (hd : decode bytes pc = .ok (.lcmp, 1))  (pc' : Nat) (hp : pc + 1 = pc') (K : OE p e R below s n0 Q T (mkF m pc' Ls (.int (XT.cmpL x z) :: st))) : OE p e R below s n0 Q T (mkF m pc Ls (.long z :: .long x :: st)) := by
  obtain ⟨hx, hZ, hown, hby, hmx, hret, hnm, hlk, h0, hT, locs, S, N⟩ := X; subst hp
  exact OE.by (fun t q => XT.lcmp S.here hx rfl (hb hby hd) rfl q) K
theorem o_i2l (X : OW p l e R s m args below meth c Z y bytes mx ret n0 T h k n) {x : Int32} (hd : decode bytes pc = .ok (.i2l, 1))  (pc' : Nat) (hp : pc + 1 = pc') (K : OE p e R below s n0 Q T (mkF m pc' Ls (.long x.toInt64 :: st))) : OE p e R below s n0 Q T (mkF m pc Ls (.int x :: st)) := by
  obtain ⟨hx, hZ, hown, hby, hmx, hret, hnm, hlk, h0, hT, locs, S, N⟩ := X; subst hp
  exact OE.by (fun t q => XT.i2l S.here hx rfl (hb hby hd) rfl q) K
theorem o_l2i (X : OW p l e R s m args below meth c Z y bytes mx ret n0 T h k n) {x : Int64} (hd : decode bytes pc = .ok (.l2i, 1))  (pc' : Nat) (hp : pc + 1 = pc') (K : OE p e R below s n0 Q T (mkF m pc' Ls (.int x.toInt32 :: st))) : OE p e R below s n0 Q T (mkF m pc Ls (.long x :: st)) := by
  obtain ⟨hx, hZ, hown, hby, hmx, hret, hnm, hlk, h0, hT, locs, S, N⟩ := X; subst hp
  exact OE.by (fun t q => XT.l2i S.here hx rfl (hb hby hd) rfl q) K
theorem o_i2b (X : OW p l e R s m args below meth c Z y bytes mx ret n0 T h k n) {x : Int32} (hd : decode bytes pc = .ok (.i2b, 1))  (pc' : Nat) (hp : pc + 1 = pc') (K : OE p e R below s n0 Q T (mkF m pc' Ls (.int x.toInt8.toInt32 :: st))) : OE p e R below s n0 Q T (mkF m pc Ls (.int x :: st)) := by
  obtain ⟨hx, hZ, hown, hby, hmx, hret, hnm, hlk, h0, hT, locs, S, N⟩ := X; subst hp
  exact OE.by (fun t q => XT.i2b S.here hx rfl (hb hby hd) rfl q) K
theorem o_i2c (X : OW p l e R s m args below meth c Z y bytes mx ret n0 T h k n) {x : Int32} (hd : decode bytes pc = .ok (.i2c, 1))  (pc' : Nat) (hp : pc + 1 = pc') (K : OE p e R below s n0 Q T (mkF m pc' Ls (.int x.toUInt32.toUInt16.toUInt32.toInt32 :: st))) : OE p e R below s n0 Q T (mkF m pc Ls (.int x :: st)) := by
  obtain ⟨hx, hZ, hown, hby, hmx, hret, hnm, hlk, h0, hT, locs, S, N⟩ := X; subst hp
  exact OE.by (fun t q => XT.i2c S.here hx rfl (hb hby hd) rfl q) K
theorem o_dup (X : OW p l e R s m args below meth c Z y bytes mx ret n0 T h k n) {v : Value} (hd : decode bytes pc = .ok (.dup, 1)) (hc : v.category = 1) (pc' : Nat) (hp : pc + 1 = pc') (K : OE p e R below s n0 Q T (mkF m pc' Ls (v :: v :: st))) : OE p e R below s n0 Q T (mkF m pc Ls (v :: st)) := by
  obtain ⟨hx, hZ, hown, hby, hmx, hret, hnm, hlk, h0, hT, locs, S, N⟩ := X; subst hp
  exact OE.by (fun t q => XS.dup S.here hx rfl (hb hby hd) rfl hc q) K
theorem o_pop (X : OW p l e R s m args below meth c Z y bytes mx ret n0 T h k n) {v : Value} (hd : decode bytes pc = .ok (.pop, 1)) (hc : v.category = 1) (pc' : Nat) (hp : pc + 1 = pc') (K : OE p e R below s n0 Q T (mkF m pc' Ls st)) : OE p e R below s n0 Q T (mkF m pc Ls (v :: st)) := by
  obtain ⟨hx, hZ, hown, hby, hmx, hret, hnm, hlk, h0, hT, locs, S, N⟩ := X; subst hp
  exact OE.by (fun t q => XT.pop S.here hx rfl (hb hby hd) rfl hc q) K
theorem o_dupX1 (X : OW p l e R s m args below meth c Z y bytes mx ret n0 T h k n) {v w : Value} (hd : decode bytes pc = .ok (.dup_x1, 1)) (hc : v.category = 1) (hc' : w.category = 1) (pc' : Nat) (hp : pc + 1 = pc') (K : OE p e R below s n0 Q T (mkF m pc' Ls (v :: w :: v :: st))) : OE p e R below s n0 Q T (mkF m pc Ls (v :: w :: st)) := by
  obtain ⟨hx, hZ, hown, hby, hmx, hret, hnm, hlk, h0, hT, locs, S, N⟩ := X; subst hp
  exact OE.by (fun t q => XT.dupX1 S.here hx rfl (hb hby hd) rfl hc hc' q) K
theorem o_dup2 (X : OW p l e R s m args below meth c Z y bytes mx ret n0 T h k n) {v w : Value} (hd : decode bytes pc = .ok (.dup2, 1)) (hc : v.category = 1) (hc' : w.category = 1) (pc' : Nat) (hp : pc + 1 = pc') (K : OE p e R below s n0 Q T (mkF m pc' Ls (v :: w :: v :: w :: st))) : OE p e R below s n0 Q T (mkF m pc Ls (v :: w :: st)) := by
  obtain ⟨hx, hZ, hown, hby, hmx, hret, hnm, hlk, h0, hT, locs, S, N⟩ := X; subst hp
  exact OE.by (fun t q => XT.dup2 S.here hx rfl (hb hby hd) rfl hc hc' q) K
theorem o_istoreN (X : OW p l e R s m args below meth c Z y bytes mx ret n0 T h k n) {j : Fin 4} {v : Int32} (hd : decode bytes pc = .ok (.istore_n j, 1)) (Ls' : Array Slot) (hl : storeLocals Ls j.val (.int v) = some Ls') (pc' : Nat) (hp : pc + 1 = pc') (K : OE p e R below s n0 Q T (mkF m pc' Ls' st)) : OE p e R below s n0 Q T (mkF m pc Ls (.int v :: st)) := by
  obtain ⟨hx, hZ, hown, hby, hmx, hret, hnm, hlk, h0, hT, locs, S, N⟩ := X; subst hp
  exact OE.by (fun t q => XS.istoreN S.here hx rfl (hb hby hd) rfl hl q) K
theorem o_istore (X : OW p l e R s m args below meth c Z y bytes mx ret n0 T h k n) {j : Nat} {v : Int32} (hd : decode bytes pc = .ok (.istore j, 2)) (Ls' : Array Slot) (hl : storeLocals Ls j (.int v) = some Ls') (pc' : Nat) (hp : pc + 2 = pc') (K : OE p e R below s n0 Q T (mkF m pc' Ls' st)) : OE p e R below s n0 Q T (mkF m pc Ls (.int v :: st)) := by
  obtain ⟨hx, hZ, hown, hby, hmx, hret, hnm, hlk, h0, hT, locs, S, N⟩ := X; subst hp
  exact OE.by (fun t q => XS.istore S.here hx rfl (hb hby hd) rfl hl q) K
theorem o_lstoreN (X : OW p l e R s m args below meth c Z y bytes mx ret n0 T h k n) {j : Fin 4} {v : Int64} (hd : decode bytes pc = .ok (.lstore_n j, 1)) (Ls' : Array Slot) (hl : storeLocals Ls j.val (.long v) = some Ls') (pc' : Nat) (hp : pc + 1 = pc') (K : OE p e R below s n0 Q T (mkF m pc' Ls' st)) : OE p e R below s n0 Q T (mkF m pc Ls (.long v :: st)) := by
  obtain ⟨hx, hZ, hown, hby, hmx, hret, hnm, hlk, h0, hT, locs, S, N⟩ := X; subst hp
  exact OE.by (fun t q => XT.lstoreN S.here hx rfl (hb hby hd) rfl hl q) K
theorem o_lstore (X : OW p l e R s m args below meth c Z y bytes mx ret n0 T h k n) {j : Nat} {v : Int64} (hd : decode bytes pc = .ok (.lstore j, 2)) (Ls' : Array Slot) (hl : storeLocals Ls j (.long v) = some Ls') (pc' : Nat) (hp : pc + 2 = pc') (K : OE p e R below s n0 Q T (mkF m pc' Ls' st)) : OE p e R below s n0 Q T (mkF m pc Ls (.long v :: st)) := by
  obtain ⟨hx, hZ, hown, hby, hmx, hret, hnm, hlk, h0, hT, locs, S, N⟩ := X; subst hp
  exact OE.by (fun t q => XT.lstore S.here hx rfl (hb hby hd) rfl hl q) K
theorem o_astoreN (X : OW p l e R s m args below meth c Z y bytes mx ret n0 T h k n) {j : Fin 4} {v : Value} (hd : decode bytes pc = .ok (.astore_n j, 1)) (hv : v.isRef = true) (Ls' : Array Slot) (hl : storeLocals Ls j.val v = some Ls') (pc' : Nat) (hp : pc + 1 = pc') (K : OE p e R below s n0 Q T (mkF m pc' Ls' st)) : OE p e R below s n0 Q T (mkF m pc Ls (v :: st)) := by
  obtain ⟨hx, hZ, hown, hby, hmx, hret, hnm, hlk, h0, hT, locs, S, N⟩ := X; subst hp
  exact OE.by (fun t q => XS.astoreN S.here hx rfl (hb hby hd) rfl hv hl q) K
theorem o_astore (X : OW p l e R s m args below meth c Z y bytes mx ret n0 T h k n) {j : Nat} {v : Value} (hd : decode bytes pc = .ok (.astore j, 2)) (hv : v.isRef = true) (Ls' : Array Slot) (hl : storeLocals Ls j v = some Ls') (pc' : Nat) (hp : pc + 2 = pc') (K : OE p e R below s n0 Q T (mkF m pc' Ls' st)) : OE p e R below s n0 Q T (mkF m pc Ls (v :: st)) := by
  obtain ⟨hx, hZ, hown, hby, hmx, hret, hnm, hlk, h0, hT, locs, S, N⟩ := X; subst hp
  exact OE.by (fun t q => XS.astore S.here hx rfl (hb hby hd) rfl hv hl q) K
theorem o_iinc (X : OW p l e R s m args below meth c Z y bytes mx ret n0 T h k n) {j : Nat} {i : Int} {v w : Int32} (hd : decode bytes pc = .ok (.iinc j i, 3)) (hg : Ls[j]? = some (.val (.int v))) (hw : v + Int32.ofInt i = w) (Ls' : Array Slot) (hl : storeLocals Ls j (.int w) = some Ls') (pc' : Nat) (hp : pc + 3 = pc') (K : OE p e R below s n0 Q T (mkF m pc' Ls' st)) : OE p e R below s n0 Q T (mkF m pc Ls st) := by
  obtain ⟨hx, hZ, hown, hby, hmx, hret, hnm, hlk, h0, hT, locs, S, N⟩ := X; subst hp hw
  exact OE.by (fun t q => XS.iinc S.here hx rfl (hb hby hd) hg hl q) K
theorem o_goto (X : OW p l e R s m args below meth c Z y bytes mx ret n0 T h k n) {o : Int} (hd : decode bytes pc = .ok (.goto o, 3)) (pc' : Nat) (ho : 0 ≤ (pc : Int) + o) (hp : ((pc : Int) + o).toNat = pc') (K : OE p e R below s n0 Q T (mkF m pc' Ls st)) : OE p e R below s n0 Q T (mkF m pc Ls st) := by
  obtain ⟨hx, hZ, hown, hby, hmx, hret, hnm, hlk, h0, hT, locs, S, N⟩ := X
  exact OE.by (fun t q => XS.goto S.here hx rfl rfl (hb hby hd) ho hp q) K
theorem o_icmpEq (X : OW p l e R s m args below meth c Z y bytes mx ret n0 T h k n) {o : Int} {x z : Int32} (hd : decode bytes pc = .ok (.if_icmp .eq o, 3)) (pcT pcF : Nat) (ho : 0 ≤ (pc : Int) + o) (hT : ((pc : Int) + o).toNat = pcT) (hF : pc + 3 = pcF) (KT : x = z → OE p e R below s n0 Q T (mkF m pcT Ls st)) (KF : ¬ x = z → OE p e R below s n0 Q T (mkF m pcF Ls st)) : OE p e R below s n0 Q T (mkF m pc Ls (.int z :: .int x :: st)) := by
  obtain ⟨hx, hZ, hown, hby, hmx, hret, hnm, hlk, h0, hT', locs, S, N⟩ := X; subst hF
  by_cases q : x = z
  · exact OE.by (fun t r => XS.icmpYes S.here hx rfl rfl (hb hby hd) rfl ((teq q).1) ho hT r) (KT q)
  · exact OE.by (fun t r => XS.icmpNo S.here hx rfl (hb hby hd) rfl ((feq q).1) r) (KF q)
theorem o_ifEq (X : OW p l e R s m args below meth c Z y bytes mx ret n0 T h k n) {o : Int} {x : Int32} (hd : decode bytes pc = .ok (.ifCond .eq o, 3)) (pcT pcF : Nat) (ho : 0 ≤ (pc : Int) + o) (hT : ((pc : Int) + o).toNat = pcT) (hF : pc + 3 = pcF) (KT : x = 0 → OE p e R below s n0 Q T (mkF m pcT Ls st)) (KF : ¬ x = 0 → OE p e R below s n0 Q T (mkF m pcF Ls st)) : OE p e R below s n0 Q T (mkF m pc Ls (.int x :: st)) := by
  obtain ⟨hx, hZ, hown, hby, hmx, hret, hnm, hlk, h0, hT', locs, S, N⟩ := X; subst hF
  by_cases q : x = 0
  · exact OE.by (fun t r => XS.ifYes S.here hx rfl rfl (hb hby hd) rfl ((if0 _ _).trans (teq q).1) ho hT r) (KT q)
  · exact OE.by (fun t r => XS.ifNo S.here hx rfl (hb hby hd) rfl ((if0 _ _).trans (feq q).1) r) (KF q)
theorem o_icmpNe (X : OW p l e R s m args below meth c Z y bytes mx ret n0 T h k n) {o : Int} {x z : Int32} (hd : decode bytes pc = .ok (.if_icmp .ne o, 3)) (pcT pcF : Nat) (ho : 0 ≤ (pc : Int) + o) (hT : ((pc : Int) + o).toNat = pcT) (hF : pc + 3 = pcF) (KT : ¬ x = z → OE p e R below s n0 Q T (mkF m pcT Ls st)) (KF : x = z → OE p e R below s n0 Q T (mkF m pcF Ls st)) : OE p e R below s n0 Q T (mkF m pc Ls (.int z :: .int x :: st)) := by
  obtain ⟨hx, hZ, hown, hby, hmx, hret, hnm, hlk, h0, hT', locs, S, N⟩ := X; subst hF
  by_cases q : x = z
  · exact OE.by (fun t r => XS.icmpNo S.here hx rfl (hb hby hd) rfl ((teq q).2) r) (KF q)
  · exact OE.by (fun t r => XS.icmpYes S.here hx rfl rfl (hb hby hd) rfl ((feq q).2) ho hT r) (KT q)
theorem o_ifNe (X : OW p l e R s m args below meth c Z y bytes mx ret n0 T h k n) {o : Int} {x : Int32} (hd : decode bytes pc = .ok (.ifCond .ne o, 3)) (pcT pcF : Nat) (ho : 0 ≤ (pc : Int) + o) (hT : ((pc : Int) + o).toNat = pcT) (hF : pc + 3 = pcF) (KT : ¬ x = 0 → OE p e R below s n0 Q T (mkF m pcT Ls st)) (KF : x = 0 → OE p e R below s n0 Q T (mkF m pcF Ls st)) : OE p e R below s n0 Q T (mkF m pc Ls (.int x :: st)) := by
  obtain ⟨hx, hZ, hown, hby, hmx, hret, hnm, hlk, h0, hT', locs, S, N⟩ := X; subst hF
  by_cases q : x = 0
  · exact OE.by (fun t r => XS.ifNo S.here hx rfl (hb hby hd) rfl ((if0 _ _).trans (teq q).2) r) (KF q)
  · exact OE.by (fun t r => XS.ifYes S.here hx rfl rfl (hb hby hd) rfl ((if0 _ _).trans (feq q).2) ho hT r) (KT q)
theorem o_icmpLt (X : OW p l e R s m args below meth c Z y bytes mx ret n0 T h k n) {o : Int} {x z : Int32} (hd : decode bytes pc = .ok (.if_icmp .lt o, 3)) (pcT pcF : Nat) (ho : 0 ≤ (pc : Int) + o) (hT : ((pc : Int) + o).toNat = pcT) (hF : pc + 3 = pcF) (KT : x < z → OE p e R below s n0 Q T (mkF m pcT Ls st)) (KF : ¬ x < z → OE p e R below s n0 Q T (mkF m pcF Ls st)) : OE p e R below s n0 Q T (mkF m pc Ls (.int z :: .int x :: st)) := by
  obtain ⟨hx, hZ, hown, hby, hmx, hret, hnm, hlk, h0, hT', locs, S, N⟩ := X; subst hF
  by_cases q : x < z
  · exact OE.by (fun t r => XS.icmpYes S.here hx rfl rfl (hb hby hd) rfl ((tlt q).1) ho hT r) (KT q)
  · exact OE.by (fun t r => XS.icmpNo S.here hx rfl (hb hby hd) rfl ((flt q).1) r) (KF q)
theorem o_ifLt (X : OW p l e R s m args below meth c Z y bytes mx ret n0 T h k n) {o : Int} {x : Int32} (hd : decode bytes pc = .ok (.ifCond .lt o, 3)) (pcT pcF : Nat) (ho : 0 ≤ (pc : Int) + o) (hT : ((pc : Int) + o).toNat = pcT) (hF : pc + 3 = pcF) (KT : x < 0 → OE p e R below s n0 Q T (mkF m pcT Ls st)) (KF : ¬ x < 0 → OE p e R below s n0 Q T (mkF m pcF Ls st)) : OE p e R below s n0 Q T (mkF m pc Ls (.int x :: st)) := by
  obtain ⟨hx, hZ, hown, hby, hmx, hret, hnm, hlk, h0, hT', locs, S, N⟩ := X; subst hF
  by_cases q : x < 0
  · exact OE.by (fun t r => XS.ifYes S.here hx rfl rfl (hb hby hd) rfl ((if0 _ _).trans (tlt q).1) ho hT r) (KT q)
  · exact OE.by (fun t r => XS.ifNo S.here hx rfl (hb hby hd) rfl ((if0 _ _).trans (flt q).1) r) (KF q)
theorem o_icmpGe (X : OW p l e R s m args below meth c Z y bytes mx ret n0 T h k n) {o : Int} {x z : Int32} (hd : decode bytes pc = .ok (.if_icmp .ge o, 3)) (pcT pcF : Nat) (ho : 0 ≤ (pc : Int) + o) (hT : ((pc : Int) + o).toNat = pcT) (hF : pc + 3 = pcF) (KT : ¬ x < z → OE p e R below s n0 Q T (mkF m pcT Ls st)) (KF : x < z → OE p e R below s n0 Q T (mkF m pcF Ls st)) : OE p e R below s n0 Q T (mkF m pc Ls (.int z :: .int x :: st)) := by
  obtain ⟨hx, hZ, hown, hby, hmx, hret, hnm, hlk, h0, hT', locs, S, N⟩ := X; subst hF
  by_cases q : x < z
  · exact OE.by (fun t r => XS.icmpNo S.here hx rfl (hb hby hd) rfl ((tlt q).2.1) r) (KF q)
  · exact OE.by (fun t r => XS.icmpYes S.here hx rfl rfl (hb hby hd) rfl ((flt q).2.1) ho hT r) (KT q)
theorem o_ifGe (X : OW p l e R s m args below meth c Z y bytes mx ret n0 T h k n) {o : Int} {x : Int32} (hd : decode bytes pc = .ok (.ifCond .ge o, 3)) (pcT pcF : Nat) (ho : 0 ≤ (pc : Int) + o) (hT : ((pc : Int) + o).toNat = pcT) (hF : pc + 3 = pcF) (KT : ¬ x < 0 → OE p e R below s n0 Q T (mkF m pcT Ls st)) (KF : x < 0 → OE p e R below s n0 Q T (mkF m pcF Ls st)) : OE p e R below s n0 Q T (mkF m pc Ls (.int x :: st)) := by
  obtain ⟨hx, hZ, hown, hby, hmx, hret, hnm, hlk, h0, hT', locs, S, N⟩ := X; subst hF
  by_cases q : x < 0
  · exact OE.by (fun t r => XS.ifNo S.here hx rfl (hb hby hd) rfl ((if0 _ _).trans (tlt q).2.1) r) (KF q)
  · exact OE.by (fun t r => XS.ifYes S.here hx rfl rfl (hb hby hd) rfl ((if0 _ _).trans (flt q).2.1) ho hT r) (KT q)
theorem o_icmpGt (X : OW p l e R s m args below meth c Z y bytes mx ret n0 T h k n) {o : Int} {x z : Int32} (hd : decode bytes pc = .ok (.if_icmp .gt o, 3)) (pcT pcF : Nat) (ho : 0 ≤ (pc : Int) + o) (hT : ((pc : Int) + o).toNat = pcT) (hF : pc + 3 = pcF) (KT : z < x → OE p e R below s n0 Q T (mkF m pcT Ls st)) (KF : ¬ z < x → OE p e R below s n0 Q T (mkF m pcF Ls st)) : OE p e R below s n0 Q T (mkF m pc Ls (.int z :: .int x :: st)) := by
  obtain ⟨hx, hZ, hown, hby, hmx, hret, hnm, hlk, h0, hT', locs, S, N⟩ := X; subst hF
  by_cases q : z < x
  · exact OE.by (fun t r => XS.icmpYes S.here hx rfl rfl (hb hby hd) rfl ((tlt q).2.2.1) ho hT r) (KT q)
  · exact OE.by (fun t r => XS.icmpNo S.here hx rfl (hb hby hd) rfl ((flt q).2.2.1) r) (KF q)
theorem o_ifGt (X : OW p l e R s m args below meth c Z y bytes mx ret n0 T h k n) {o : Int} {x : Int32} (hd : decode bytes pc = .ok (.ifCond .gt o, 3)) (pcT pcF : Nat) (ho : 0 ≤ (pc : Int) + o) (hT : ((pc : Int) + o).toNat = pcT) (hF : pc + 3 = pcF) (KT : 0 < x → OE p e R below s n0 Q T (mkF m pcT Ls st)) (KF : ¬ 0 < x → OE p e R below s n0 Q T (mkF m pcF Ls st)) : OE p e R below s n0 Q T (mkF m pc Ls (.int x :: st)) := by
  obtain ⟨hx, hZ, hown, hby, hmx, hret, hnm, hlk, h0, hT', locs, S, N⟩ := X; subst hF
  by_cases q : 0 < x
  · exact OE.by (fun t r => XS.ifYes S.here hx rfl rfl (hb hby hd) rfl ((if0 _ _).trans (tlt q).2.2.1) ho hT r) (KT q)
  · exact OE.by (fun t r => XS.ifNo S.here hx rfl (hb hby hd) rfl ((if0 _ _).trans (flt q).2.2.1) r) (KF q)
theorem o_icmpLe (X : OW p l e R s m args below meth c Z y bytes mx ret n0 T h k n) {o : Int} {x z : Int32} (hd : decode bytes pc = .ok (.if_icmp .le o, 3)) (pcT pcF : Nat) (ho : 0 ≤ (pc : Int) + o) (hT : ((pc : Int) + o).toNat = pcT) (hF : pc + 3 = pcF) (KT : ¬ z < x → OE p e R below s n0 Q T (mkF m pcT Ls st)) (KF : z < x → OE p e R below s n0 Q T (mkF m pcF Ls st)) : OE p e R below s n0 Q T (mkF m pc Ls (.int z :: .int x :: st)) := by
  obtain ⟨hx, hZ, hown, hby, hmx, hret, hnm, hlk, h0, hT', locs, S, N⟩ := X; subst hF
  by_cases q : z < x
  · exact OE.by (fun t r => XS.icmpNo S.here hx rfl (hb hby hd) rfl ((tlt q).2.2.2) r) (KF q)
  · exact OE.by (fun t r => XS.icmpYes S.here hx rfl rfl (hb hby hd) rfl ((flt q).2.2.2) ho hT r) (KT q)
theorem o_ifLe (X : OW p l e R s m args below meth c Z y bytes mx ret n0 T h k n) {o : Int} {x : Int32} (hd : decode bytes pc = .ok (.ifCond .le o, 3)) (pcT pcF : Nat) (ho : 0 ≤ (pc : Int) + o) (hT : ((pc : Int) + o).toNat = pcT) (hF : pc + 3 = pcF) (KT : ¬ 0 < x → OE p e R below s n0 Q T (mkF m pcT Ls st)) (KF : 0 < x → OE p e R below s n0 Q T (mkF m pcF Ls st)) : OE p e R below s n0 Q T (mkF m pc Ls (.int x :: st)) := by
  obtain ⟨hx, hZ, hown, hby, hmx, hret, hnm, hlk, h0, hT', locs, S, N⟩ := X; subst hF
  by_cases q : 0 < x
  · exact OE.by (fun t r => XS.ifNo S.here hx rfl (hb hby hd) rfl ((if0 _ _).trans (tlt q).2.2.2) r) (KF q)
  · exact OE.by (fun t r => XS.ifYes S.here hx rfl rfl (hb hby hd) rfl ((if0 _ _).trans (flt q).2.2.2) ho hT r) (KT q)
theorem o_ifnullR (X : OW p l e R s m args below meth c Z y bytes mx ret n0 T h k n) {o : Int} {a : Addr} (hd : decode bytes pc = .ok (.ifnull o, 3)) (pc' : Nat) (hp : pc + 3 = pc') (K : OE p e R below s n0 Q T (mkF m pc' Ls st)) : OE p e R below s n0 Q T (mkF m pc Ls (.ref a :: st)) := by
  obtain ⟨hx, hZ, hown, hby, hmx, hret, hnm, hlk, h0, hT, locs, S, N⟩ := X; subst hp
  exact OE.by (fun t q => XS.ifnullNo S.here hx rfl (hb hby hd) rfl q) K
theorem o_ifnonnullR (X : OW p l e R s m args below meth c Z y bytes mx ret n0 T h k n) {o : Int} {a : Addr} (hd : decode bytes pc = .ok (.ifnonnull o, 3)) (pc' : Nat) (ho : 0 ≤ (pc : Int) + o) (hp : ((pc : Int) + o).toNat = pc') (K : OE p e R below s n0 Q T (mkF m pc' Ls st)) : OE p e R below s n0 Q T (mkF m pc Ls (.ref a :: st)) := by
  obtain ⟨hx, hZ, hown, hby, hmx, hret, hnm, hlk, h0, hT, locs, S, N⟩ := X
  exact OE.by (fun t q => XT.ifnonnullYes S.here hx rfl rfl (hb hby hd) rfl ho hp q) K
theorem o_acmpEqN (X : OW p l e R s m args below meth c Z y bytes mx ret n0 T h k n) {o : Int} {a b : Addr} (hd : decode bytes pc = .ok (.if_acmp .eq o, 3)) (hab : a ≠ b) (pc' : Nat) (hp : pc + 3 = pc') (K : OE p e R below s n0 Q T (mkF m pc' Ls st)) : OE p e R below s n0 Q T (mkF m pc Ls (.ref b :: .ref a :: st)) := by
  obtain ⟨hx, hZ, hown, hby, hmx, hret, hnm, hlk, h0, hT, locs, S, N⟩ := X; subst hp
  exact OE.by (fun t q => XT.acmpNo S.here hx rfl (hb hby hd) rfl rfl rfl (decide_eq_false fun r => hab (Value.ref.inj r)) q) K
theorem o_acmpNeY (X : OW p l e R s m args below meth c Z y bytes mx ret n0 T h k n) {o : Int} {a b : Addr} (hd : decode bytes pc = .ok (.if_acmp .ne o, 3)) (hab : a ≠ b) (pc' : Nat) (ho : 0 ≤ (pc : Int) + o) (hp : ((pc : Int) + o).toNat = pc') (K : OE p e R below s n0 Q T (mkF m pc' Ls st)) : OE p e R below s n0 Q T (mkF m pc Ls (.ref b :: .ref a :: st)) := by
  obtain ⟨hx, hZ, hown, hby, hmx, hret, hnm, hlk, h0, hT, locs, S, N⟩ := X
  exact OE.by (fun t q => XT.acmpYes S.here hx rfl rfl (hb hby hd) rfl rfl rfl (decide_eq_true fun r => hab (Value.ref.inj r)) ho hp q) K
theorem o_ldc (X : OW p l e R s m args below meth c Z y bytes mx ret n0 T h k n) {i : Nat} {v : Int32} (hd : decode bytes pc = .ok (.ldc i, 2)) (w : (Cond.constant y.cls i v).before a0 Z = true) (pc' : Nat) (hp : pc + 2 = pc') (K : OE p e R below s n0 Q T (mkF m pc' Ls (.int v :: st))) : OE p e R below s n0 Q T (mkF m pc Ls st) := by
  obtain ⟨hx, hZ, hown, hby, hmx, hret, hnm, hlk, h0, hT, locs, S, N⟩ := X; subst hp
  exact OE.by (fun t q => S.ldcInt hx hown (mvT hZ w) (g := mkF m pc Ls st) rfl (hb hby hd) t q) K
theorem o_ldc2L (X : OW p l e R s m args below meth c Z y bytes mx ret n0 T h k n) {i : Nat} {v : Int64} (hd : decode bytes pc = .ok (.ldc2_w i, 3)) (w : (Cond.constantLong y.cls i v).before a0 Z = true) (pc' : Nat) (hp : pc + 3 = pc') (K : OE p e R below s n0 Q T (mkF m pc' Ls (.long v :: st))) : OE p e R below s n0 Q T (mkF m pc Ls st) := by
  obtain ⟨hx, hZ, hown, hby, hmx, hret, hnm, hlk, h0, hT, locs, S, N⟩ := X; subst hp
  exact OE.by (fun t q => S.ldc2Long hx hown (mvT hZ w) (g := mkF m pc Ls st) rfl (hb hby hd) t q) K
theorem o_retZ (X : OW p l e R s m args below meth c Z y bytes mx (some .boolean) n0 T h k n) {z : Int32} (hd : decode bytes pc = .ok (.ireturn, 1)) (hk : k ≤ R.cells) (hn : n ≤ R.slots) (hq : Q (some (.int (nar .boolean z))) h) : OE p e R below s n0 Q T (mkF m pc Ls (.int z :: st)) := by
  obtain ⟨hx, hZ, hown, hby, hmx, hret, hnm, hlk, h0, hT, locs, S, N⟩ := X
  obtain ⟨fs, hr, hrun, hended, hW, hsame⟩ := S.leave (v := some (.int (nar .boolean z))) (fun q => by rw [hret] at q; cases q) hlk
  exact ⟨_, _, retN S hx (t := .boolean) hret (by simp) (hb hby hd) hr, hrun, hended, _, _, rfl, ⟨by show Q _ T.heap; rw [hT]; exact hq, N⟩, ⟨_, rfl⟩, hW, hsame.mono hk hn⟩
theorem o_retB (X : OW p l e R s m args below meth c Z y bytes mx (some .byte) n0 T h k n) {z : Int32} (hd : decode bytes pc = .ok (.ireturn, 1)) (hk : k ≤ R.cells) (hn : n ≤ R.slots) (hq : Q (some (.int (nar .byte z))) h) : OE p e R below s n0 Q T (mkF m pc Ls (.int z :: st)) := by
  obtain ⟨hx, hZ, hown, hby, hmx, hret, hnm, hlk, h0, hT, locs, S, N⟩ := X
  obtain ⟨fs, hr, hrun, hended, hW, hsame⟩ := S.leave (v := some (.int (nar .byte z))) (fun q => by rw [hret] at q; cases q) hlk
  exact ⟨_, _, retN S hx (t := .byte) hret (by simp) (hb hby hd) hr, hrun, hended, _, _, rfl, ⟨by show Q _ T.heap; rw [hT]; exact hq, N⟩, ⟨_, rfl⟩, hW, hsame.mono hk hn⟩
theorem o_retC (X : OW p l e R s m args below meth c Z y bytes mx (some .char) n0 T h k n) {z : Int32} (hd : decode bytes pc = .ok (.ireturn, 1)) (hk : k ≤ R.cells) (hn : n ≤ R.slots) (hq : Q (some (.int (nar .char z))) h) : OE p e R below s n0 Q T (mkF m pc Ls (.int z :: st)) := by
  obtain ⟨hx, hZ, hown, hby, hmx, hret, hnm, hlk, h0, hT, locs, S, N⟩ := X
  obtain ⟨fs, hr, hrun, hended, hW, hsame⟩ := S.leave (v := some (.int (nar .char z))) (fun q => by rw [hret] at q; cases q) hlk
  exact ⟨_, _, retN S hx (t := .char) hret (by simp) (hb hby hd) hr, hrun, hended, _, _, rfl, ⟨by show Q _ T.heap; rw [hT]; exact hq, N⟩, ⟨_, rfl⟩, hW, hsame.mono hk hn⟩
theorem o_retI (X : OW p l e R s m args below meth c Z y bytes mx (some .int) n0 T h k n) {z : Int32} (hd : decode bytes pc = .ok (.ireturn, 1)) (hk : k ≤ R.cells) (hn : n ≤ R.slots) (hq : Q (some (.int z)) h) : OE p e R below s n0 Q T (mkF m pc Ls (.int z :: st)) := by
  obtain ⟨hx, hZ, hown, hby, hmx, hret, hnm, hlk, h0, hT, locs, S, N⟩ := X
  obtain ⟨fs, hr, hrun, hended, hW, hsame⟩ := S.leave (v := some (.int z)) (fun q => by rw [hret] at q; cases q) hlk
  exact ⟨_, _, retOut S hx hret rfl (Or.inl ⟨rfl, Or.inl rfl, z, rfl⟩) (hb hby hd) hr, hrun, hended, _, _, rfl, ⟨by show Q _ T.heap; rw [hT]; exact hq, N⟩, ⟨_, rfl⟩, hW, hsame.mono hk hn⟩
theorem o_retJ (X : OW p l e R s m args below meth c Z y bytes mx (some .long) n0 T h k n) {z : Int64} (hd : decode bytes pc = .ok (.lreturn, 1)) (hk : k ≤ R.cells) (hn : n ≤ R.slots) (hq : Q (some (.long z)) h) : OE p e R below s n0 Q T (mkF m pc Ls (.long z :: st)) := by
  obtain ⟨hx, hZ, hown, hby, hmx, hret, hnm, hlk, h0, hT, locs, S, N⟩ := X
  obtain ⟨fs, hr, hrun, hended, hW, hsame⟩ := S.leave (v := some (.long z)) (fun q => by rw [hret] at q; cases q) hlk
  exact ⟨_, _, retOut S hx hret rfl (Or.inr (Or.inl ⟨rfl, rfl, z, rfl⟩)) (hb hby hd) hr, hrun, hended, _, _, rfl, ⟨by show Q _ T.heap; rw [hT]; exact hq, N⟩, ⟨_, rfl⟩, hW, hsame.mono hk hn⟩
theorem o_retA {ty : FieldType} (X : OW p l e R s m args below meth c Z y bytes mx (some ty) n0 T h k n) (hty : ty.isReference = true) {a : Addr} (hnar : narrow ty (.ref a) = .ref a) (hd : decode bytes pc = .ok (.areturn, 1)) (hk : k ≤ R.cells) (hn : n ≤ R.slots) (hq : Q (some (.ref a)) h) : OE p e R below s n0 Q T (mkF m pc Ls (.ref a :: st)) := by
  obtain ⟨hx, hZ, hown, hby, hmx, hret, hnm, hlk, h0, hT, locs, S, N⟩ := X
  obtain ⟨fs, hr, hrun, hended, hW, hsame⟩ := S.leave (v := some (.ref a)) (fun q => by rw [hret] at q; cases q) hlk
  exact ⟨_, _, retOut S hx hret hnar (Or.inr (Or.inr (Or.inr (Or.inr ⟨rfl, hty, rfl⟩)))) (hb hby hd) hr, hrun, hended, _, _, rfl, ⟨by show Q _ T.heap; rw [hT]; exact hq, N⟩, ⟨_, rfl⟩, hW, hsame.mono hk hn⟩
theorem o_ret (X : OW p l e R s m args below meth c Z y bytes mx none n0 T h k n) (hd : decode bytes pc = .ok (.return_, 1)) (hk : k ≤ R.cells) (hn : n ≤ R.slots) (hq : Q none h) : OE p e R below s n0 Q T (mkF m pc Ls []) := by
  obtain ⟨hx, hZ, hown, hby, hmx, hret, hnm, hlk, h0, hT, locs, S, N⟩ := X
  obtain ⟨fs, hr, hrun, hended, hW, hsame⟩ := S.leave (v := none) (fun _ => rfl) hlk
  exact ⟨_, _, S.returnOut hx hret (hb hby hd) hr, hrun, hended, _, _, rfl, ⟨by show Q _ T.heap; rw [hT]; exact hq, N⟩, ⟨_, rfl⟩, hW, hsame.mono hk hn⟩
/-! the heap: a list of places, each with what its cell says -/
def OA (Z : State) (ty : FieldType) (vs : List Int32) (c : Cell) : Prop := Z.isArrayOf c ty ∧ c.vm ≠ .unknown ∧ c.slots = (vs.map Value.int).toArray ∧ (∀ x ∈ vs, fits ty (.int x) = true) ∧ Z.vm.findClass ("[" ++ ty.toString) = some c.cls
def OL (n0 : Nat) (h : Heap) (L : List (Addr × (Cell → Prop))) : Prop := (L.map (·.1)).Nodup ∧ ∀ q ∈ L, n0 ≤ q.1 ∧ ∃ c : Cell, h[q.1]? = some c ∧ q.2 c
variable {L : List (Addr × (Cell → Prop))} {h' : Heap} {a : Addr} {ty : FieldType} {vs : List Int32} {PP : Cell → Prop}
theorem OL.nil : OL n0 h [] := ⟨List.nodup_nil, fun _ q => nomatch q⟩
theorem OL.ext (H : OL n0 h L) (E : Ext h h') : OL n0 h' L := ⟨H.1, fun q hq => by obtain ⟨h1, c, h2, h3⟩ := H.2 q hq; exact ⟨h1, c, E.2 _ _ h2, h3⟩⟩
theorem OL.lt (H : OL n0 h L) {q : Addr × (Cell → Prop)} (hq : q ∈ L) : q.1 < h.size := by obtain ⟨-, c, h2, -⟩ := H.2 q hq; exact (Array.getElem?_eq_some_iff.mp h2).1
theorem OL.push (H : OL n0 h L) (E : Ext h h') (h0 : n0 ≤ h.size) {c : Cell} (hc : h'[h.size]? = some c) (hp : PP c) : OL n0 h' ((h.size, PP) :: L) := by
  refine ⟨?_, fun q hq => ?_⟩
  · rw [List.map_cons, List.nodup_cons]
    refine ⟨fun hx => ?_, H.1⟩
    obtain ⟨q, hq, e⟩ := List.mem_map.mp hx
    have e' : q.1 = h.size := e
    exact absurd (H.lt hq) (by rw [e']; exact Nat.lt_irrefl _)
  · rcases List.mem_cons.mp hq with hq | hq
    · cases hq; exact ⟨h0, c, hc, hp⟩
    · exact (H.ext E).2 q hq
theorem OL.perm {L' : List (Addr × (Cell → Prop))} (H : OL n0 h L) (q : L.Perm L') : OL n0 h L' := ⟨(q.map (·.1)).nodup_iff.mp H.1, fun z hz => H.2 z (q.mem_iff.mpr hz)⟩
/-- the i-th place comes to the front -/
theorem OL.front (H : OL n0 h L) (i : Nat) {q : Addr × (Cell → Prop)} (hi : L[i]? = some q) : OL n0 h (q :: L.eraseIdx i) := by
  obtain ⟨hl, e⟩ := List.getElem?_eq_some_iff.mp hi
  refine H.perm ?_
  have e1 : L = L.take i ++ q :: L.drop (i + 1) := by rw [← e, List.getElem_cons_drop]; exact (List.take_append_drop i L).symm
  have e2 : L.eraseIdx i = L.take i ++ L.drop (i + 1) := List.eraseIdx_eq_take_drop_succ L i
  rw [e2]
  exact (List.Perm.of_eq e1).trans List.perm_middle
theorem OL.get (H : OL n0 h L) {i : Nat} (hi : L[i]? = some (a, PP)) : n0 ≤ a ∧ ∃ c : Cell, h[a]? = some c ∧ PP c := H.2 (a, PP) (List.mem_of_getElem? hi)
theorem OL.ne (H : OL n0 h L) {i j : Nat} {b : Addr} {PB : Cell → Prop} (hi : L[i]? = some (a, PP)) (hj : L[j]? = some (b, PB)) (hij : i ≠ j) : a ≠ b := by
  intro e; subst e
  have h1 : (L.map (·.1))[i]? = some a := by simp [hi]
  have h2 : (L.map (·.1))[j]? = some a := by simp [hj]
  obtain ⟨l1, -⟩ := List.getElem?_eq_some_iff.mp h1
  exact hij ((List.getElem?_inj l1 H.1).mp (h1.trans h2.symm))
theorem OL.wr (H : OL n0 h L) {i sl : Nat} {v : Value} {P' : Cell → Prop} (hi : L[i]? = some (a, PP)) (W : Wr h h' a sl v) (hP : ∀ c : Cell, h[a]? = some c → PP c → P' (c.setSlot sl v)) : OL n0 h' (L.set i (a, P')) := by
  have hmap : (L.set i (a, P')).map (·.1) = L.map (·.1) := by
    apply List.ext_getElem?
    intro j
    simp only [List.getElem?_map, List.getElem?_set]
    split
    · rename_i e; subst e; rw [if_pos (List.getElem?_eq_some_iff.mp hi).1, hi]; rfl
    · rfl
  refine ⟨by rw [hmap]; exact H.1, fun q hq => ?_⟩
  obtain ⟨j, hj⟩ := List.getElem?_of_mem hq
  rw [List.getElem?_set] at hj
  split at hj
  · rename_i e; subst e
    split at hj
    · cases hj
      obtain ⟨h1, c, h2, h3⟩ := H.get hi
      obtain ⟨c', e1, -, -, -, -, -, e7⟩ := wr_at W h2
      exact ⟨h1, c', e1, by rw [(e7 rfl).1]; exact hP c h2 h3⟩
    · cases hj
  · rename_i e
    obtain ⟨b, PB⟩ := q
    obtain ⟨h1, c, h2, h3⟩ := H.get hj
    obtain ⟨c', e1, -, -, -, e5, -⟩ := wr_at W h2
    have := e5 (H.ne hj hi (fun r => e r.symm))
    subst this
    exact ⟨h1, c', e1, h3⟩
theorem OA.set {c : Cell} {j : Nat} {x : Int32} (A : OA Z ty vs c) (hf : fits ty (.int x) = true) : OA Z ty (vs.set j x) (c.setSlot j (.int x)) := by
  obtain ⟨h1, h2, h3, h4, h5⟩ := A
  refine ⟨h1, h2, ?_, fun z hz => ?_, h5⟩
  · show c.slots.setIfInBounds j (.int x) = _
    rw [h3]; simp [List.map_set]
  · rcases List.mem_or_eq_of_mem_set hz with q | q
    · exact h4 z q
    · rw [q]; exact hf
theorem OA.new {k : ClassId} {z : Int32} {N : Nat} (hN : z.toInt = N) (hd : defaultValue ty = .int 0) (hf : fits ty (.int 0) = true) (A : Arr Z h a (newA k ty z) ty) (E : Exa Z h a ("[" ++ ty.toString)) : OA Z ty (List.replicate N 0) (newA k ty z) := by
  obtain ⟨c, kk, e1, e2, -⟩ := E
  cases A.1.symm.trans e1
  refine ⟨A.2.1, A.2.2, ?_, fun x hx => by rw [List.eq_of_mem_replicate hx]; exact hf, e2⟩
  have e : z.toNatClampNeg = N := by simp only [Int32.toNatClampNeg, hN]; rfl
  show Array.replicate z.toNatClampNeg (defaultValue ty) = _
  rw [e, hd]; simp
theorem o_idx {j : Int32} {i N : Nat} (hj : j.toInt = i) (hi : i < N) : ¬ (j < 0 ∨ N ≤ j.toNatClampNeg) ∧ j.toNatClampNeg = i := by
  have e : j.toNatClampNeg = i := by simp only [Int32.toNatClampNeg, hj]; rfl
  refine ⟨?_, e⟩
  rw [e, Int32.lt_iff_toInt_lt, hj, show (0 : Int32).toInt = 0 from rfl]; omega
theorem OA.size {c : Cell} (A : OA Z ty vs c) : c.slots.size = vs.length := by rw [A.2.2.1]; simp
theorem o_newarray (X : OW p l e R s m args below meth c Z y bytes mx ret n0 T h k n) (H : OL n0 h L) {aty : ArrayType} (hd : decode bytes pc = .ok (.newarray aty, 2)) (w : (Cond.arrayClass (newarray.typeOf aty)).before a0 Z = true) (hdv : defaultValue (newarray.typeOf aty) = .int 0) (hfv : fits (newarray.typeOf aty) (.int 0) = true) {z : Int32} (N cap : Nat) (hN : z.toInt = N) (hcap : N ≤ cap) (hb8 : cap * 8 ≤ 536870912) (k2 n2 : Nat) (hk2 : k + 1 = k2) (hn2 : n + cap = n2) (hc : k2 ≤ R.cells) (hl : n2 ≤ R.slots) (pc' : Nat) (hp : pc + 2 = pc')
    (K : ∀ T' h' a, OW p l e R s m args below meth c Z y bytes mx ret n0 T' h' k2 n2 → OL n0 h' ((a, OA Z (newarray.typeOf aty) (List.replicate N 0)) :: L) → OE p e R below s n0 Q T' (mkF m pc' Ls (.ref a :: st))) : OE p e R below s n0 Q T (mkF m pc Ls (.int z :: st)) := by
  have h0 := X.size
  obtain ⟨hx, hZ, hown, hby, hmx, hret, hnm, hlk, hn0, hT, locs, S, N0⟩ := X; subst hp hk2 hn2
  obtain ⟨T', h', cA, S', hT', E, A, EX, stp⟩ := newPE S hx hZ w hT (g := mkF m pc Ls (.int z :: st)) rfl (hb hby hd) rfl (by rw [Int32.lt_iff_toInt_lt, hN, show (0 : Int32).toInt = 0 from rfl]; omega) (cap := cap) (by simp only [Int32.toNatClampNeg, hN]; exact hcap) hb8 hc hl rfl
  exact OE.by stp (K T' h' h.size ⟨hx, hZ, hown, hby, hmx, hret, hnm, hlk, hn0, hT', locs, S', N0⟩ (H.push E h0 A.1 (OA.new hN hdv hfv A EX)))
theorem o_arraylength (X : OW p l e R s m args below meth c Z y bytes mx ret n0 T h k n) (H : OL n0 h L) (i : Nat) (hi : L[i]? = some (a, OA Z ty vs)) (hd : decode bytes pc = .ok (.arraylength, 1)) (z : Int32) (hz : Int32.ofNat vs.length = z) (pc' : Nat) (hp : pc + 1 = pc')
    (K : OE p e R below s n0 Q T (mkF m pc' Ls (.int z :: st))) : OE p e R below s n0 Q T (mkF m pc Ls (.ref a :: st)) := by
  obtain ⟨hx, hZ, hown, hby, hmx, hret, hnm, hlk, hn0, hT, locs, S, N0⟩ := X; subst hp
  obtain ⟨h1, c', h2, A⟩ := H.get hi
  refine OE.by (fun t q => S.arraylength hx (by rw [hT]; exact h2) (State.isArrayOf_alike hZ.alike A.1) (g := mkF m pc Ls (.ref a :: st)) rfl rfl (hb hby hd) t ?_) K
  have e1 : c'.slots.size.toInt32 = z := by rw [A.size]; exact hz
  rw [e1]; exact q
theorem o_iaload (X : OW p l e R s m args below meth c Z y bytes mx ret n0 T h k n) (H : OL n0 h L) (i : Nat) (hi : L[i]? = some (a, OA Z .int vs)) (hd : decode bytes pc = .ok (.iaload, 1)) {j : Int32} (jn : Nat) (hj : j.toInt = jn) (v : Int32) (hv : vs[jn]? = some v) (pc' : Nat) (hp : pc + 1 = pc')
    (K : OE p e R below s n0 Q T (mkF m pc' Ls (.int v :: st))) : OE p e R below s n0 Q T (mkF m pc Ls (.int j :: .ref a :: st)) := by
  obtain ⟨hx, hZ, hown, hby, hmx, hret, hnm, hlk, hn0, hT, locs, S, N0⟩ := X; subst hp
  obtain ⟨h1, c', h2, A⟩ := H.get hi
  have hlt := (List.getElem?_eq_some_iff.mp hv).1
  obtain ⟨q1, q2⟩ := o_idx hj (N := c'.slots.size) (by rw [A.size]; exact hlt)
  exact OE.by (fun t q => S.iaload hx (by rw [hT]; exact h2) (State.isArrayOf_alike hZ.alike A.1) A.2.1 q1 (v := .int v) (by rw [q2, A.2.2.1]; simp [hv]) (g := mkF m pc Ls (.int j :: .ref a :: st)) rfl rfl (hb hby hd) t q) K
theorem o_baloadB (X : OW p l e R s m args below meth c Z y bytes mx ret n0 T h k n) (H : OL n0 h L) (i : Nat) (hi : L[i]? = some (a, OA Z .byte vs)) (hd : decode bytes pc = .ok (.baload, 1)) {j : Int32} (jn : Nat) (hj : j.toInt = jn) (v : Int32) (hv : vs[jn]? = some v) (pc' : Nat) (hp : pc + 1 = pc')
    (K : OE p e R below s n0 Q T (mkF m pc' Ls (.int v :: st))) : OE p e R below s n0 Q T (mkF m pc Ls (.int j :: .ref a :: st)) := by
  obtain ⟨hx, hZ, hown, hby, hmx, hret, hnm, hlk, hn0, hT, locs, S, N0⟩ := X; subst hp
  obtain ⟨h1, c', h2, A⟩ := H.get hi
  have hlt := (List.getElem?_eq_some_iff.mp hv).1
  obtain ⟨q1, q2⟩ := o_idx hj (N := c'.slots.size) (by rw [A.size]; exact hlt)
  exact OE.by (fun t q => S.baloadBytes hx (by rw [hT]; exact h2) (State.isArrayOf_alike hZ.alike A.1) A.2.1 q1 (v := .int v) (by rw [q2, A.2.2.1]; simp [hv]) (g := mkF m pc Ls (.int j :: .ref a :: st)) rfl rfl (hb hby hd) t q) K
theorem o_baloadZ (X : OW p l e R s m args below meth c Z y bytes mx ret n0 T h k n) (H : OL n0 h L) (i : Nat) (hi : L[i]? = some (a, OA Z .boolean vs)) (hd : decode bytes pc = .ok (.baload, 1)) {j : Int32} (jn : Nat) (hj : j.toInt = jn) (v : Int32) (hv : vs[jn]? = some v) (pc' : Nat) (hp : pc + 1 = pc')
    (K : OE p e R below s n0 Q T (mkF m pc' Ls (.int v :: st))) : OE p e R below s n0 Q T (mkF m pc Ls (.int j :: .ref a :: st)) := by
  obtain ⟨hx, hZ, hown, hby, hmx, hret, hnm, hlk, hn0, hT, locs, S, N0⟩ := X; subst hp
  obtain ⟨h1, c', h2, A⟩ := H.get hi
  have hlt := (List.getElem?_eq_some_iff.mp hv).1
  obtain ⟨q1, q2⟩ := o_idx hj (N := c'.slots.size) (by rw [A.size]; exact hlt)
  exact OE.by (fun t q => S.baloadBooleans hx (by rw [hT]; exact h2) (State.isArrayOf_alike hZ.alike A.1) A.2.1 q1 (v := .int v) (by rw [q2, A.2.2.1]; simp [hv]) (g := mkF m pc Ls (.int j :: .ref a :: st)) rfl rfl (hb hby hd) t q) K
theorem o_iastore (X : OW p l e R s m args below meth c Z y bytes mx ret n0 T h k n) (H : OL n0 h L) (i : Nat) (hi : L[i]? = some (a, OA Z .int vs)) (hd : decode bytes pc = .ok (.iastore, 1)) {j x : Int32} (jn : Nat) (hj : j.toInt = jn) (hlt : jn < vs.length) (pc' : Nat) (hp : pc + 1 = pc')
    (K : ∀ T' h', OW p l e R s m args below meth c Z y bytes mx ret n0 T' h' k n → OL n0 h' (L.set i (a, OA Z .int (vs.set jn x))) → OE p e R below s n0 Q T' (mkF m pc' Ls st)) : OE p e R below s n0 Q T (mkF m pc Ls (.int x :: .int j :: .ref a :: st)) := by
  obtain ⟨hx, hZ, hown, hby, hmx, hret, hnm, hlk, hn0, hT, locs, S, N0⟩ := X; subst hp
  obtain ⟨h1, c', h2, A⟩ := H.get hi
  obtain ⟨q1, q2⟩ := o_idx hj (N := c'.slots.size) (by rw [A.size]; exact hlt)
  obtain ⟨T', h', S', hT', W, stp⟩ := stI S hx hZ hT ⟨h2, A.1, A.2.1⟩ q1 (x := x) (g := mkF m pc Ls (.int x :: .int j :: .ref a :: st)) rfl rfl (hb hby hd)
  rw [q2] at W S'
  exact OE.by stp (K T' h' ⟨hx, hZ, hown, hby, hmx, hret, hnm, hlk, hn0, hT', _, S', N0.app fun z hz => by cases List.mem_singleton.mp hz; exact h1⟩ (H.wr hi W fun c _ B => B.set rfl))
theorem o_bastoreB (X : OW p l e R s m args below meth c Z y bytes mx ret n0 T h k n) (H : OL n0 h L) (i : Nat) (hi : L[i]? = some (a, OA Z .byte vs)) (hd : decode bytes pc = .ok (.bastore, 1)) {j x : Int32} (jn : Nat) (hj : j.toInt = jn) (hlt : jn < vs.length) (v : Int32) (hv : x.toInt8.toInt32 = v) (pc' : Nat) (hp : pc + 1 = pc')
    (K : ∀ T' h', OW p l e R s m args below meth c Z y bytes mx ret n0 T' h' k n → OL n0 h' (L.set i (a, OA Z .byte (vs.set jn v))) → OE p e R below s n0 Q T' (mkF m pc' Ls st)) : OE p e R below s n0 Q T (mkF m pc Ls (.int x :: .int j :: .ref a :: st)) := by
  obtain ⟨hx, hZ, hown, hby, hmx, hret, hnm, hlk, hn0, hT, locs, S, N0⟩ := X; subst hp hv
  obtain ⟨h1, c', h2, A⟩ := H.get hi
  obtain ⟨q1, q2⟩ := o_idx hj (N := c'.slots.size) (by rw [A.size]; exact hlt)
  obtain ⟨T', h', S', hT', W, stp⟩ := stB S hx hZ hT ⟨h2, A.1, A.2.1⟩ q1 (x := x) (g := mkF m pc Ls (.int x :: .int j :: .ref a :: st)) rfl rfl (hb hby hd)
  rw [q2] at W S'
  exact OE.by stp (K T' h' ⟨hx, hZ, hown, hby, hmx, hret, hnm, hlk, hn0, hT', _, S', N0.app fun z hz => by cases List.mem_singleton.mp hz; exact h1⟩ (H.wr hi W fun c _ B => B.set (fits_nar_byte x)))
theorem o_bastoreZ (X : OW p l e R s m args below meth c Z y bytes mx ret n0 T h k n) (H : OL n0 h L) (i : Nat) (hi : L[i]? = some (a, OA Z .boolean vs)) (hd : decode bytes pc = .ok (.bastore, 1)) {j x : Int32} (jn : Nat) (hj : j.toInt = jn) (hlt : jn < vs.length) (v : Int32) (hv : nar .boolean x = v) (pc' : Nat) (hp : pc + 1 = pc')
    (K : ∀ T' h', OW p l e R s m args below meth c Z y bytes mx ret n0 T' h' k n → OL n0 h' (L.set i (a, OA Z .boolean (vs.set jn v))) → OE p e R below s n0 Q T' (mkF m pc' Ls st)) : OE p e R below s n0 Q T (mkF m pc Ls (.int x :: .int j :: .ref a :: st)) := by
  obtain ⟨hx, hZ, hown, hby, hmx, hret, hnm, hlk, hn0, hT, locs, S, N0⟩ := X; subst hp hv
  obtain ⟨h1, c', h2, A⟩ := H.get hi
  obtain ⟨q1, q2⟩ := o_idx hj (N := c'.slots.size) (by rw [A.size]; exact hlt)
  obtain ⟨T', h', S', hT', W, stp⟩ := stZ S hx hZ hT ⟨h2, A.1, A.2.1⟩ q1 (x := x) (g := mkF m pc Ls (.int x :: .int j :: .ref a :: st)) rfl rfl (hb hby hd)
  rw [q2] at W S'
  exact OE.by stp (K T' h' ⟨hx, hZ, hown, hby, hmx, hret, hnm, hlk, hn0, hT', _, S', N0.app fun z hz => by cases List.mem_singleton.mp hz; exact h1⟩ (H.wr hi W fun c _ B => B.set (fits_nar_bool x)))
theorem o_b8 (x : Int32) : x.toInt8.toInt32.toInt8.toInt32 = x.toInt8.toInt32 := by simp
/-! contracts and calls -/
def OC (l : Launch) (Z : State) (y : MethodName) (bytes : ByteArray) (mx : Nat) (ret : Option FieldType) (ws : List Jvm.Cond) (rm : Room) (n0 : Nat) (as' : Array Value) (h0 : Heap) (Q : Option Value → Heap → Prop) : Prop :=
  MetFree l y (head1 (Jvm.Cond.code y bytes mx ret :: ws) rm) (fun a U => a = as' ∧ Z.Warmed39 U.vm ∧ U.heap = h0) (fun _ _ _ _ _ => True) (fun _ U o U' => ∃ v L, o = .returned v ∧ (Q v U'.heap ∧ Fr n0 L) ∧ FrameEnd U o U' L rm.cells rm.slots)
theorem OC.of {ws : List Jvm.Cond} {rm : Room} {as' : Array Value} {h0 : Heap} (hp : plainName y.cls = true) (hn : n0 ≤ h0.size) (Ls : Array Slot) (hef : ∀ m : MethodId, entryFrame m as' mx = mkF m 0 Ls [])
    (B : ∀ p e s m below meth c T, OW p l e rm s m as' below meth c Z y bytes mx ret n0 T h0 0 0 → ∀ Q' : Option Value → Heap → Prop, (∀ r h, Q r h → Q' r h) → OE p e rm below s n0 Q' T (mkF m 0 Ls [])) : OC l Z y bytes mx ret ws rm n0 as' h0 Q := by
  refine MetFree.of_bodySF (plainFor_of_name hp) hisR ?_
  intro p e s m args below meth c s₁ Bd hml0 hP hK
  obtain ⟨rfl, hZ, hh⟩ := hP
  have hnm := (name_of_methodNamed Bd.named Bd.method).1
  have X0 : Stand p l e rm s m args below meth c s₁ [] 0 0 := Stand.of_body Bd
  have e0 : s₁.heap = h0 := by rw [← hh, Bd.state]; rfl
  rw [hef m]
  exact B p e s m below meth c s₁ ⟨Bd.exec, hZ, findClass_of_methodNamed Bd.named, Bd.bytes, hml0, Bd.returns, hnm, Bd.notSynchronized, by rw [hh]; exact hn, e0, [], X0, Fr.nil n0⟩ Q (fun _ _ q => q)
theorem o_callS (X : OW p l e R s m args below meth c Z y bytes mx ret n0 T h k n) {i : Nat} (hd : decode bytes pc = .ok (.invokestatic i, 3)) {y' : MethodName} {bytes' : ByteArray} {mx' : Nat} {ret' : Option FieldType} {rm : Room} {as' : Array Value} {Q' : Option Value → Heap → Prop} (C : OC l Z y' bytes' mx' ret' [] rm n0 as' h Q')
    (w1 : (Cond.methodLink y.cls i y').before a0 Z = true) (w2 : (Cond.static y').before a0 Z = true) (w3 : (Cond.initialized y'.cls).before a0 Z = true) (w4 : (Cond.code y' bytes' mx' ret').before a0 Z = true) (hy : y'.cls ≠ "java/lang/invoke/MethodHandle" ∧ y'.cls ≠ "java/lang/invoke/VarHandle")
    (Wd : Nat) (hf : rm.frames + 1 ≤ R.frames) (hlo : Wd + (mx' + 11) + rm.locals ≤ R.locals) (hls : Ls.size = mx) (argsL : List Value) (has : as' = argsL.toArray) {ps : List FieldType} {r' : Option FieldType} (hpd : parseMethodDescriptor y'.desc = some ⟨ps, r'⟩) (hlen : argsL.length = ps.length) (hst : st = argsL.reverse ++ rest) (hW : (rest.map fun v => v.category).sum ≤ Wd) (k2 n2 : Nat) (hk2 : k + rm.cells = k2) (hn2 : n + rm.slots = n2) (hk : k2 ≤ R.cells) (hn : n2 ≤ R.slots) (pc' : Nat) (hp : pc + 3 = pc')
    (K : ∀ v T' h', OW p l e R s m args below meth c Z y bytes mx ret n0 T' h' k2 n2 → Q' v h' → OE p e R below s n0 Q T' (mkF m pc' Ls (v.toList ++ rest))) : OE p e R below s n0 Q T (mkF m pc Ls st) := by
  obtain ⟨hx, hZ, hown, hby, hmx, hret, hnm, hlk, hn0, hT, locs, S, N0⟩ := X; subst hp has hk2 hn2
  obtain ⟨v, _, ⟨T2, L2, k2, n2⟩, -, X2, ⟨Lc, hQ, l2, y2, z2⟩, stp⟩ := Jvm.LawKit.callS S hx (y := y') hown (mvT hZ w1) (mvT hZ w2) (mvT hZ w3) (mvT hZ w4) hy (backOf (W := Wd) (Q := fun v hh LL => Q' v hh ∧ Fr n0 LL) C hZ w4 w3 hf hlo) (g := mkF m pc Ls st) rfl (by rw [hmx]; exact hls) (argsL := argsL) (rest := rest) (lenOf hpd hlen) hst (by show 2 * 0 + _ ≤ _; omega) (hb hby hd) (fun _ _ => ⟨rfl, hT, hk, hn⟩)
  dsimp only [Pt.U, Pt.locs, Pt.cells, Pt.slots] at X2 l2 y2 z2 stp hQ
  subst l2 y2 z2
  exact OE.by stp (K v T2 T2.heap ⟨hx, hZ, hown, hby, hmx, hret, hnm, hlk, hn0, rfl, _, X2, N0.app hQ.2⟩ hQ.1)
/-! clone, checkcast, System.arraycopy of arrays of ints, bytes, booleans -/
theorem o_ofNat {N : Nat} (h : N < 2 ^ 31) : (Int32.ofNat N).toInt = N ∧ (Int32.ofNat N).toNatClampNeg = N ∧ ¬ Int32.ofNat N < 0 := by
  have e : (Int32.ofNat N).toInt = N := Int32.toInt_ofNat_of_lt h
  refine ⟨e, by simp only [Int32.toNatClampNeg, e]; rfl, ?_⟩
  rw [Int32.lt_iff_toInt_lt, e, show (0 : Int32).toInt = 0 from rfl]; omega
theorem o_getD (vs : List Int32) (i : Nat) (hi : i < vs.length) : (vs.map Value.int).getD i (.int 0) = .int vs[i] := by
  rw [List.getD_eq_getElem?_getD, List.getElem?_map, List.getElem?_eq_getElem hi]; rfl
theorem OA.arv {c : Cell} (A : OA Z ty vs c) (hc : h[a]? = some c) (hl : vs.length < 2 ^ 31) : Arv Z h a c.cls ty (Int32.ofNat vs.length) (vs.map Value.int) (.int 0) := by
  obtain ⟨e1, e2, e3⟩ := o_ofNat hl
  have hs := A.size
  refine ⟨c, ⟨hc, A.1, A.2.1⟩, rfl, by rw [hs, e2], e3, fun k hk => ?_, fun k hk => ?_⟩
  · rw [hs] at hk; rw [o_getD vs k hk, A.2.2.1]; simp [List.getElem?_eq_getElem hk]
  · rw [hs] at hk; rw [o_getD vs k hk]; exact A.2.2.2.1 _ (List.getElem_mem hk)
theorem OA.exa {c : Cell} (A : OA Z ty vs c) (hc : h[a]? = some c) : Exa Z h a ("[" ++ ty.toString) := by
  obtain ⟨-, k, h1, comp, h2⟩ := A.1
  exact ⟨c, k, hc, A.2.2.2.2, h1, Arr.plain (Z := Z) (h := h) (a := a) ⟨hc, A.1, A.2.1⟩, fun q => by rw [h2] at q; cases q⟩
theorem OA.of_arv {k : ClassId} {z : Int32} (V : Arv Z h a k ty z (vs.map Value.int) (.int 0)) (hz : z.toNatClampNeg = vs.length) (hk : Z.vm.findClass ("[" ++ ty.toString) = some k) : ∃ c : Cell, h[a]? = some c ∧ OA Z ty vs c := by
  obtain ⟨c, A, q1, q2, q3, H, G⟩ := V
  rw [hz] at q2
  refine ⟨c, A.1, A.2.1, A.2.2, ?_, fun x hx => ?_, by rw [q1]; exact hk⟩
  · apply Array.ext_getElem?
    intro i
    by_cases hi : i < vs.length
    · rw [H i (by rw [q2]; exact hi), o_getD vs i hi]; simp [List.getElem?_eq_getElem hi]
    · rw [Array.getElem?_eq_none (by rw [q2]; omega)]; simp [List.getElem?_eq_none (Nat.le_of_not_lt hi)]
  · obtain ⟨i, hi, rfl⟩ := List.getElem_of_mem hx
    rw [← o_getD vs i hi]; exact G i (by rw [q2]; exact hi)
theorem OL.keep {b : Addr} (H : OL n0 h L) (K : Keep h h' [b]) {i : Nat} {P' : Cell → Prop} (hi : L[i]? = some (b, PP)) {c : Cell} (hc : h'[b]? = some c) (hp : P' c) : OL n0 h' (L.set i (b, P')) := by
  have hmap : (L.set i (b, P')).map (·.1) = L.map (·.1) := by
    apply List.ext_getElem?
    intro j
    simp only [List.getElem?_map, List.getElem?_set]
    split
    · rename_i e; subst e; rw [if_pos (List.getElem?_eq_some_iff.mp hi).1, hi]; rfl
    · rfl
  refine ⟨by rw [hmap]; exact H.1, fun q hq => ?_⟩
  obtain ⟨j, hj⟩ := List.getElem?_of_mem hq
  rw [List.getElem?_set] at hj
  split at hj
  · split at hj
    · cases hj; exact ⟨(H.get hi).1, c, hc, hp⟩
    · cases hj
  · rename_i e
    obtain ⟨d, PD⟩ := q
    obtain ⟨h1, c1, h2, h3⟩ := H.get hj
    exact ⟨h1, c1, K.2.1 d c1 h2 (ninS (H.ne hj hi (fun r => e r.symm)) nin0), h3⟩
theorem o_checkcast (X : OW p l e R s m args below meth c Z y bytes mx ret n0 T h k n) (H : OL n0 h L) (i : Nat) (hi : L[i]? = some (a, OA Z ty vs)) {ix : Nat} (hd : decode bytes pc = .ok (.checkcast ix, 3)) {C : String} (hC : "[" ++ ty.toString = C) (w : (Cond.classLink y.cls ix C).before a0 Z = true) (pc' : Nat) (hp : pc + 3 = pc')
    (K : ∀ T', OW p l e R s m args below meth c Z y bytes mx ret n0 T' h k n → OE p e R below s n0 Q T' (mkF m pc' Ls (.ref a :: st))) : OE p e R below s n0 Q T (mkF m pc Ls (.ref a :: st)) := by
  obtain ⟨hx, hZ, hown, hby, hmx, hret, hnm, hlk, hn0, hT, locs, S, N0⟩ := X; subst hp hC
  obtain ⟨h1, cell, h2, A⟩ := H.get hi
  obtain ⟨T', S', hT', stp⟩ := castY S hx hZ hown w hT (Ins.self (A.exa h2)) (g := mkF m pc Ls (.ref a :: st)) rfl rfl (hb hby hd)
  exact OE.by stp (K T' ⟨hx, hZ, hown, hby, hmx, hret, hnm, hlk, hn0, hT', locs, S', N0⟩)
theorem o_clone (X : OW p l e R s m args below meth c Z y bytes mx ret n0 T h k n) (H : OL n0 h L) (i : Nat) (hi : L[i]? = some (a, OA Z ty vs)) {ix : Nat} (hd : decode bytes pc = .ok (.invokevirtual ix, 3)) {ad : String} (hC : "[" ++ ty.toString = ad) (w1 : (Cond.methodLink y.cls ix ⟨ad, "clone", "()Ljava/lang/Object;"⟩).before a0 Z = true) (w2 : (Cond.sameMethod ad "java/lang/Object" "clone" "()Ljava/lang/Object;").before a0 Z = true) (w3 : (Cond.native ⟨"java/lang/Object", "clone", "()Ljava/lang/Object;"⟩).before a0 Z = true)
    (w4 : (Cond.instanceMethod ⟨"java/lang/Object", "clone", "()Ljava/lang/Object;"⟩).before a0 Z = true) (w5 : (Cond.selects ad ⟨ad, "clone", "()Ljava/lang/Object;"⟩ ⟨"java/lang/Object", "clone", "()Ljava/lang/Object;"⟩).before a0 Z = true) (w6 : (Cond.castable ad "java/lang/Cloneable").before a0 Z = true) (hlen : vs.length < 2 ^ 31) (cap : Nat) (hcap : vs.length ≤ cap) (hls : Ls.size = mx) (hf : 1 ≤ R.frames) (Wd : Nat) (hW : (st.map fun v => v.category).sum ≤ Wd) (hlo : Wd + 14 ≤ R.locals) (k2 n2 : Nat) (hk2 : k + 1 = k2) (hn2 : n + cap = n2) (hc : k2 ≤ R.cells) (hsl : n2 ≤ R.slots) (pc' : Nat) (hp : pc + 3 = pc')
    (K : ∀ T' h' b, OW p l e R s m args below meth c Z y bytes mx ret n0 T' h' k2 n2 → OL n0 h' ((b, OA Z ty vs) :: L) → OE p e R below s n0 Q T' (mkF m pc' Ls (.ref b :: st))) : OE p e R below s n0 Q T (mkF m pc Ls (.ref a :: st)) := by
  have h0 := X.size
  obtain ⟨hx, hZ, hown, hby, hmx, hret, hnm, hlk, hn0, hT, locs, S, N0⟩ := X; subst hp hk2 hn2 hC
  obtain ⟨h1, cell, h2, A⟩ := H.get hi
  obtain ⟨c1, A1, q1, q2, q3, H1, G1⟩ := A.arv h2 hlen
  have F : Arh Z h a cell.cls ty (Int32.ofNat vs.length) [] (vs.map Value.int) (.int 0) := ⟨c1, A1, q1, q2, q3, H1, G1⟩
  obtain ⟨T', h', S', hT', E, F', EX, stp⟩ := cloneH S hx hZ hown w1 w2 w3 w4 w5 w6 hT F (A.exa h2) (g := mkF m pc Ls (.ref a :: st)) rfl (by rw [hmx]; exact hls) rfl (hb hby hd) hf (W := Wd) (cap := cap) (by show 2 * 0 + _ ≤ _; omega) hlo (by rw [(o_ofNat hlen).2.1]; exact hcap) hc hsl
  obtain ⟨c2, A2, r1, r2, r3, H2, G2⟩ := F'
  obtain ⟨c3, e1, e2⟩ := OA.of_arv (vs := vs) (k := cell.cls) ⟨c2, A2, r1, r2, r3, H2, G2⟩ (o_ofNat hlen).2.1 A.2.2.2.2
  exact OE.by stp (K T' h' h.size ⟨hx, hZ, hown, hby, hmx, hret, hnm, hlk, hn0, hT', locs, S', N0⟩ (H.push E h0 e1 e2))
theorem o_us (vs : List Int32) (sp nn : Nat) (h : sp + nn ≤ vs.length) : ((vs.drop sp).take nn).map Value.int = (List.range nn).map fun i => (vs.map Value.int).getD (sp + i) (.int 0) := by
  apply List.ext_getElem?
  intro i
  by_cases hi : i < nn
  · simp only [List.getElem?_map, List.getElem?_take_of_lt hi, List.getElem?_drop, List.getElem?_range hi]
    rw [List.getElem?_eq_getElem (show sp + i < vs.length by omega)]
    simp only [Option.map_some]; rw [o_getD vs (sp + i) (by omega)]
  · rw [List.getElem?_eq_none (by simp; omega), List.getElem?_eq_none (by simp; omega)]
theorem o_arraycopy (X : OW p l e R s m args below meth c Z y bytes mx ret n0 T h k n) (H : OL n0 h L) (i j : Nat) {b : Addr} {vd : List Int32} (hi : L[i]? = some (a, OA Z ty vs)) (hj : L[j]? = some (b, OA Z ty vd)) {ix : Nat} (hd : decode bytes pc = .ok (.invokestatic ix, 3)) (w1 : (Cond.methodLink y.cls ix Jvm.Stand.acN).before a0 Z = true) (w2 : (Cond.native Jvm.Stand.acN).before a0 Z = true) (w3 : (Cond.static Jvm.Stand.acN).before a0 Z = true) (w4 : (Cond.initialized "java/lang/System").before a0 Z = true) (hrk : refKind ty = false) (hl1 : vs.length < 2 ^ 31) (hl2 : vd.length < 2 ^ 31)
    {sp dp nn : Int32} (spn dpn nnn : Nat) (e1 : sp.toInt = spn) (e2 : dp.toInt = dpn) (e3 : nn.toInt = nnn) (h4 : spn + nnn ≤ vs.length) (h5 : dpn + nnn ≤ vd.length) (hls : Ls.size = mx) (hf : 1 ≤ R.frames) (Wd : Nat) (hW : (st.map fun v => v.category).sum ≤ Wd) (hlo : Wd + (nativeFrameWords "java/lang/System" "arraycopy" 5 + 11) ≤ R.locals) (pc' : Nat) (hp : pc + 3 = pc')
    (K : ∀ T' h', OW p l e R s m args below meth c Z y bytes mx ret n0 T' h' k n → OL n0 h' (L.set j (b, OA Z ty (vd.take dpn ++ (vs.drop spn).take nnn ++ vd.drop (dpn + nnn)))) → OE p e R below s n0 Q T' (mkF m pc' Ls st)) : OE p e R below s n0 Q T (mkF m pc Ls (.int nn :: .int dp :: .ref b :: .int sp :: .ref a :: st)) := by
  obtain ⟨hx, hZ, hown, hby, hmx, hret, hnm, hlk, hn0, hT, locs, S, N0⟩ := X; subst hp
  obtain ⟨h1, ca, h2, A⟩ := H.get hi
  obtain ⟨g1, cb, g2, B⟩ := H.get hj
  have f : ∀ {x : Int32} {N : Nat}, x.toInt = N → ¬ x < 0 ∧ x.toNatClampNeg = N := fun {x N} q => ⟨by rw [Int32.lt_iff_toInt_lt, q, show (0 : Int32).toInt = 0 from rfl]; omega, by simp only [Int32.toNatClampNeg, q]; rfl⟩
  obtain ⟨a1, a2⟩ := f e1
  obtain ⟨b1, b2⟩ := f e2
  obtain ⟨c1, c2⟩ := f e3
  obtain ⟨T', h', LL, S', hT', N', KK, V, stp⟩ := cpA S hx hZ hown w1 w2 w3 w4 hT (A.arv h2 hl1) (B.arv g2 hl2) (Or.inl ⟨rfl, hrk⟩) a1 b1 c1 (by rw [a2, c2, (o_ofNat hl1).2.1]; exact h4) (by rw [b2, c2, (o_ofNat hl2).2.1]; exact h5) (us := ((vs.drop spn).take nnn).map Value.int) (by rw [a2, c2]; exact o_us vs spn nnn h4) (by rw [b2, c2, List.length_map]; exact h5) N0 g1 (g := mkF m pc Ls (.int nn :: .int dp :: .ref b :: .int sp :: .ref a :: st)) rfl (by rw [hmx]; exact hls) rfl (hb hby hd) hf (W := Wd) (by show 2 * 0 + _ ≤ _; omega) hlo
  rw [b2, c2, ← List.map_take, ← List.map_drop, ← List.map_append, ← List.map_append] at V
  obtain ⟨c3, r1, r2⟩ := OA.of_arv V (by rw [(o_ofNat hl2).2.1]; simp; omega) B.2.2.2.2
  exact OE.by stp (K T' h' ⟨hx, hZ, hown, hby, hmx, hret, hnm, hlk, hn0, hT', _, S', N'⟩ (H.keep KK hj r1 r2))
end OwnKit
theorem d1_0 : decode method_3_code 0 = .ok (.iload_n 1, 1) := by decide +kernel
theorem d1_1 : decode method_3_code 1 = .ok (.newarray .boolean, 2) := by decide +kernel
theorem d1_3 : decode method_3_code 3 = .ok (.astore_n 2, 1) := by decide +kernel
theorem d1_4 : decode method_3_code 4 = .ok (.iload_n 1, 1) := by decide +kernel
theorem d1_5 : decode method_3_code 5 = .ok (.ifCond .le 11, 3) := by decide +kernel
theorem d1_8 : decode method_3_code 8 = .ok (.aload_n 2, 1) := by decide +kernel
theorem d1_9 : decode method_3_code 9 = .ok (.iconst 0, 1) := by decide +kernel
theorem d1_10 : decode method_3_code 10 = .ok (.iload_n 0, 1) := by decide +kernel
theorem d1_11 : decode method_3_code 11 = .ok (.iconst 0, 1) := by decide +kernel
theorem d1_12 : decode method_3_code 12 = .ok (.invokestatic 7, 3) := by decide +kernel
theorem d1_15 : decode method_3_code 15 = .ok (.bastore, 1) := by decide +kernel
theorem d1_16 : decode method_3_code 16 = .ok (.iload_n 1, 1) := by decide +kernel
theorem d1_17 : decode method_3_code 17 = .ok (.iconst 1, 1) := by decide +kernel
theorem d1_18 : decode method_3_code 18 = .ok (.if_icmp .le 11, 3) := by decide +kernel
theorem d1_21 : decode method_3_code 21 = .ok (.aload_n 2, 1) := by decide +kernel
theorem d1_22 : decode method_3_code 22 = .ok (.iconst 1, 1) := by decide +kernel
theorem d1_23 : decode method_3_code 23 = .ok (.iload_n 0, 1) := by decide +kernel
theorem d1_24 : decode method_3_code 24 = .ok (.iconst 1, 1) := by decide +kernel
theorem d1_25 : decode method_3_code 25 = .ok (.invokestatic 7, 3) := by decide +kernel
theorem d1_28 : decode method_3_code 28 = .ok (.bastore, 1) := by decide +kernel
theorem d1_29 : decode method_3_code 29 = .ok (.iload_n 1, 1) := by decide +kernel
theorem d1_30 : decode method_3_code 30 = .ok (.iconst 2, 1) := by decide +kernel
theorem d1_31 : decode method_3_code 31 = .ok (.if_icmp .le 11, 3) := by decide +kernel
theorem d1_34 : decode method_3_code 34 = .ok (.aload_n 2, 1) := by decide +kernel
theorem d1_35 : decode method_3_code 35 = .ok (.iconst 2, 1) := by decide +kernel
theorem d1_36 : decode method_3_code 36 = .ok (.iload_n 0, 1) := by decide +kernel
theorem d1_37 : decode method_3_code 37 = .ok (.iconst 2, 1) := by decide +kernel
theorem d1_38 : decode method_3_code 38 = .ok (.invokestatic 7, 3) := by decide +kernel
theorem d1_41 : decode method_3_code 41 = .ok (.bastore, 1) := by decide +kernel
theorem d1_42 : decode method_3_code 42 = .ok (.iload_n 1, 1) := by decide +kernel
theorem d1_43 : decode method_3_code 43 = .ok (.iconst 3, 1) := by decide +kernel
theorem d1_44 : decode method_3_code 44 = .ok (.if_icmp .le 11, 3) := by decide +kernel
theorem d1_47 : decode method_3_code 47 = .ok (.aload_n 2, 1) := by decide +kernel
theorem d1_48 : decode method_3_code 48 = .ok (.iconst 3, 1) := by decide +kernel
theorem d1_49 : decode method_3_code 49 = .ok (.iload_n 0, 1) := by decide +kernel
theorem d1_50 : decode method_3_code 50 = .ok (.iconst 3, 1) := by decide +kernel
theorem d1_51 : decode method_3_code 51 = .ok (.invokestatic 7, 3) := by decide +kernel
theorem d1_54 : decode method_3_code 54 = .ok (.bastore, 1) := by decide +kernel
theorem d1_55 : decode method_3_code 55 = .ok (.iload_n 1, 1) := by decide +kernel
theorem d1_56 : decode method_3_code 56 = .ok (.iconst 4, 1) := by decide +kernel
theorem d1_57 : decode method_3_code 57 = .ok (.if_icmp .le 11, 3) := by decide +kernel
theorem d1_60 : decode method_3_code 60 = .ok (.aload_n 2, 1) := by decide +kernel
theorem d1_61 : decode method_3_code 61 = .ok (.iconst 4, 1) := by decide +kernel
theorem d1_62 : decode method_3_code 62 = .ok (.iload_n 0, 1) := by decide +kernel
theorem d1_63 : decode method_3_code 63 = .ok (.iconst 4, 1) := by decide +kernel
theorem d1_64 : decode method_3_code 64 = .ok (.invokestatic 7, 3) := by decide +kernel
theorem d1_67 : decode method_3_code 67 = .ok (.bastore, 1) := by decide +kernel
theorem d1_68 : decode method_3_code 68 = .ok (.iload_n 1, 1) := by decide +kernel
theorem d1_69 : decode method_3_code 69 = .ok (.iconst 5, 1) := by decide +kernel
theorem d1_70 : decode method_3_code 70 = .ok (.if_icmp .le 11, 3) := by decide +kernel
theorem d1_73 : decode method_3_code 73 = .ok (.aload_n 2, 1) := by decide +kernel
theorem d1_74 : decode method_3_code 74 = .ok (.iconst 5, 1) := by decide +kernel
theorem d1_75 : decode method_3_code 75 = .ok (.iload_n 0, 1) := by decide +kernel
theorem d1_76 : decode method_3_code 76 = .ok (.iconst 5, 1) := by decide +kernel
theorem d1_77 : decode method_3_code 77 = .ok (.invokestatic 7, 3) := by decide +kernel
theorem d1_80 : decode method_3_code 80 = .ok (.bastore, 1) := by decide +kernel
theorem d1_81 : decode method_3_code 81 = .ok (.iload_n 1, 1) := by decide +kernel
theorem d1_82 : decode method_3_code 82 = .ok (.bipush 6, 2) := by decide +kernel
theorem d1_84 : decode method_3_code 84 = .ok (.if_icmp .le 13, 3) := by decide +kernel
theorem d1_87 : decode method_3_code 87 = .ok (.aload_n 2, 1) := by decide +kernel
theorem d1_88 : decode method_3_code 88 = .ok (.bipush 6, 2) := by decide +kernel
theorem d1_90 : decode method_3_code 90 = .ok (.iload_n 0, 1) := by decide +kernel
theorem d1_91 : decode method_3_code 91 = .ok (.bipush 6, 2) := by decide +kernel
theorem d1_93 : decode method_3_code 93 = .ok (.invokestatic 7, 3) := by decide +kernel
theorem d1_96 : decode method_3_code 96 = .ok (.bastore, 1) := by decide +kernel
theorem d1_97 : decode method_3_code 97 = .ok (.aload_n 2, 1) := by decide +kernel
theorem d1_98 : decode method_3_code 98 = .ok (.areturn, 1) := by decide +kernel
theorem d2_0 : decode prog_27_method_4_code 0 = .ok (.aload_n 1, 1) := by decide +kernel
theorem d2_1 : decode prog_27_method_4_code 1 = .ok (.invokevirtual 111, 3) := by decide +kernel
theorem d2_4 : decode prog_27_method_4_code 4 = .ok (.checkcast 112, 3) := by decide +kernel
theorem d2_7 : decode prog_27_method_4_code 7 = .ok (.astore_n 2, 1) := by decide +kernel
theorem d2_8 : decode prog_27_method_4_code 8 = .ok (.aload_n 0, 1) := by decide +kernel
theorem d2_9 : decode prog_27_method_4_code 9 = .ok (.iconst 0, 1) := by decide +kernel
theorem d2_10 : decode prog_27_method_4_code 10 = .ok (.aload_n 2, 1) := by decide +kernel
theorem d2_11 : decode prog_27_method_4_code 11 = .ok (.iconst 0, 1) := by decide +kernel
theorem d2_12 : decode prog_27_method_4_code 12 = .ok (.aload_n 0, 1) := by decide +kernel
theorem d2_13 : decode prog_27_method_4_code 13 = .ok (.arraylength, 1) := by decide +kernel
theorem d2_14 : decode prog_27_method_4_code 14 = .ok (.iconst 2, 1) := by decide +kernel
theorem d2_15 : decode prog_27_method_4_code 15 = .ok (.idiv, 1) := by decide +kernel
theorem d2_16 : decode prog_27_method_4_code 16 = .ok (.invokestatic 115, 3) := by decide +kernel
theorem d2_19 : decode prog_27_method_4_code 19 = .ok (.aload_n 2, 1) := by decide +kernel
theorem d2_20 : decode prog_27_method_4_code 20 = .ok (.areturn, 1) := by decide +kernel
theorem d3_0 : decode method_4_code 0 = .ok (.iload_n 1, 1) := by decide +kernel
theorem d3_1 : decode method_4_code 1 = .ok (.iload_n 2, 1) := by decide +kernel
theorem d3_2 : decode method_4_code 2 = .ok (.if_icmp .lt 5, 3) := by decide +kernel
theorem d3_5 : decode method_4_code 5 = .ok (.iconst 1, 1) := by decide +kernel
theorem d3_6 : decode method_4_code 6 = .ok (.ireturn, 1) := by decide +kernel
theorem d3_7 : decode method_4_code 7 = .ok (.iload_n 1, 1) := by decide +kernel
theorem d3_8 : decode method_4_code 8 = .ok (.iload_n 2, 1) := by decide +kernel
theorem d3_9 : decode method_4_code 9 = .ok (.iconst 2, 1) := by decide +kernel
theorem d3_10 : decode method_4_code 10 = .ok (.idiv, 1) := by decide +kernel
theorem d3_11 : decode method_4_code 11 = .ok (.if_icmp .ge 11, 3) := by decide +kernel
theorem d3_14 : decode method_4_code 14 = .ok (.iload_n 3, 1) := by decide +kernel
theorem d3_15 : decode method_4_code 15 = .ok (.iload_n 1, 1) := by decide +kernel
theorem d3_16 : decode method_4_code 16 = .ok (.invokestatic 7, 3) := by decide +kernel
theorem d3_19 : decode method_4_code 19 = .ok (.goto 9, 3) := by decide +kernel
theorem d3_22 : decode method_4_code 22 = .ok (.iload 4, 2) := by decide +kernel
theorem d3_24 : decode method_4_code 24 = .ok (.iload_n 1, 1) := by decide +kernel
theorem d3_25 : decode method_4_code 25 = .ok (.invokestatic 7, 3) := by decide +kernel
theorem d3_28 : decode method_4_code 28 = .ok (.istore 5, 2) := by decide +kernel
theorem d3_30 : decode method_4_code 30 = .ok (.aload_n 0, 1) := by decide +kernel
theorem d3_31 : decode method_4_code 31 = .ok (.iload_n 1, 1) := by decide +kernel
theorem d3_32 : decode method_4_code 32 = .ok (.baload, 1) := by decide +kernel
theorem d3_33 : decode method_4_code 33 = .ok (.iload 5, 2) := by decide +kernel
theorem d3_35 : decode method_4_code 35 = .ok (.if_icmp .ne 7, 3) := by decide +kernel
theorem d3_38 : decode method_4_code 38 = .ok (.iconst 1, 1) := by decide +kernel
theorem d3_39 : decode method_4_code 39 = .ok (.goto 4, 3) := by decide +kernel
theorem d3_42 : decode method_4_code 42 = .ok (.iconst 0, 1) := by decide +kernel
theorem d3_43 : decode method_4_code 43 = .ok (.ireturn, 1) := by decide +kernel
theorem d4_0 : decode method_6_code 0 = .ok (.aload_n 0, 1) := by decide +kernel
theorem d4_1 : decode method_6_code 1 = .ok (.iconst 0, 1) := by decide +kernel
theorem d4_2 : decode method_6_code 2 = .ok (.iload_n 1, 1) := by decide +kernel
theorem d4_3 : decode method_6_code 3 = .ok (.iload_n 2, 1) := by decide +kernel
theorem d4_4 : decode method_6_code 4 = .ok (.invokestatic 13, 3) := by decide +kernel
theorem d4_7 : decode method_6_code 7 = .ok (.ifCond .eq 68, 3) := by decide +kernel
theorem d4_10 : decode method_6_code 10 = .ok (.aload_n 0, 1) := by decide +kernel
theorem d4_11 : decode method_6_code 11 = .ok (.iconst 1, 1) := by decide +kernel
theorem d4_12 : decode method_6_code 12 = .ok (.iload_n 1, 1) := by decide +kernel
theorem d4_13 : decode method_6_code 13 = .ok (.iload_n 2, 1) := by decide +kernel
theorem d4_14 : decode method_6_code 14 = .ok (.invokestatic 13, 3) := by decide +kernel
theorem d4_17 : decode method_6_code 17 = .ok (.ifCond .eq 58, 3) := by decide +kernel
theorem d4_20 : decode method_6_code 20 = .ok (.aload_n 0, 1) := by decide +kernel
theorem d4_21 : decode method_6_code 21 = .ok (.iconst 2, 1) := by decide +kernel
theorem d4_22 : decode method_6_code 22 = .ok (.iload_n 1, 1) := by decide +kernel
theorem d4_23 : decode method_6_code 23 = .ok (.iload_n 2, 1) := by decide +kernel
theorem d4_24 : decode method_6_code 24 = .ok (.invokestatic 13, 3) := by decide +kernel
theorem d4_27 : decode method_6_code 27 = .ok (.ifCond .eq 48, 3) := by decide +kernel
theorem d4_30 : decode method_6_code 30 = .ok (.aload_n 0, 1) := by decide +kernel
theorem d4_31 : decode method_6_code 31 = .ok (.iconst 3, 1) := by decide +kernel
theorem d4_32 : decode method_6_code 32 = .ok (.iload_n 1, 1) := by decide +kernel
theorem d4_33 : decode method_6_code 33 = .ok (.iload_n 2, 1) := by decide +kernel
theorem d4_34 : decode method_6_code 34 = .ok (.invokestatic 13, 3) := by decide +kernel
theorem d4_37 : decode method_6_code 37 = .ok (.ifCond .eq 38, 3) := by decide +kernel
theorem d4_40 : decode method_6_code 40 = .ok (.aload_n 0, 1) := by decide +kernel
theorem d4_41 : decode method_6_code 41 = .ok (.iconst 4, 1) := by decide +kernel
theorem d4_42 : decode method_6_code 42 = .ok (.iload_n 1, 1) := by decide +kernel
theorem d4_43 : decode method_6_code 43 = .ok (.iload_n 2, 1) := by decide +kernel
theorem d4_44 : decode method_6_code 44 = .ok (.invokestatic 13, 3) := by decide +kernel
theorem d4_47 : decode method_6_code 47 = .ok (.ifCond .eq 28, 3) := by decide +kernel
theorem d4_50 : decode method_6_code 50 = .ok (.aload_n 0, 1) := by decide +kernel
theorem d4_51 : decode method_6_code 51 = .ok (.iconst 5, 1) := by decide +kernel
theorem d4_52 : decode method_6_code 52 = .ok (.iload_n 1, 1) := by decide +kernel
theorem d4_53 : decode method_6_code 53 = .ok (.iload_n 2, 1) := by decide +kernel
theorem d4_54 : decode method_6_code 54 = .ok (.invokestatic 13, 3) := by decide +kernel
theorem d4_57 : decode method_6_code 57 = .ok (.ifCond .eq 18, 3) := by decide +kernel
theorem d4_60 : decode method_6_code 60 = .ok (.aload_n 0, 1) := by decide +kernel
theorem d4_61 : decode method_6_code 61 = .ok (.bipush 6, 2) := by decide +kernel
theorem d4_63 : decode method_6_code 63 = .ok (.iload_n 1, 1) := by decide +kernel
theorem d4_64 : decode method_6_code 64 = .ok (.iload_n 2, 1) := by decide +kernel
theorem d4_65 : decode method_6_code 65 = .ok (.invokestatic 13, 3) := by decide +kernel
theorem d4_68 : decode method_6_code 68 = .ok (.ifCond .eq 7, 3) := by decide +kernel
theorem d4_71 : decode method_6_code 71 = .ok (.iconst 1, 1) := by decide +kernel
theorem d4_72 : decode method_6_code 72 = .ok (.goto 4, 3) := by decide +kernel
theorem d4_75 : decode method_6_code 75 = .ok (.iconst 0, 1) := by decide +kernel
theorem d4_76 : decode method_6_code 76 = .ok (.ireturn, 1) := by decide +kernel
theorem d5_0 : decode method_5_code 0 = .ok (.iload_n 1, 1) := by decide +kernel
theorem d5_1 : decode method_5_code 1 = .ok (.iload_n 2, 1) := by decide +kernel
theorem d5_2 : decode method_5_code 2 = .ok (.if_icmp .ge 14, 3) := by decide +kernel
theorem d5_5 : decode method_5_code 5 = .ok (.aload_n 0, 1) := by decide +kernel
theorem d5_6 : decode method_5_code 6 = .ok (.iload_n 1, 1) := by decide +kernel
theorem d5_7 : decode method_5_code 7 = .ok (.baload, 1) := by decide +kernel
theorem d5_8 : decode method_5_code 8 = .ok (.iload_n 3, 1) := by decide +kernel
theorem d5_9 : decode method_5_code 9 = .ok (.iload_n 1, 1) := by decide +kernel
theorem d5_10 : decode method_5_code 10 = .ok (.invokestatic 7, 3) := by decide +kernel
theorem d5_13 : decode method_5_code 13 = .ok (.if_icmp .ne 7, 3) := by decide +kernel
theorem d5_16 : decode method_5_code 16 = .ok (.iconst 1, 1) := by decide +kernel
theorem d5_17 : decode method_5_code 17 = .ok (.goto 4, 3) := by decide +kernel
theorem d5_20 : decode method_5_code 20 = .ok (.iconst 0, 1) := by decide +kernel
theorem d5_21 : decode method_5_code 21 = .ok (.ireturn, 1) := by decide +kernel
theorem d6_0 : decode method_2_code 0 = .ok (.iload_n 0, 1) := by decide +kernel
theorem d6_1 : decode method_2_code 1 = .ok (.iload_n 1, 1) := by decide +kernel
theorem d6_2 : decode method_2_code 2 = .ok (.ishr, 1) := by decide +kernel
theorem d6_3 : decode method_2_code 3 = .ok (.iconst 1, 1) := by decide +kernel
theorem d6_4 : decode method_2_code 4 = .ok (.iand, 1) := by decide +kernel
theorem d6_5 : decode method_2_code 5 = .ok (.ifCond .eq 7, 3) := by decide +kernel
theorem d6_8 : decode method_2_code 8 = .ok (.iconst 1, 1) := by decide +kernel
theorem d6_9 : decode method_2_code 9 = .ok (.goto 4, 3) := by decide +kernel
theorem d6_12 : decode method_2_code 12 = .ok (.iconst 0, 1) := by decide +kernel
theorem d6_13 : decode method_2_code 13 = .ok (.ireturn, 1) := by decide +kernel
theorem pn_0 : plainName "com/example/eratosthenes/eratosthenes/tune/GeneticSearchHalvesPinLaw" = true := by first | (simp [plainName, overriddenIn]; done) | decide +kernel
theorem pn_1 : plainName "com/example/eratosthenes/eratosthenes/tune/GeneticSearch" = true := by first | (simp [plainName, overriddenIn]; done) | decide +kernel
theorem pd_1 : parseMethodDescriptor "(II)[Z" = some ⟨[.int, .int], (some (.array .boolean))⟩ := by decide +kernel
theorem pd_2 : parseMethodDescriptor "([Z[Z)[Z" = some ⟨[(.array .boolean), (.array .boolean)], (some (.array .boolean))⟩ := by decide +kernel
theorem pd_3 : parseMethodDescriptor "([ZIIII)Z" = some ⟨[(.array .boolean), .int, .int, .int, .int], (some .boolean)⟩ := by decide +kernel
theorem pd_4 : parseMethodDescriptor "([ZII)Z" = some ⟨[(.array .boolean), .int, .int], (some .boolean)⟩ := by decide +kernel
theorem pd_5 : parseMethodDescriptor "([ZIII)Z" = some ⟨[(.array .boolean), .int, .int, .int], (some .boolean)⟩ := by decide +kernel
theorem pd_6 : parseMethodDescriptor "(II)Z" = some ⟨[.int, .int], (some .boolean)⟩ := by decide +kernel
def f_bit (v i : Int32) : Int32 := if (v >>> (i &&& 31)) &&& 1 = 0 then 0 else 1
theorem v_nar (v i : Int32) : nar .boolean (f_bit v i) = f_bit v i := by unfold f_bit; split <;> rfl
theorem v_n (x : Int32) : x &&& 7 = 0 ∨ x &&& 7 = 1 ∨ x &&& 7 = 2 ∨ x &&& 7 = 3 ∨ x &&& 7 = 4 ∨ x &&& 7 = 5 ∨ x &&& 7 = 6 ∨ x &&& 7 = 7 := by
  have := Jvm.Kit.i32_mask x 7 (k := 3) (by decide) (by decide)
  simp only [← Int32.toInt_inj, Int32.reduceToInt]; omega
set_option maxRecDepth 65536 in
set_option maxHeartbeats 40000000 in
theorem c_bit (l : Launch) (Z : State) (a0 : Array Value) (hw : ∀ d ∈ tables_1, d.before a0 Z = true) (ws : List Jvm.Cond) (n0 : Nat) (h0 : Heap) (hn0 : n0 ≤ h0.size) (xv : Int32) (xi : Int32) :
    OC l Z (⟨"com/example/eratosthenes/eratosthenes/tune/GeneticSearchHalvesPinLaw", "bit", "(II)Z"⟩ : MethodName) method_2_code 2 (some .boolean) ws ({ frames := 0, cells := 0, slots := 0, locals := 0 } : Room) n0 #[(.int xv), (.int xi)] h0 (fun r h => r = some (.int (f_bit xv xi)) ∧ h0 = h) := by
  refine OC.of pn_0 hn0 #[.val (.int xv), .val (.int xi)] (fun m => by first | (simp [entryFrame, mkF, argsToLocals, Value.category, maxLocals]; done) | rfl) ?_
  intro p e s m below meth cd0 T0 X0 Q' hQ
  refine o_iloadN X0 d6_0 rfl 1 rfl ?_
  refine o_iloadN X0 d6_1 rfl 2 rfl ?_
  refine o_ishr X0 d6_2 3 rfl ?_
  refine o_iconst (v := (1 : Int32)) X0 d6_3 rfl 4 rfl ?_
  refine o_iand X0 d6_4 5 rfl ?_
  refine o_ifEq X0 d6_5 12 8 (by decide) (by decide) rfl ?_ ?_
  · intro hc5
    refine o_iconst (v := (0 : Int32)) X0 d6_12 rfl 13 rfl ?_
    exact o_retZ X0 d6_13 (by decide) (by decide) (hQ _ _ ⟨by show some (Value.int (0 : Int32)) = some (Value.int (f_bit xv xi)); simp [f_bit, hc5], rfl⟩)
  · intro hc5
    refine o_iconst (v := (1 : Int32)) X0 d6_8 rfl 9 rfl ?_
    refine o_goto X0 d6_9 13 (by decide) (by decide) ?_
    exact o_retZ X0 d6_13 (by decide) (by decide) (hQ _ _ ⟨by show some (Value.int (1 : Int32)) = some (Value.int (f_bit xv xi)); simp [f_bit, hc5], rfl⟩)
set_option maxRecDepth 65536 in
set_option maxHeartbeats 40000000 in
theorem c_kept_0_0 (l : Launch) (Z : State) (a0 : Array Value) (hw : ∀ d ∈ tables_1, d.before a0 Z = true) (ws : List Jvm.Cond) (n0 : Nat) (h0 : Heap) (hn0 : n0 ≤ h0.size) (xa : Addr) (xv : Int32) (L' : List (Addr × (Cell → Prop))) (H0 : OL n0 h0 ((xa, OA Z .boolean []) :: L')) :
    OC l Z (⟨"com/example/eratosthenes/eratosthenes/tune/GeneticSearchHalvesPinLaw", "kept", "([ZIII)Z"⟩ : MethodName) method_5_code 4 (some .boolean) ws ({ frames := 1, cells := 0, slots := 0, locals := 14 } : Room) n0 #[(.ref xa), (.int (0 : Int32)), (.int (0 : Int32)), (.int xv)] h0 (fun r h => r = some (.int 1) ∧ h0 = h) := by
  refine OC.of pn_0 hn0 #[.val (.ref xa), .val (.int (0 : Int32)), .val (.int (0 : Int32)), .val (.int xv)] (fun m => by first | (simp [entryFrame, mkF, argsToLocals, Value.category, maxLocals]; done) | rfl) ?_
  intro p e s m below meth cd0 T0 X0 Q' hQ
  refine o_iloadN X0 d5_0 rfl 1 rfl ?_
  refine o_iloadN X0 d5_1 rfl 2 rfl ?_
  refine o_icmpGe X0 d5_2 16 5 (by decide) (by decide) rfl ?_ (fun q => by exfalso; exact absurd q (by decide))
  intro hc2
  refine o_iconst (v := (1 : Int32)) X0 d5_16 rfl 17 rfl ?_
  refine o_goto X0 d5_17 21 (by decide) (by decide) ?_
  exact o_retZ X0 d5_21 (by decide) (by decide) (hQ _ _ ⟨rfl, rfl⟩)
set_option maxRecDepth 65536 in
set_option maxHeartbeats 40000000 in
theorem c_at_0_0 (l : Launch) (Z : State) (a0 : Array Value) (hw : ∀ d ∈ tables_1, d.before a0 Z = true) (ws : List Jvm.Cond) (n0 : Nat) (h0 : Heap) (hn0 : n0 ≤ h0.size) (xa : Addr) (xx xy : Int32) (L' : List (Addr × (Cell → Prop))) (H0 : OL n0 h0 ((xa, OA Z .boolean []) :: L')) :
    OC l Z (⟨"com/example/eratosthenes/eratosthenes/tune/GeneticSearchHalvesPinLaw", "at", "([ZIIII)Z"⟩ : MethodName) method_4_code 6 (some .boolean) ws ({ frames := 1, cells := 0, slots := 0, locals := 14 } : Room) n0 #[(.ref xa), (.int (0 : Int32)), (.int (0 : Int32)), (.int xx), (.int xy)] h0 (fun r h => r = some (.int 1) ∧ h0 = h) := by
  refine OC.of pn_0 hn0 #[.val (.ref xa), .val (.int (0 : Int32)), .val (.int (0 : Int32)), .val (.int xx), .val (.int xy), .unset] (fun m => by first | (simp [entryFrame, mkF, argsToLocals, Value.category, maxLocals]; done) | rfl) ?_
  intro p e s m below meth cd0 T0 X0 Q' hQ
  refine o_iloadN X0 d3_0 rfl 1 rfl ?_
  refine o_iloadN X0 d3_1 rfl 2 rfl ?_
  refine o_icmpLt X0 d3_2 7 5 (by decide) (by decide) rfl (fun q => by exfalso; exact absurd q (by decide)) ?_
  intro hc2
  refine o_iconst (v := (1 : Int32)) X0 d3_5 rfl 6 rfl ?_
  exact o_retZ X0 d3_6 (by decide) (by decide) (hQ _ _ ⟨rfl, rfl⟩)
set_option maxRecDepth 65536 in
set_option maxHeartbeats 40000000 in
theorem c_kept_0_1 (l : Launch) (Z : State) (a0 : Array Value) (hw : ∀ d ∈ tables_1, d.before a0 Z = true) (ws : List Jvm.Cond) (n0 : Nat) (h0 : Heap) (hn0 : n0 ≤ h0.size) (xa : Addr) (xv : Int32) (L' : List (Addr × (Cell → Prop))) (H0 : OL n0 h0 ((xa, OA Z .boolean []) :: L')) :
    OC l Z (⟨"com/example/eratosthenes/eratosthenes/tune/GeneticSearchHalvesPinLaw", "kept", "([ZIII)Z"⟩ : MethodName) method_5_code 4 (some .boolean) ws ({ frames := 1, cells := 0, slots := 0, locals := 14 } : Room) n0 #[(.ref xa), (.int (1 : Int32)), (.int (0 : Int32)), (.int xv)] h0 (fun r h => r = some (.int 1) ∧ h0 = h) := by
  refine OC.of pn_0 hn0 #[.val (.ref xa), .val (.int (1 : Int32)), .val (.int (0 : Int32)), .val (.int xv)] (fun m => by first | (simp [entryFrame, mkF, argsToLocals, Value.category, maxLocals]; done) | rfl) ?_
  intro p e s m below meth cd0 T0 X0 Q' hQ
  refine o_iloadN X0 d5_0 rfl 1 rfl ?_
  refine o_iloadN X0 d5_1 rfl 2 rfl ?_
  refine o_icmpGe X0 d5_2 16 5 (by decide) (by decide) rfl ?_ (fun q => by exfalso; exact absurd q (by decide))
  intro hc2
  refine o_iconst (v := (1 : Int32)) X0 d5_16 rfl 17 rfl ?_
  refine o_goto X0 d5_17 21 (by decide) (by decide) ?_
  exact o_retZ X0 d5_21 (by decide) (by decide) (hQ _ _ ⟨rfl, rfl⟩)
set_option maxRecDepth 65536 in
set_option maxHeartbeats 40000000 in
theorem c_at_0_1 (l : Launch) (Z : State) (a0 : Array Value) (hw : ∀ d ∈ tables_1, d.before a0 Z = true) (ws : List Jvm.Cond) (n0 : Nat) (h0 : Heap) (hn0 : n0 ≤ h0.size) (xa : Addr) (xx xy : Int32) (L' : List (Addr × (Cell → Prop))) (H0 : OL n0 h0 ((xa, OA Z .boolean []) :: L')) :
    OC l Z (⟨"com/example/eratosthenes/eratosthenes/tune/GeneticSearchHalvesPinLaw", "at", "([ZIIII)Z"⟩ : MethodName) method_4_code 6 (some .boolean) ws ({ frames := 1, cells := 0, slots := 0, locals := 14 } : Room) n0 #[(.ref xa), (.int (1 : Int32)), (.int (0 : Int32)), (.int xx), (.int xy)] h0 (fun r h => r = some (.int 1) ∧ h0 = h) := by
  refine OC.of pn_0 hn0 #[.val (.ref xa), .val (.int (1 : Int32)), .val (.int (0 : Int32)), .val (.int xx), .val (.int xy), .unset] (fun m => by first | (simp [entryFrame, mkF, argsToLocals, Value.category, maxLocals]; done) | rfl) ?_
  intro p e s m below meth cd0 T0 X0 Q' hQ
  refine o_iloadN X0 d3_0 rfl 1 rfl ?_
  refine o_iloadN X0 d3_1 rfl 2 rfl ?_
  refine o_icmpLt X0 d3_2 7 5 (by decide) (by decide) rfl (fun q => by exfalso; exact absurd q (by decide)) ?_
  intro hc2
  refine o_iconst (v := (1 : Int32)) X0 d3_5 rfl 6 rfl ?_
  exact o_retZ X0 d3_6 (by decide) (by decide) (hQ _ _ ⟨rfl, rfl⟩)
set_option maxRecDepth 65536 in
set_option maxHeartbeats 40000000 in
theorem c_kept_0_2 (l : Launch) (Z : State) (a0 : Array Value) (hw : ∀ d ∈ tables_1, d.before a0 Z = true) (ws : List Jvm.Cond) (n0 : Nat) (h0 : Heap) (hn0 : n0 ≤ h0.size) (xa : Addr) (xv : Int32) (L' : List (Addr × (Cell → Prop))) (H0 : OL n0 h0 ((xa, OA Z .boolean []) :: L')) :
    OC l Z (⟨"com/example/eratosthenes/eratosthenes/tune/GeneticSearchHalvesPinLaw", "kept", "([ZIII)Z"⟩ : MethodName) method_5_code 4 (some .boolean) ws ({ frames := 1, cells := 0, slots := 0, locals := 14 } : Room) n0 #[(.ref xa), (.int (2 : Int32)), (.int (0 : Int32)), (.int xv)] h0 (fun r h => r = some (.int 1) ∧ h0 = h) := by
  refine OC.of pn_0 hn0 #[.val (.ref xa), .val (.int (2 : Int32)), .val (.int (0 : Int32)), .val (.int xv)] (fun m => by first | (simp [entryFrame, mkF, argsToLocals, Value.category, maxLocals]; done) | rfl) ?_
  intro p e s m below meth cd0 T0 X0 Q' hQ
  refine o_iloadN X0 d5_0 rfl 1 rfl ?_
  refine o_iloadN X0 d5_1 rfl 2 rfl ?_
  refine o_icmpGe X0 d5_2 16 5 (by decide) (by decide) rfl ?_ (fun q => by exfalso; exact absurd q (by decide))
  intro hc2
  refine o_iconst (v := (1 : Int32)) X0 d5_16 rfl 17 rfl ?_
  refine o_goto X0 d5_17 21 (by decide) (by decide) ?_
  exact o_retZ X0 d5_21 (by decide) (by decide) (hQ _ _ ⟨rfl, rfl⟩)
set_option maxRecDepth 65536 in
set_option maxHeartbeats 40000000 in
theorem c_at_0_2 (l : Launch) (Z : State) (a0 : Array Value) (hw : ∀ d ∈ tables_1, d.before a0 Z = true) (ws : List Jvm.Cond) (n0 : Nat) (h0 : Heap) (hn0 : n0 ≤ h0.size) (xa : Addr) (xx xy : Int32) (L' : List (Addr × (Cell → Prop))) (H0 : OL n0 h0 ((xa, OA Z .boolean []) :: L')) :
    OC l Z (⟨"com/example/eratosthenes/eratosthenes/tune/GeneticSearchHalvesPinLaw", "at", "([ZIIII)Z"⟩ : MethodName) method_4_code 6 (some .boolean) ws ({ frames := 1, cells := 0, slots := 0, locals := 14 } : Room) n0 #[(.ref xa), (.int (2 : Int32)), (.int (0 : Int32)), (.int xx), (.int xy)] h0 (fun r h => r = some (.int 1) ∧ h0 = h) := by
  refine OC.of pn_0 hn0 #[.val (.ref xa), .val (.int (2 : Int32)), .val (.int (0 : Int32)), .val (.int xx), .val (.int xy), .unset] (fun m => by first | (simp [entryFrame, mkF, argsToLocals, Value.category, maxLocals]; done) | rfl) ?_
  intro p e s m below meth cd0 T0 X0 Q' hQ
  refine o_iloadN X0 d3_0 rfl 1 rfl ?_
  refine o_iloadN X0 d3_1 rfl 2 rfl ?_
  refine o_icmpLt X0 d3_2 7 5 (by decide) (by decide) rfl (fun q => by exfalso; exact absurd q (by decide)) ?_
  intro hc2
  refine o_iconst (v := (1 : Int32)) X0 d3_5 rfl 6 rfl ?_
  exact o_retZ X0 d3_6 (by decide) (by decide) (hQ _ _ ⟨rfl, rfl⟩)
set_option maxRecDepth 65536 in
set_option maxHeartbeats 40000000 in
theorem c_kept_0_3 (l : Launch) (Z : State) (a0 : Array Value) (hw : ∀ d ∈ tables_1, d.before a0 Z = true) (ws : List Jvm.Cond) (n0 : Nat) (h0 : Heap) (hn0 : n0 ≤ h0.size) (xa : Addr) (xv : Int32) (L' : List (Addr × (Cell → Prop))) (H0 : OL n0 h0 ((xa, OA Z .boolean []) :: L')) :
    OC l Z (⟨"com/example/eratosthenes/eratosthenes/tune/GeneticSearchHalvesPinLaw", "kept", "([ZIII)Z"⟩ : MethodName) method_5_code 4 (some .boolean) ws ({ frames := 1, cells := 0, slots := 0, locals := 14 } : Room) n0 #[(.ref xa), (.int (3 : Int32)), (.int (0 : Int32)), (.int xv)] h0 (fun r h => r = some (.int 1) ∧ h0 = h) := by
  refine OC.of pn_0 hn0 #[.val (.ref xa), .val (.int (3 : Int32)), .val (.int (0 : Int32)), .val (.int xv)] (fun m => by first | (simp [entryFrame, mkF, argsToLocals, Value.category, maxLocals]; done) | rfl) ?_
  intro p e s m below meth cd0 T0 X0 Q' hQ
  refine o_iloadN X0 d5_0 rfl 1 rfl ?_
  refine o_iloadN X0 d5_1 rfl 2 rfl ?_
  refine o_icmpGe X0 d5_2 16 5 (by decide) (by decide) rfl ?_ (fun q => by exfalso; exact absurd q (by decide))
  intro hc2
  refine o_iconst (v := (1 : Int32)) X0 d5_16 rfl 17 rfl ?_
  refine o_goto X0 d5_17 21 (by decide) (by decide) ?_
  exact o_retZ X0 d5_21 (by decide) (by decide) (hQ _ _ ⟨rfl, rfl⟩)
set_option maxRecDepth 65536 in
set_option maxHeartbeats 40000000 in
theorem c_at_0_3 (l : Launch) (Z : State) (a0 : Array Value) (hw : ∀ d ∈ tables_1, d.before a0 Z = true) (ws : List Jvm.Cond) (n0 : Nat) (h0 : Heap) (hn0 : n0 ≤ h0.size) (xa : Addr) (xx xy : Int32) (L' : List (Addr × (Cell → Prop))) (H0 : OL n0 h0 ((xa, OA Z .boolean []) :: L')) :
    OC l Z (⟨"com/example/eratosthenes/eratosthenes/tune/GeneticSearchHalvesPinLaw", "at", "([ZIIII)Z"⟩ : MethodName) method_4_code 6 (some .boolean) ws ({ frames := 1, cells := 0, slots := 0, locals := 14 } : Room) n0 #[(.ref xa), (.int (3 : Int32)), (.int (0 : Int32)), (.int xx), (.int xy)] h0 (fun r h => r = some (.int 1) ∧ h0 = h) := by
  refine OC.of pn_0 hn0 #[.val (.ref xa), .val (.int (3 : Int32)), .val (.int (0 : Int32)), .val (.int xx), .val (.int xy), .unset] (fun m => by first | (simp [entryFrame, mkF, argsToLocals, Value.category, maxLocals]; done) | rfl) ?_
  intro p e s m below meth cd0 T0 X0 Q' hQ
  refine o_iloadN X0 d3_0 rfl 1 rfl ?_
  refine o_iloadN X0 d3_1 rfl 2 rfl ?_
  refine o_icmpLt X0 d3_2 7 5 (by decide) (by decide) rfl (fun q => by exfalso; exact absurd q (by decide)) ?_
  intro hc2
  refine o_iconst (v := (1 : Int32)) X0 d3_5 rfl 6 rfl ?_
  exact o_retZ X0 d3_6 (by decide) (by decide) (hQ _ _ ⟨rfl, rfl⟩)
set_option maxRecDepth 65536 in
set_option maxHeartbeats 40000000 in
theorem c_kept_0_4 (l : Launch) (Z : State) (a0 : Array Value) (hw : ∀ d ∈ tables_1, d.before a0 Z = true) (ws : List Jvm.Cond) (n0 : Nat) (h0 : Heap) (hn0 : n0 ≤ h0.size) (xa : Addr) (xv : Int32) (L' : List (Addr × (Cell → Prop))) (H0 : OL n0 h0 ((xa, OA Z .boolean []) :: L')) :
    OC l Z (⟨"com/example/eratosthenes/eratosthenes/tune/GeneticSearchHalvesPinLaw", "kept", "([ZIII)Z"⟩ : MethodName) method_5_code 4 (some .boolean) ws ({ frames := 1, cells := 0, slots := 0, locals := 14 } : Room) n0 #[(.ref xa), (.int (4 : Int32)), (.int (0 : Int32)), (.int xv)] h0 (fun r h => r = some (.int 1) ∧ h0 = h) := by
  refine OC.of pn_0 hn0 #[.val (.ref xa), .val (.int (4 : Int32)), .val (.int (0 : Int32)), .val (.int xv)] (fun m => by first | (simp [entryFrame, mkF, argsToLocals, Value.category, maxLocals]; done) | rfl) ?_
  intro p e s m below meth cd0 T0 X0 Q' hQ
  refine o_iloadN X0 d5_0 rfl 1 rfl ?_
  refine o_iloadN X0 d5_1 rfl 2 rfl ?_
  refine o_icmpGe X0 d5_2 16 5 (by decide) (by decide) rfl ?_ (fun q => by exfalso; exact absurd q (by decide))
  intro hc2
  refine o_iconst (v := (1 : Int32)) X0 d5_16 rfl 17 rfl ?_
  refine o_goto X0 d5_17 21 (by decide) (by decide) ?_
  exact o_retZ X0 d5_21 (by decide) (by decide) (hQ _ _ ⟨rfl, rfl⟩)
set_option maxRecDepth 65536 in
set_option maxHeartbeats 40000000 in
theorem c_at_0_4 (l : Launch) (Z : State) (a0 : Array Value) (hw : ∀ d ∈ tables_1, d.before a0 Z = true) (ws : List Jvm.Cond) (n0 : Nat) (h0 : Heap) (hn0 : n0 ≤ h0.size) (xa : Addr) (xx xy : Int32) (L' : List (Addr × (Cell → Prop))) (H0 : OL n0 h0 ((xa, OA Z .boolean []) :: L')) :
    OC l Z (⟨"com/example/eratosthenes/eratosthenes/tune/GeneticSearchHalvesPinLaw", "at", "([ZIIII)Z"⟩ : MethodName) method_4_code 6 (some .boolean) ws ({ frames := 1, cells := 0, slots := 0, locals := 14 } : Room) n0 #[(.ref xa), (.int (4 : Int32)), (.int (0 : Int32)), (.int xx), (.int xy)] h0 (fun r h => r = some (.int 1) ∧ h0 = h) := by
  refine OC.of pn_0 hn0 #[.val (.ref xa), .val (.int (4 : Int32)), .val (.int (0 : Int32)), .val (.int xx), .val (.int xy), .unset] (fun m => by first | (simp [entryFrame, mkF, argsToLocals, Value.category, maxLocals]; done) | rfl) ?_
  intro p e s m below meth cd0 T0 X0 Q' hQ
  refine o_iloadN X0 d3_0 rfl 1 rfl ?_
  refine o_iloadN X0 d3_1 rfl 2 rfl ?_
  refine o_icmpLt X0 d3_2 7 5 (by decide) (by decide) rfl (fun q => by exfalso; exact absurd q (by decide)) ?_
  intro hc2
  refine o_iconst (v := (1 : Int32)) X0 d3_5 rfl 6 rfl ?_
  exact o_retZ X0 d3_6 (by decide) (by decide) (hQ _ _ ⟨rfl, rfl⟩)
set_option maxRecDepth 65536 in
set_option maxHeartbeats 40000000 in
theorem c_kept_0_5 (l : Launch) (Z : State) (a0 : Array Value) (hw : ∀ d ∈ tables_1, d.before a0 Z = true) (ws : List Jvm.Cond) (n0 : Nat) (h0 : Heap) (hn0 : n0 ≤ h0.size) (xa : Addr) (xv : Int32) (L' : List (Addr × (Cell → Prop))) (H0 : OL n0 h0 ((xa, OA Z .boolean []) :: L')) :
    OC l Z (⟨"com/example/eratosthenes/eratosthenes/tune/GeneticSearchHalvesPinLaw", "kept", "([ZIII)Z"⟩ : MethodName) method_5_code 4 (some .boolean) ws ({ frames := 1, cells := 0, slots := 0, locals := 14 } : Room) n0 #[(.ref xa), (.int (5 : Int32)), (.int (0 : Int32)), (.int xv)] h0 (fun r h => r = some (.int 1) ∧ h0 = h) := by
  refine OC.of pn_0 hn0 #[.val (.ref xa), .val (.int (5 : Int32)), .val (.int (0 : Int32)), .val (.int xv)] (fun m => by first | (simp [entryFrame, mkF, argsToLocals, Value.category, maxLocals]; done) | rfl) ?_
  intro p e s m below meth cd0 T0 X0 Q' hQ
  refine o_iloadN X0 d5_0 rfl 1 rfl ?_
  refine o_iloadN X0 d5_1 rfl 2 rfl ?_
  refine o_icmpGe X0 d5_2 16 5 (by decide) (by decide) rfl ?_ (fun q => by exfalso; exact absurd q (by decide))
  intro hc2
  refine o_iconst (v := (1 : Int32)) X0 d5_16 rfl 17 rfl ?_
  refine o_goto X0 d5_17 21 (by decide) (by decide) ?_
  exact o_retZ X0 d5_21 (by decide) (by decide) (hQ _ _ ⟨rfl, rfl⟩)
set_option maxRecDepth 65536 in
set_option maxHeartbeats 40000000 in
theorem c_at_0_5 (l : Launch) (Z : State) (a0 : Array Value) (hw : ∀ d ∈ tables_1, d.before a0 Z = true) (ws : List Jvm.Cond) (n0 : Nat) (h0 : Heap) (hn0 : n0 ≤ h0.size) (xa : Addr) (xx xy : Int32) (L' : List (Addr × (Cell → Prop))) (H0 : OL n0 h0 ((xa, OA Z .boolean []) :: L')) :
    OC l Z (⟨"com/example/eratosthenes/eratosthenes/tune/GeneticSearchHalvesPinLaw", "at", "([ZIIII)Z"⟩ : MethodName) method_4_code 6 (some .boolean) ws ({ frames := 1, cells := 0, slots := 0, locals := 14 } : Room) n0 #[(.ref xa), (.int (5 : Int32)), (.int (0 : Int32)), (.int xx), (.int xy)] h0 (fun r h => r = some (.int 1) ∧ h0 = h) := by
  refine OC.of pn_0 hn0 #[.val (.ref xa), .val (.int (5 : Int32)), .val (.int (0 : Int32)), .val (.int xx), .val (.int xy), .unset] (fun m => by first | (simp [entryFrame, mkF, argsToLocals, Value.category, maxLocals]; done) | rfl) ?_
  intro p e s m below meth cd0 T0 X0 Q' hQ
  refine o_iloadN X0 d3_0 rfl 1 rfl ?_
  refine o_iloadN X0 d3_1 rfl 2 rfl ?_
  refine o_icmpLt X0 d3_2 7 5 (by decide) (by decide) rfl (fun q => by exfalso; exact absurd q (by decide)) ?_
  intro hc2
  refine o_iconst (v := (1 : Int32)) X0 d3_5 rfl 6 rfl ?_
  exact o_retZ X0 d3_6 (by decide) (by decide) (hQ _ _ ⟨rfl, rfl⟩)
set_option maxRecDepth 65536 in
set_option maxHeartbeats 40000000 in
theorem c_kept_0_6 (l : Launch) (Z : State) (a0 : Array Value) (hw : ∀ d ∈ tables_1, d.before a0 Z = true) (ws : List Jvm.Cond) (n0 : Nat) (h0 : Heap) (hn0 : n0 ≤ h0.size) (xa : Addr) (xv : Int32) (L' : List (Addr × (Cell → Prop))) (H0 : OL n0 h0 ((xa, OA Z .boolean []) :: L')) :
    OC l Z (⟨"com/example/eratosthenes/eratosthenes/tune/GeneticSearchHalvesPinLaw", "kept", "([ZIII)Z"⟩ : MethodName) method_5_code 4 (some .boolean) ws ({ frames := 1, cells := 0, slots := 0, locals := 14 } : Room) n0 #[(.ref xa), (.int (6 : Int32)), (.int (0 : Int32)), (.int xv)] h0 (fun r h => r = some (.int 1) ∧ h0 = h) := by
  refine OC.of pn_0 hn0 #[.val (.ref xa), .val (.int (6 : Int32)), .val (.int (0 : Int32)), .val (.int xv)] (fun m => by first | (simp [entryFrame, mkF, argsToLocals, Value.category, maxLocals]; done) | rfl) ?_
  intro p e s m below meth cd0 T0 X0 Q' hQ
  refine o_iloadN X0 d5_0 rfl 1 rfl ?_
  refine o_iloadN X0 d5_1 rfl 2 rfl ?_
  refine o_icmpGe X0 d5_2 16 5 (by decide) (by decide) rfl ?_ (fun q => by exfalso; exact absurd q (by decide))
  intro hc2
  refine o_iconst (v := (1 : Int32)) X0 d5_16 rfl 17 rfl ?_
  refine o_goto X0 d5_17 21 (by decide) (by decide) ?_
  exact o_retZ X0 d5_21 (by decide) (by decide) (hQ _ _ ⟨rfl, rfl⟩)
set_option maxRecDepth 65536 in
set_option maxHeartbeats 40000000 in
theorem c_at_0_6 (l : Launch) (Z : State) (a0 : Array Value) (hw : ∀ d ∈ tables_1, d.before a0 Z = true) (ws : List Jvm.Cond) (n0 : Nat) (h0 : Heap) (hn0 : n0 ≤ h0.size) (xa : Addr) (xx xy : Int32) (L' : List (Addr × (Cell → Prop))) (H0 : OL n0 h0 ((xa, OA Z .boolean []) :: L')) :
    OC l Z (⟨"com/example/eratosthenes/eratosthenes/tune/GeneticSearchHalvesPinLaw", "at", "([ZIIII)Z"⟩ : MethodName) method_4_code 6 (some .boolean) ws ({ frames := 1, cells := 0, slots := 0, locals := 14 } : Room) n0 #[(.ref xa), (.int (6 : Int32)), (.int (0 : Int32)), (.int xx), (.int xy)] h0 (fun r h => r = some (.int 1) ∧ h0 = h) := by
  refine OC.of pn_0 hn0 #[.val (.ref xa), .val (.int (6 : Int32)), .val (.int (0 : Int32)), .val (.int xx), .val (.int xy), .unset] (fun m => by first | (simp [entryFrame, mkF, argsToLocals, Value.category, maxLocals]; done) | rfl) ?_
  intro p e s m below meth cd0 T0 X0 Q' hQ
  refine o_iloadN X0 d3_0 rfl 1 rfl ?_
  refine o_iloadN X0 d3_1 rfl 2 rfl ?_
  refine o_icmpLt X0 d3_2 7 5 (by decide) (by decide) rfl (fun q => by exfalso; exact absurd q (by decide)) ?_
  intro hc2
  refine o_iconst (v := (1 : Int32)) X0 d3_5 rfl 6 rfl ?_
  exact o_retZ X0 d3_6 (by decide) (by decide) (hQ _ _ ⟨rfl, rfl⟩)
set_option maxRecDepth 65536 in
set_option maxHeartbeats 40000000 in
theorem c_kept_1_0 (l : Launch) (Z : State) (a0 : Array Value) (hw : ∀ d ∈ tables_1, d.before a0 Z = true) (ws : List Jvm.Cond) (n0 : Nat) (h0 : Heap) (hn0 : n0 ≤ h0.size) (xa : Addr) (xv : Int32) (L' : List (Addr × (Cell → Prop))) (H0 : OL n0 h0 ((xa, OA Z .boolean [(f_bit xv (0 : Int32))]) :: L')) :
    OC l Z (⟨"com/example/eratosthenes/eratosthenes/tune/GeneticSearchHalvesPinLaw", "kept", "([ZIII)Z"⟩ : MethodName) method_5_code 4 (some .boolean) ws ({ frames := 1, cells := 0, slots := 0, locals := 14 } : Room) n0 #[(.ref xa), (.int (0 : Int32)), (.int (1 : Int32)), (.int xv)] h0 (fun r h => r = some (.int 1) ∧ h0 = h) := by
  refine OC.of pn_0 hn0 #[.val (.ref xa), .val (.int (0 : Int32)), .val (.int (1 : Int32)), .val (.int xv)] (fun m => by first | (simp [entryFrame, mkF, argsToLocals, Value.category, maxLocals]; done) | rfl) ?_
  intro p e s m below meth cd0 T0 X0 Q' hQ
  refine o_iloadN X0 d5_0 rfl 1 rfl ?_
  refine o_iloadN X0 d5_1 rfl 2 rfl ?_
  refine o_icmpGe X0 d5_2 16 5 (by decide) (by decide) rfl (fun q => by exfalso; exact absurd q (by decide)) ?_
  intro hc2
  refine o_aloadN X0 d5_5 rfl rfl 6 rfl ?_
  refine o_iloadN X0 d5_6 rfl 7 rfl ?_
  refine o_baloadZ X0 H0 0 rfl d5_7 0 rfl (f_bit xv (0 : Int32)) rfl 8 rfl ?_
  refine o_iloadN X0 d5_8 rfl 9 rfl ?_
  refine o_iloadN X0 d5_9 rfl 10 rfl ?_
  refine o_callS X0 d5_10 (rest := [(.int (f_bit xv (0 : Int32)))]) (c_bit l Z a0 hw [] n0 _ X0.size xv (0 : Int32) ) (hw _ (List.mem_of_getElem? (i := 31) rfl)) (hw _ (List.mem_of_getElem? (i := 32) rfl)) (hw _ (List.mem_of_getElem? (i := 2) rfl)) (hw _ (List.mem_of_getElem? (i := 33) rfl)) (by decide) 1 (by decide) (by decide) rfl [(.int xv), (.int (0 : Int32))] rfl pd_6 rfl rfl (Nat.le_of_eq rfl) 0 0 rfl rfl (by decide) (by decide) 13 rfl ?_
  rintro _ T1 _ X1 ⟨rfl, rfl⟩
  show OE p e ({ frames := 1, cells := 0, slots := 0, locals := 14 } : Room) below s n0 Q' T1 (mkF m 13 #[.val (.ref xa), .val (.int (0 : Int32)), .val (.int (1 : Int32)), .val (.int xv)] [(.int (f_bit xv (0 : Int32))), (.int (f_bit xv (0 : Int32)))])
  refine o_icmpNe X1 d5_13 20 16 (by decide) (by decide) rfl (fun q => by exfalso; exact q rfl) ?_
  intro hc13
  refine o_iconst (v := (1 : Int32)) X1 d5_16 rfl 17 rfl ?_
  refine o_goto X1 d5_17 21 (by decide) (by decide) ?_
  exact o_retZ X1 d5_21 (by decide) (by decide) (hQ _ _ ⟨rfl, rfl⟩)
set_option maxRecDepth 65536 in
set_option maxHeartbeats 40000000 in
theorem c_at_1_0 (l : Launch) (Z : State) (a0 : Array Value) (hw : ∀ d ∈ tables_1, d.before a0 Z = true) (ws : List Jvm.Cond) (n0 : Nat) (h0 : Heap) (hn0 : n0 ≤ h0.size) (xa : Addr) (xx xy : Int32) (L' : List (Addr × (Cell → Prop))) (H0 : OL n0 h0 ((xa, OA Z .boolean [(f_bit xy (0 : Int32))]) :: L')) :
    OC l Z (⟨"com/example/eratosthenes/eratosthenes/tune/GeneticSearchHalvesPinLaw", "at", "([ZIIII)Z"⟩ : MethodName) method_4_code 6 (some .boolean) ws ({ frames := 1, cells := 0, slots := 0, locals := 14 } : Room) n0 #[(.ref xa), (.int (0 : Int32)), (.int (1 : Int32)), (.int xx), (.int xy)] h0 (fun r h => r = some (.int 1) ∧ h0 = h) := by
  refine OC.of pn_0 hn0 #[.val (.ref xa), .val (.int (0 : Int32)), .val (.int (1 : Int32)), .val (.int xx), .val (.int xy), .unset] (fun m => by first | (simp [entryFrame, mkF, argsToLocals, Value.category, maxLocals]; done) | rfl) ?_
  intro p e s m below meth cd0 T0 X0 Q' hQ
  refine o_iloadN X0 d3_0 rfl 1 rfl ?_
  refine o_iloadN X0 d3_1 rfl 2 rfl ?_
  refine o_icmpLt X0 d3_2 7 5 (by decide) (by decide) rfl ?_ (fun q => by exfalso; exact absurd q (by decide))
  intro hc2
  refine o_iloadN X0 d3_7 rfl 8 rfl ?_
  refine o_iloadN X0 d3_8 rfl 9 rfl ?_
  refine o_iconst (v := (2 : Int32)) X0 d3_9 rfl 10 rfl ?_
  refine o_idiv X0 d3_10 (by decide) 11 rfl ?_
  refine o_icmpGe X0 d3_11 22 14 (by decide) (by decide) rfl ?_ (fun q => by exfalso; exact absurd q (by decide))
  intro hc11
  refine o_iload X0 d3_22 rfl 24 rfl ?_
  refine o_iloadN X0 d3_24 rfl 25 rfl ?_
  refine o_callS X0 d3_25 (rest := []) (c_bit l Z a0 hw [] n0 _ X0.size xy (0 : Int32) ) (hw _ (List.mem_of_getElem? (i := 31) rfl)) (hw _ (List.mem_of_getElem? (i := 32) rfl)) (hw _ (List.mem_of_getElem? (i := 2) rfl)) (hw _ (List.mem_of_getElem? (i := 33) rfl)) (by decide) 0 (by decide) (by decide) rfl [(.int xy), (.int (0 : Int32))] rfl pd_6 rfl rfl (Nat.le_of_eq rfl) 0 0 rfl rfl (by decide) (by decide) 28 rfl ?_
  rintro _ T1 _ X1 ⟨rfl, rfl⟩
  show OE p e ({ frames := 1, cells := 0, slots := 0, locals := 14 } : Room) below s n0 Q' T1 (mkF m 28 #[.val (.ref xa), .val (.int (0 : Int32)), .val (.int (1 : Int32)), .val (.int xx), .val (.int xy), .unset] [(.int (f_bit xy (0 : Int32)))])
  refine o_istore X1 d3_28 #[.val (.ref xa), .val (.int (0 : Int32)), .val (.int (1 : Int32)), .val (.int xx), .val (.int xy), .val (.int (f_bit xy (0 : Int32)))] rfl 30 rfl ?_
  refine o_aloadN X1 d3_30 rfl rfl 31 rfl ?_
  refine o_iloadN X1 d3_31 rfl 32 rfl ?_
  refine o_baloadZ X1 H0 0 rfl d3_32 0 rfl (f_bit xy (0 : Int32)) rfl 33 rfl ?_
  refine o_iload X1 d3_33 rfl 35 rfl ?_
  refine o_icmpNe X1 d3_35 42 38 (by decide) (by decide) rfl (fun q => by exfalso; exact q rfl) ?_
  intro hc35
  refine o_iconst (v := (1 : Int32)) X1 d3_38 rfl 39 rfl ?_
  refine o_goto X1 d3_39 43 (by decide) (by decide) ?_
  exact o_retZ X1 d3_43 (by decide) (by decide) (hQ _ _ ⟨rfl, rfl⟩)
set_option maxRecDepth 65536 in
set_option maxHeartbeats 40000000 in
theorem c_kept_1_1 (l : Launch) (Z : State) (a0 : Array Value) (hw : ∀ d ∈ tables_1, d.before a0 Z = true) (ws : List Jvm.Cond) (n0 : Nat) (h0 : Heap) (hn0 : n0 ≤ h0.size) (xa : Addr) (xv : Int32) (L' : List (Addr × (Cell → Prop))) (H0 : OL n0 h0 ((xa, OA Z .boolean [(f_bit xv (0 : Int32))]) :: L')) :
    OC l Z (⟨"com/example/eratosthenes/eratosthenes/tune/GeneticSearchHalvesPinLaw", "kept", "([ZIII)Z"⟩ : MethodName) method_5_code 4 (some .boolean) ws ({ frames := 1, cells := 0, slots := 0, locals := 14 } : Room) n0 #[(.ref xa), (.int (1 : Int32)), (.int (1 : Int32)), (.int xv)] h0 (fun r h => r = some (.int 1) ∧ h0 = h) := by
  refine OC.of pn_0 hn0 #[.val (.ref xa), .val (.int (1 : Int32)), .val (.int (1 : Int32)), .val (.int xv)] (fun m => by first | (simp [entryFrame, mkF, argsToLocals, Value.category, maxLocals]; done) | rfl) ?_
  intro p e s m below meth cd0 T0 X0 Q' hQ
  refine o_iloadN X0 d5_0 rfl 1 rfl ?_
  refine o_iloadN X0 d5_1 rfl 2 rfl ?_
  refine o_icmpGe X0 d5_2 16 5 (by decide) (by decide) rfl ?_ (fun q => by exfalso; exact absurd q (by decide))
  intro hc2
  refine o_iconst (v := (1 : Int32)) X0 d5_16 rfl 17 rfl ?_
  refine o_goto X0 d5_17 21 (by decide) (by decide) ?_
  exact o_retZ X0 d5_21 (by decide) (by decide) (hQ _ _ ⟨rfl, rfl⟩)
set_option maxRecDepth 65536 in
set_option maxHeartbeats 40000000 in
theorem c_at_1_1 (l : Launch) (Z : State) (a0 : Array Value) (hw : ∀ d ∈ tables_1, d.before a0 Z = true) (ws : List Jvm.Cond) (n0 : Nat) (h0 : Heap) (hn0 : n0 ≤ h0.size) (xa : Addr) (xx xy : Int32) (L' : List (Addr × (Cell → Prop))) (H0 : OL n0 h0 ((xa, OA Z .boolean [(f_bit xy (0 : Int32))]) :: L')) :
    OC l Z (⟨"com/example/eratosthenes/eratosthenes/tune/GeneticSearchHalvesPinLaw", "at", "([ZIIII)Z"⟩ : MethodName) method_4_code 6 (some .boolean) ws ({ frames := 1, cells := 0, slots := 0, locals := 14 } : Room) n0 #[(.ref xa), (.int (1 : Int32)), (.int (1 : Int32)), (.int xx), (.int xy)] h0 (fun r h => r = some (.int 1) ∧ h0 = h) := by
  refine OC.of pn_0 hn0 #[.val (.ref xa), .val (.int (1 : Int32)), .val (.int (1 : Int32)), .val (.int xx), .val (.int xy), .unset] (fun m => by first | (simp [entryFrame, mkF, argsToLocals, Value.category, maxLocals]; done) | rfl) ?_
  intro p e s m below meth cd0 T0 X0 Q' hQ
  refine o_iloadN X0 d3_0 rfl 1 rfl ?_
  refine o_iloadN X0 d3_1 rfl 2 rfl ?_
  refine o_icmpLt X0 d3_2 7 5 (by decide) (by decide) rfl (fun q => by exfalso; exact absurd q (by decide)) ?_
  intro hc2
  refine o_iconst (v := (1 : Int32)) X0 d3_5 rfl 6 rfl ?_
  exact o_retZ X0 d3_6 (by decide) (by decide) (hQ _ _ ⟨rfl, rfl⟩)
set_option maxRecDepth 65536 in
set_option maxHeartbeats 40000000 in
theorem c_kept_1_2 (l : Launch) (Z : State) (a0 : Array Value) (hw : ∀ d ∈ tables_1, d.before a0 Z = true) (ws : List Jvm.Cond) (n0 : Nat) (h0 : Heap) (hn0 : n0 ≤ h0.size) (xa : Addr) (xv : Int32) (L' : List (Addr × (Cell → Prop))) (H0 : OL n0 h0 ((xa, OA Z .boolean [(f_bit xv (0 : Int32))]) :: L')) :
    OC l Z (⟨"com/example/eratosthenes/eratosthenes/tune/GeneticSearchHalvesPinLaw", "kept", "([ZIII)Z"⟩ : MethodName) method_5_code 4 (some .boolean) ws ({ frames := 1, cells := 0, slots := 0, locals := 14 } : Room) n0 #[(.ref xa), (.int (2 : Int32)), (.int (1 : Int32)), (.int xv)] h0 (fun r h => r = some (.int 1) ∧ h0 = h) := by
  refine OC.of pn_0 hn0 #[.val (.ref xa), .val (.int (2 : Int32)), .val (.int (1 : Int32)), .val (.int xv)] (fun m => by first | (simp [entryFrame, mkF, argsToLocals, Value.category, maxLocals]; done) | rfl) ?_
  intro p e s m below meth cd0 T0 X0 Q' hQ
  refine o_iloadN X0 d5_0 rfl 1 rfl ?_
  refine o_iloadN X0 d5_1 rfl 2 rfl ?_
  refine o_icmpGe X0 d5_2 16 5 (by decide) (by decide) rfl ?_ (fun q => by exfalso; exact absurd q (by decide))
  intro hc2
  refine o_iconst (v := (1 : Int32)) X0 d5_16 rfl 17 rfl ?_
  refine o_goto X0 d5_17 21 (by decide) (by decide) ?_
  exact o_retZ X0 d5_21 (by decide) (by decide) (hQ _ _ ⟨rfl, rfl⟩)
set_option maxRecDepth 65536 in
set_option maxHeartbeats 40000000 in
theorem c_at_1_2 (l : Launch) (Z : State) (a0 : Array Value) (hw : ∀ d ∈ tables_1, d.before a0 Z = true) (ws : List Jvm.Cond) (n0 : Nat) (h0 : Heap) (hn0 : n0 ≤ h0.size) (xa : Addr) (xx xy : Int32) (L' : List (Addr × (Cell → Prop))) (H0 : OL n0 h0 ((xa, OA Z .boolean [(f_bit xy (0 : Int32))]) :: L')) :
    OC l Z (⟨"com/example/eratosthenes/eratosthenes/tune/GeneticSearchHalvesPinLaw", "at", "([ZIIII)Z"⟩ : MethodName) method_4_code 6 (some .boolean) ws ({ frames := 1, cells := 0, slots := 0, locals := 14 } : Room) n0 #[(.ref xa), (.int (2 : Int32)), (.int (1 : Int32)), (.int xx), (.int xy)] h0 (fun r h => r = some (.int 1) ∧ h0 = h) := by
  refine OC.of pn_0 hn0 #[.val (.ref xa), .val (.int (2 : Int32)), .val (.int (1 : Int32)), .val (.int xx), .val (.int xy), .unset] (fun m => by first | (simp [entryFrame, mkF, argsToLocals, Value.category, maxLocals]; done) | rfl) ?_
  intro p e s m below meth cd0 T0 X0 Q' hQ
  refine o_iloadN X0 d3_0 rfl 1 rfl ?_
  refine o_iloadN X0 d3_1 rfl 2 rfl ?_
  refine o_icmpLt X0 d3_2 7 5 (by decide) (by decide) rfl (fun q => by exfalso; exact absurd q (by decide)) ?_
  intro hc2
  refine o_iconst (v := (1 : Int32)) X0 d3_5 rfl 6 rfl ?_
  exact o_retZ X0 d3_6 (by decide) (by decide) (hQ _ _ ⟨rfl, rfl⟩)
set_option maxRecDepth 65536 in
set_option maxHeartbeats 40000000 in
theorem c_kept_1_3 (l : Launch) (Z : State) (a0 : Array Value) (hw : ∀ d ∈ tables_1, d.before a0 Z = true) (ws : List Jvm.Cond) (n0 : Nat) (h0 : Heap) (hn0 : n0 ≤ h0.size) (xa : Addr) (xv : Int32) (L' : List (Addr × (Cell → Prop))) (H0 : OL n0 h0 ((xa, OA Z .boolean [(f_bit xv (0 : Int32))]) :: L')) :
    OC l Z (⟨"com/example/eratosthenes/eratosthenes/tune/GeneticSearchHalvesPinLaw", "kept", "([ZIII)Z"⟩ : MethodName) method_5_code 4 (some .boolean) ws ({ frames := 1, cells := 0, slots := 0, locals := 14 } : Room) n0 #[(.ref xa), (.int (3 : Int32)), (.int (1 : Int32)), (.int xv)] h0 (fun r h => r = some (.int 1) ∧ h0 = h) := by
  refine OC.of pn_0 hn0 #[.val (.ref xa), .val (.int (3 : Int32)), .val (.int (1 : Int32)), .val (.int xv)] (fun m => by first | (simp [entryFrame, mkF, argsToLocals, Value.category, maxLocals]; done) | rfl) ?_
  intro p e s m below meth cd0 T0 X0 Q' hQ
  refine o_iloadN X0 d5_0 rfl 1 rfl ?_
  refine o_iloadN X0 d5_1 rfl 2 rfl ?_
  refine o_icmpGe X0 d5_2 16 5 (by decide) (by decide) rfl ?_ (fun q => by exfalso; exact absurd q (by decide))
  intro hc2
  refine o_iconst (v := (1 : Int32)) X0 d5_16 rfl 17 rfl ?_
  refine o_goto X0 d5_17 21 (by decide) (by decide) ?_
  exact o_retZ X0 d5_21 (by decide) (by decide) (hQ _ _ ⟨rfl, rfl⟩)
set_option maxRecDepth 65536 in
set_option maxHeartbeats 40000000 in
theorem c_at_1_3 (l : Launch) (Z : State) (a0 : Array Value) (hw : ∀ d ∈ tables_1, d.before a0 Z = true) (ws : List Jvm.Cond) (n0 : Nat) (h0 : Heap) (hn0 : n0 ≤ h0.size) (xa : Addr) (xx xy : Int32) (L' : List (Addr × (Cell → Prop))) (H0 : OL n0 h0 ((xa, OA Z .boolean [(f_bit xy (0 : Int32))]) :: L')) :
    OC l Z (⟨"com/example/eratosthenes/eratosthenes/tune/GeneticSearchHalvesPinLaw", "at", "([ZIIII)Z"⟩ : MethodName) method_4_code 6 (some .boolean) ws ({ frames := 1, cells := 0, slots := 0, locals := 14 } : Room) n0 #[(.ref xa), (.int (3 : Int32)), (.int (1 : Int32)), (.int xx), (.int xy)] h0 (fun r h => r = some (.int 1) ∧ h0 = h) := by
  refine OC.of pn_0 hn0 #[.val (.ref xa), .val (.int (3 : Int32)), .val (.int (1 : Int32)), .val (.int xx), .val (.int xy), .unset] (fun m => by first | (simp [entryFrame, mkF, argsToLocals, Value.category, maxLocals]; done) | rfl) ?_
  intro p e s m below meth cd0 T0 X0 Q' hQ
  refine o_iloadN X0 d3_0 rfl 1 rfl ?_
  refine o_iloadN X0 d3_1 rfl 2 rfl ?_
  refine o_icmpLt X0 d3_2 7 5 (by decide) (by decide) rfl (fun q => by exfalso; exact absurd q (by decide)) ?_
  intro hc2
  refine o_iconst (v := (1 : Int32)) X0 d3_5 rfl 6 rfl ?_
  exact o_retZ X0 d3_6 (by decide) (by decide) (hQ _ _ ⟨rfl, rfl⟩)
set_option maxRecDepth 65536 in
set_option maxHeartbeats 40000000 in
theorem c_kept_1_4 (l : Launch) (Z : State) (a0 : Array Value) (hw : ∀ d ∈ tables_1, d.before a0 Z = true) (ws : List Jvm.Cond) (n0 : Nat) (h0 : Heap) (hn0 : n0 ≤ h0.size) (xa : Addr) (xv : Int32) (L' : List (Addr × (Cell → Prop))) (H0 : OL n0 h0 ((xa, OA Z .boolean [(f_bit xv (0 : Int32))]) :: L')) :
    OC l Z (⟨"com/example/eratosthenes/eratosthenes/tune/GeneticSearchHalvesPinLaw", "kept", "([ZIII)Z"⟩ : MethodName) method_5_code 4 (some .boolean) ws ({ frames := 1, cells := 0, slots := 0, locals := 14 } : Room) n0 #[(.ref xa), (.int (4 : Int32)), (.int (1 : Int32)), (.int xv)] h0 (fun r h => r = some (.int 1) ∧ h0 = h) := by
  refine OC.of pn_0 hn0 #[.val (.ref xa), .val (.int (4 : Int32)), .val (.int (1 : Int32)), .val (.int xv)] (fun m => by first | (simp [entryFrame, mkF, argsToLocals, Value.category, maxLocals]; done) | rfl) ?_
  intro p e s m below meth cd0 T0 X0 Q' hQ
  refine o_iloadN X0 d5_0 rfl 1 rfl ?_
  refine o_iloadN X0 d5_1 rfl 2 rfl ?_
  refine o_icmpGe X0 d5_2 16 5 (by decide) (by decide) rfl ?_ (fun q => by exfalso; exact absurd q (by decide))
  intro hc2
  refine o_iconst (v := (1 : Int32)) X0 d5_16 rfl 17 rfl ?_
  refine o_goto X0 d5_17 21 (by decide) (by decide) ?_
  exact o_retZ X0 d5_21 (by decide) (by decide) (hQ _ _ ⟨rfl, rfl⟩)
set_option maxRecDepth 65536 in
set_option maxHeartbeats 40000000 in
theorem c_at_1_4 (l : Launch) (Z : State) (a0 : Array Value) (hw : ∀ d ∈ tables_1, d.before a0 Z = true) (ws : List Jvm.Cond) (n0 : Nat) (h0 : Heap) (hn0 : n0 ≤ h0.size) (xa : Addr) (xx xy : Int32) (L' : List (Addr × (Cell → Prop))) (H0 : OL n0 h0 ((xa, OA Z .boolean [(f_bit xy (0 : Int32))]) :: L')) :
    OC l Z (⟨"com/example/eratosthenes/eratosthenes/tune/GeneticSearchHalvesPinLaw", "at", "([ZIIII)Z"⟩ : MethodName) method_4_code 6 (some .boolean) ws ({ frames := 1, cells := 0, slots := 0, locals := 14 } : Room) n0 #[(.ref xa), (.int (4 : Int32)), (.int (1 : Int32)), (.int xx), (.int xy)] h0 (fun r h => r = some (.int 1) ∧ h0 = h) := by
  refine OC.of pn_0 hn0 #[.val (.ref xa), .val (.int (4 : Int32)), .val (.int (1 : Int32)), .val (.int xx), .val (.int xy), .unset] (fun m => by first | (simp [entryFrame, mkF, argsToLocals, Value.category, maxLocals]; done) | rfl) ?_
  intro p e s m below meth cd0 T0 X0 Q' hQ
  refine o_iloadN X0 d3_0 rfl 1 rfl ?_
  refine o_iloadN X0 d3_1 rfl 2 rfl ?_
  refine o_icmpLt X0 d3_2 7 5 (by decide) (by decide) rfl (fun q => by exfalso; exact absurd q (by decide)) ?_
  intro hc2
  refine o_iconst (v := (1 : Int32)) X0 d3_5 rfl 6 rfl ?_
  exact o_retZ X0 d3_6 (by decide) (by decide) (hQ _ _ ⟨rfl, rfl⟩)
set_option maxRecDepth 65536 in
set_option maxHeartbeats 40000000 in
theorem c_kept_1_5 (l : Launch) (Z : State) (a0 : Array Value) (hw : ∀ d ∈ tables_1, d.before a0 Z = true) (ws : List Jvm.Cond) (n0 : Nat) (h0 : Heap) (hn0 : n0 ≤ h0.size) (xa : Addr) (xv : Int32) (L' : List (Addr × (Cell → Prop))) (H0 : OL n0 h0 ((xa, OA Z .boolean [(f_bit xv (0 : Int32))]) :: L')) :
    OC l Z (⟨"com/example/eratosthenes/eratosthenes/tune/GeneticSearchHalvesPinLaw", "kept", "([ZIII)Z"⟩ : MethodName) method_5_code 4 (some .boolean) ws ({ frames := 1, cells := 0, slots := 0, locals := 14 } : Room) n0 #[(.ref xa), (.int (5 : Int32)), (.int (1 : Int32)), (.int xv)] h0 (fun r h => r = some (.int 1) ∧ h0 = h) := by
  refine OC.of pn_0 hn0 #[.val (.ref xa), .val (.int (5 : Int32)), .val (.int (1 : Int32)), .val (.int xv)] (fun m => by first | (simp [entryFrame, mkF, argsToLocals, Value.category, maxLocals]; done) | rfl) ?_
  intro p e s m below meth cd0 T0 X0 Q' hQ
  refine o_iloadN X0 d5_0 rfl 1 rfl ?_
  refine o_iloadN X0 d5_1 rfl 2 rfl ?_
  refine o_icmpGe X0 d5_2 16 5 (by decide) (by decide) rfl ?_ (fun q => by exfalso; exact absurd q (by decide))
  intro hc2
  refine o_iconst (v := (1 : Int32)) X0 d5_16 rfl 17 rfl ?_
  refine o_goto X0 d5_17 21 (by decide) (by decide) ?_
  exact o_retZ X0 d5_21 (by decide) (by decide) (hQ _ _ ⟨rfl, rfl⟩)
set_option maxRecDepth 65536 in
set_option maxHeartbeats 40000000 in
theorem c_at_1_5 (l : Launch) (Z : State) (a0 : Array Value) (hw : ∀ d ∈ tables_1, d.before a0 Z = true) (ws : List Jvm.Cond) (n0 : Nat) (h0 : Heap) (hn0 : n0 ≤ h0.size) (xa : Addr) (xx xy : Int32) (L' : List (Addr × (Cell → Prop))) (H0 : OL n0 h0 ((xa, OA Z .boolean [(f_bit xy (0 : Int32))]) :: L')) :
    OC l Z (⟨"com/example/eratosthenes/eratosthenes/tune/GeneticSearchHalvesPinLaw", "at", "([ZIIII)Z"⟩ : MethodName) method_4_code 6 (some .boolean) ws ({ frames := 1, cells := 0, slots := 0, locals := 14 } : Room) n0 #[(.ref xa), (.int (5 : Int32)), (.int (1 : Int32)), (.int xx), (.int xy)] h0 (fun r h => r = some (.int 1) ∧ h0 = h) := by
  refine OC.of pn_0 hn0 #[.val (.ref xa), .val (.int (5 : Int32)), .val (.int (1 : Int32)), .val (.int xx), .val (.int xy), .unset] (fun m => by first | (simp [entryFrame, mkF, argsToLocals, Value.category, maxLocals]; done) | rfl) ?_
  intro p e s m below meth cd0 T0 X0 Q' hQ
  refine o_iloadN X0 d3_0 rfl 1 rfl ?_
  refine o_iloadN X0 d3_1 rfl 2 rfl ?_
  refine o_icmpLt X0 d3_2 7 5 (by decide) (by decide) rfl (fun q => by exfalso; exact absurd q (by decide)) ?_
  intro hc2
  refine o_iconst (v := (1 : Int32)) X0 d3_5 rfl 6 rfl ?_
  exact o_retZ X0 d3_6 (by decide) (by decide) (hQ _ _ ⟨rfl, rfl⟩)
set_option maxRecDepth 65536 in
set_option maxHeartbeats 40000000 in
theorem c_kept_1_6 (l : Launch) (Z : State) (a0 : Array Value) (hw : ∀ d ∈ tables_1, d.before a0 Z = true) (ws : List Jvm.Cond) (n0 : Nat) (h0 : Heap) (hn0 : n0 ≤ h0.size) (xa : Addr) (xv : Int32) (L' : List (Addr × (Cell → Prop))) (H0 : OL n0 h0 ((xa, OA Z .boolean [(f_bit xv (0 : Int32))]) :: L')) :
    OC l Z (⟨"com/example/eratosthenes/eratosthenes/tune/GeneticSearchHalvesPinLaw", "kept", "([ZIII)Z"⟩ : MethodName) method_5_code 4 (some .boolean) ws ({ frames := 1, cells := 0, slots := 0, locals := 14 } : Room) n0 #[(.ref xa), (.int (6 : Int32)), (.int (1 : Int32)), (.int xv)] h0 (fun r h => r = some (.int 1) ∧ h0 = h) := by
  refine OC.of pn_0 hn0 #[.val (.ref xa), .val (.int (6 : Int32)), .val (.int (1 : Int32)), .val (.int xv)] (fun m => by first | (simp [entryFrame, mkF, argsToLocals, Value.category, maxLocals]; done) | rfl) ?_
  intro p e s m below meth cd0 T0 X0 Q' hQ
  refine o_iloadN X0 d5_0 rfl 1 rfl ?_
  refine o_iloadN X0 d5_1 rfl 2 rfl ?_
  refine o_icmpGe X0 d5_2 16 5 (by decide) (by decide) rfl ?_ (fun q => by exfalso; exact absurd q (by decide))
  intro hc2
  refine o_iconst (v := (1 : Int32)) X0 d5_16 rfl 17 rfl ?_
  refine o_goto X0 d5_17 21 (by decide) (by decide) ?_
  exact o_retZ X0 d5_21 (by decide) (by decide) (hQ _ _ ⟨rfl, rfl⟩)
set_option maxRecDepth 65536 in
set_option maxHeartbeats 40000000 in
theorem c_at_1_6 (l : Launch) (Z : State) (a0 : Array Value) (hw : ∀ d ∈ tables_1, d.before a0 Z = true) (ws : List Jvm.Cond) (n0 : Nat) (h0 : Heap) (hn0 : n0 ≤ h0.size) (xa : Addr) (xx xy : Int32) (L' : List (Addr × (Cell → Prop))) (H0 : OL n0 h0 ((xa, OA Z .boolean [(f_bit xy (0 : Int32))]) :: L')) :
    OC l Z (⟨"com/example/eratosthenes/eratosthenes/tune/GeneticSearchHalvesPinLaw", "at", "([ZIIII)Z"⟩ : MethodName) method_4_code 6 (some .boolean) ws ({ frames := 1, cells := 0, slots := 0, locals := 14 } : Room) n0 #[(.ref xa), (.int (6 : Int32)), (.int (1 : Int32)), (.int xx), (.int xy)] h0 (fun r h => r = some (.int 1) ∧ h0 = h) := by
  refine OC.of pn_0 hn0 #[.val (.ref xa), .val (.int (6 : Int32)), .val (.int (1 : Int32)), .val (.int xx), .val (.int xy), .unset] (fun m => by first | (simp [entryFrame, mkF, argsToLocals, Value.category, maxLocals]; done) | rfl) ?_
  intro p e s m below meth cd0 T0 X0 Q' hQ
  refine o_iloadN X0 d3_0 rfl 1 rfl ?_
  refine o_iloadN X0 d3_1 rfl 2 rfl ?_
  refine o_icmpLt X0 d3_2 7 5 (by decide) (by decide) rfl (fun q => by exfalso; exact absurd q (by decide)) ?_
  intro hc2
  refine o_iconst (v := (1 : Int32)) X0 d3_5 rfl 6 rfl ?_
  exact o_retZ X0 d3_6 (by decide) (by decide) (hQ _ _ ⟨rfl, rfl⟩)
set_option maxRecDepth 65536 in
set_option maxHeartbeats 40000000 in
theorem c_kept_2_0 (l : Launch) (Z : State) (a0 : Array Value) (hw : ∀ d ∈ tables_1, d.before a0 Z = true) (ws : List Jvm.Cond) (n0 : Nat) (h0 : Heap) (hn0 : n0 ≤ h0.size) (xa : Addr) (xv : Int32) (L' : List (Addr × (Cell → Prop))) (H0 : OL n0 h0 ((xa, OA Z .boolean [(f_bit xv (0 : Int32)), (f_bit xv (1 : Int32))]) :: L')) :
    OC l Z (⟨"com/example/eratosthenes/eratosthenes/tune/GeneticSearchHalvesPinLaw", "kept", "([ZIII)Z"⟩ : MethodName) method_5_code 4 (some .boolean) ws ({ frames := 1, cells := 0, slots := 0, locals := 14 } : Room) n0 #[(.ref xa), (.int (0 : Int32)), (.int (2 : Int32)), (.int xv)] h0 (fun r h => r = some (.int 1) ∧ h0 = h) := by
  refine OC.of pn_0 hn0 #[.val (.ref xa), .val (.int (0 : Int32)), .val (.int (2 : Int32)), .val (.int xv)] (fun m => by first | (simp [entryFrame, mkF, argsToLocals, Value.category, maxLocals]; done) | rfl) ?_
  intro p e s m below meth cd0 T0 X0 Q' hQ
  refine o_iloadN X0 d5_0 rfl 1 rfl ?_
  refine o_iloadN X0 d5_1 rfl 2 rfl ?_
  refine o_icmpGe X0 d5_2 16 5 (by decide) (by decide) rfl (fun q => by exfalso; exact absurd q (by decide)) ?_
  intro hc2
  refine o_aloadN X0 d5_5 rfl rfl 6 rfl ?_
  refine o_iloadN X0 d5_6 rfl 7 rfl ?_
  refine o_baloadZ X0 H0 0 rfl d5_7 0 rfl (f_bit xv (0 : Int32)) rfl 8 rfl ?_
  refine o_iloadN X0 d5_8 rfl 9 rfl ?_
  refine o_iloadN X0 d5_9 rfl 10 rfl ?_
  refine o_callS X0 d5_10 (rest := [(.int (f_bit xv (0 : Int32)))]) (c_bit l Z a0 hw [] n0 _ X0.size xv (0 : Int32) ) (hw _ (List.mem_of_getElem? (i := 31) rfl)) (hw _ (List.mem_of_getElem? (i := 32) rfl)) (hw _ (List.mem_of_getElem? (i := 2) rfl)) (hw _ (List.mem_of_getElem? (i := 33) rfl)) (by decide) 1 (by decide) (by decide) rfl [(.int xv), (.int (0 : Int32))] rfl pd_6 rfl rfl (Nat.le_of_eq rfl) 0 0 rfl rfl (by decide) (by decide) 13 rfl ?_
  rintro _ T1 _ X1 ⟨rfl, rfl⟩
  show OE p e ({ frames := 1, cells := 0, slots := 0, locals := 14 } : Room) below s n0 Q' T1 (mkF m 13 #[.val (.ref xa), .val (.int (0 : Int32)), .val (.int (2 : Int32)), .val (.int xv)] [(.int (f_bit xv (0 : Int32))), (.int (f_bit xv (0 : Int32)))])
  refine o_icmpNe X1 d5_13 20 16 (by decide) (by decide) rfl (fun q => by exfalso; exact q rfl) ?_
  intro hc13
  refine o_iconst (v := (1 : Int32)) X1 d5_16 rfl 17 rfl ?_
  refine o_goto X1 d5_17 21 (by decide) (by decide) ?_
  exact o_retZ X1 d5_21 (by decide) (by decide) (hQ _ _ ⟨rfl, rfl⟩)
set_option maxRecDepth 65536 in
set_option maxHeartbeats 40000000 in
theorem c_at_2_0 (l : Launch) (Z : State) (a0 : Array Value) (hw : ∀ d ∈ tables_1, d.before a0 Z = true) (ws : List Jvm.Cond) (n0 : Nat) (h0 : Heap) (hn0 : n0 ≤ h0.size) (xa : Addr) (xx xy : Int32) (L' : List (Addr × (Cell → Prop))) (H0 : OL n0 h0 ((xa, OA Z .boolean [(f_bit xx (0 : Int32)), (f_bit xy (1 : Int32))]) :: L')) :
    OC l Z (⟨"com/example/eratosthenes/eratosthenes/tune/GeneticSearchHalvesPinLaw", "at", "([ZIIII)Z"⟩ : MethodName) method_4_code 6 (some .boolean) ws ({ frames := 1, cells := 0, slots := 0, locals := 14 } : Room) n0 #[(.ref xa), (.int (0 : Int32)), (.int (2 : Int32)), (.int xx), (.int xy)] h0 (fun r h => r = some (.int 1) ∧ h0 = h) := by
  refine OC.of pn_0 hn0 #[.val (.ref xa), .val (.int (0 : Int32)), .val (.int (2 : Int32)), .val (.int xx), .val (.int xy), .unset] (fun m => by first | (simp [entryFrame, mkF, argsToLocals, Value.category, maxLocals]; done) | rfl) ?_
  intro p e s m below meth cd0 T0 X0 Q' hQ
  refine o_iloadN X0 d3_0 rfl 1 rfl ?_
  refine o_iloadN X0 d3_1 rfl 2 rfl ?_
  refine o_icmpLt X0 d3_2 7 5 (by decide) (by decide) rfl ?_ (fun q => by exfalso; exact absurd q (by decide))
  intro hc2
  refine o_iloadN X0 d3_7 rfl 8 rfl ?_
  refine o_iloadN X0 d3_8 rfl 9 rfl ?_
  refine o_iconst (v := (2 : Int32)) X0 d3_9 rfl 10 rfl ?_
  refine o_idiv X0 d3_10 (by decide) 11 rfl ?_
  refine o_icmpGe X0 d3_11 22 14 (by decide) (by decide) rfl (fun q => by exfalso; exact absurd q (by decide)) ?_
  intro hc11
  refine o_iloadN X0 d3_14 rfl 15 rfl ?_
  refine o_iloadN X0 d3_15 rfl 16 rfl ?_
  refine o_callS X0 d3_16 (rest := []) (c_bit l Z a0 hw [] n0 _ X0.size xx (0 : Int32) ) (hw _ (List.mem_of_getElem? (i := 31) rfl)) (hw _ (List.mem_of_getElem? (i := 32) rfl)) (hw _ (List.mem_of_getElem? (i := 2) rfl)) (hw _ (List.mem_of_getElem? (i := 33) rfl)) (by decide) 0 (by decide) (by decide) rfl [(.int xx), (.int (0 : Int32))] rfl pd_6 rfl rfl (Nat.le_of_eq rfl) 0 0 rfl rfl (by decide) (by decide) 19 rfl ?_
  rintro _ T1 _ X1 ⟨rfl, rfl⟩
  show OE p e ({ frames := 1, cells := 0, slots := 0, locals := 14 } : Room) below s n0 Q' T1 (mkF m 19 #[.val (.ref xa), .val (.int (0 : Int32)), .val (.int (2 : Int32)), .val (.int xx), .val (.int xy), .unset] [(.int (f_bit xx (0 : Int32)))])
  refine o_goto X1 d3_19 28 (by decide) (by decide) ?_
  refine o_istore X1 d3_28 #[.val (.ref xa), .val (.int (0 : Int32)), .val (.int (2 : Int32)), .val (.int xx), .val (.int xy), .val (.int (f_bit xx (0 : Int32)))] rfl 30 rfl ?_
  refine o_aloadN X1 d3_30 rfl rfl 31 rfl ?_
  refine o_iloadN X1 d3_31 rfl 32 rfl ?_
  refine o_baloadZ X1 H0 0 rfl d3_32 0 rfl (f_bit xx (0 : Int32)) rfl 33 rfl ?_
  refine o_iload X1 d3_33 rfl 35 rfl ?_
  refine o_icmpNe X1 d3_35 42 38 (by decide) (by decide) rfl (fun q => by exfalso; exact q rfl) ?_
  intro hc35
  refine o_iconst (v := (1 : Int32)) X1 d3_38 rfl 39 rfl ?_
  refine o_goto X1 d3_39 43 (by decide) (by decide) ?_
  exact o_retZ X1 d3_43 (by decide) (by decide) (hQ _ _ ⟨rfl, rfl⟩)
set_option maxRecDepth 65536 in
set_option maxHeartbeats 40000000 in
theorem c_kept_2_1 (l : Launch) (Z : State) (a0 : Array Value) (hw : ∀ d ∈ tables_1, d.before a0 Z = true) (ws : List Jvm.Cond) (n0 : Nat) (h0 : Heap) (hn0 : n0 ≤ h0.size) (xa : Addr) (xv : Int32) (L' : List (Addr × (Cell → Prop))) (H0 : OL n0 h0 ((xa, OA Z .boolean [(f_bit xv (0 : Int32)), (f_bit xv (1 : Int32))]) :: L')) :
    OC l Z (⟨"com/example/eratosthenes/eratosthenes/tune/GeneticSearchHalvesPinLaw", "kept", "([ZIII)Z"⟩ : MethodName) method_5_code 4 (some .boolean) ws ({ frames := 1, cells := 0, slots := 0, locals := 14 } : Room) n0 #[(.ref xa), (.int (1 : Int32)), (.int (2 : Int32)), (.int xv)] h0 (fun r h => r = some (.int 1) ∧ h0 = h) := by
  refine OC.of pn_0 hn0 #[.val (.ref xa), .val (.int (1 : Int32)), .val (.int (2 : Int32)), .val (.int xv)] (fun m => by first | (simp [entryFrame, mkF, argsToLocals, Value.category, maxLocals]; done) | rfl) ?_
  intro p e s m below meth cd0 T0 X0 Q' hQ
  refine o_iloadN X0 d5_0 rfl 1 rfl ?_
  refine o_iloadN X0 d5_1 rfl 2 rfl ?_
  refine o_icmpGe X0 d5_2 16 5 (by decide) (by decide) rfl (fun q => by exfalso; exact absurd q (by decide)) ?_
  intro hc2
  refine o_aloadN X0 d5_5 rfl rfl 6 rfl ?_
  refine o_iloadN X0 d5_6 rfl 7 rfl ?_
  refine o_baloadZ X0 H0 0 rfl d5_7 1 rfl (f_bit xv (1 : Int32)) rfl 8 rfl ?_
  refine o_iloadN X0 d5_8 rfl 9 rfl ?_
  refine o_iloadN X0 d5_9 rfl 10 rfl ?_
  refine o_callS X0 d5_10 (rest := [(.int (f_bit xv (1 : Int32)))]) (c_bit l Z a0 hw [] n0 _ X0.size xv (1 : Int32) ) (hw _ (List.mem_of_getElem? (i := 31) rfl)) (hw _ (List.mem_of_getElem? (i := 32) rfl)) (hw _ (List.mem_of_getElem? (i := 2) rfl)) (hw _ (List.mem_of_getElem? (i := 33) rfl)) (by decide) 1 (by decide) (by decide) rfl [(.int xv), (.int (1 : Int32))] rfl pd_6 rfl rfl (Nat.le_of_eq rfl) 0 0 rfl rfl (by decide) (by decide) 13 rfl ?_
  rintro _ T1 _ X1 ⟨rfl, rfl⟩
  show OE p e ({ frames := 1, cells := 0, slots := 0, locals := 14 } : Room) below s n0 Q' T1 (mkF m 13 #[.val (.ref xa), .val (.int (1 : Int32)), .val (.int (2 : Int32)), .val (.int xv)] [(.int (f_bit xv (1 : Int32))), (.int (f_bit xv (1 : Int32)))])
  refine o_icmpNe X1 d5_13 20 16 (by decide) (by decide) rfl (fun q => by exfalso; exact q rfl) ?_
  intro hc13
  refine o_iconst (v := (1 : Int32)) X1 d5_16 rfl 17 rfl ?_
  refine o_goto X1 d5_17 21 (by decide) (by decide) ?_
  exact o_retZ X1 d5_21 (by decide) (by decide) (hQ _ _ ⟨rfl, rfl⟩)
set_option maxRecDepth 65536 in
set_option maxHeartbeats 40000000 in
theorem c_at_2_1 (l : Launch) (Z : State) (a0 : Array Value) (hw : ∀ d ∈ tables_1, d.before a0 Z = true) (ws : List Jvm.Cond) (n0 : Nat) (h0 : Heap) (hn0 : n0 ≤ h0.size) (xa : Addr) (xx xy : Int32) (L' : List (Addr × (Cell → Prop))) (H0 : OL n0 h0 ((xa, OA Z .boolean [(f_bit xx (0 : Int32)), (f_bit xy (1 : Int32))]) :: L')) :
    OC l Z (⟨"com/example/eratosthenes/eratosthenes/tune/GeneticSearchHalvesPinLaw", "at", "([ZIIII)Z"⟩ : MethodName) method_4_code 6 (some .boolean) ws ({ frames := 1, cells := 0, slots := 0, locals := 14 } : Room) n0 #[(.ref xa), (.int (1 : Int32)), (.int (2 : Int32)), (.int xx), (.int xy)] h0 (fun r h => r = some (.int 1) ∧ h0 = h) := by
  refine OC.of pn_0 hn0 #[.val (.ref xa), .val (.int (1 : Int32)), .val (.int (2 : Int32)), .val (.int xx), .val (.int xy), .unset] (fun m => by first | (simp [entryFrame, mkF, argsToLocals, Value.category, maxLocals]; done) | rfl) ?_
  intro p e s m below meth cd0 T0 X0 Q' hQ
  refine o_iloadN X0 d3_0 rfl 1 rfl ?_
  refine o_iloadN X0 d3_1 rfl 2 rfl ?_
  refine o_icmpLt X0 d3_2 7 5 (by decide) (by decide) rfl ?_ (fun q => by exfalso; exact absurd q (by decide))
  intro hc2
  refine o_iloadN X0 d3_7 rfl 8 rfl ?_
  refine o_iloadN X0 d3_8 rfl 9 rfl ?_
  refine o_iconst (v := (2 : Int32)) X0 d3_9 rfl 10 rfl ?_
  refine o_idiv X0 d3_10 (by decide) 11 rfl ?_
  refine o_icmpGe X0 d3_11 22 14 (by decide) (by decide) rfl ?_ (fun q => by exfalso; exact absurd q (by decide))
  intro hc11
  refine o_iload X0 d3_22 rfl 24 rfl ?_
  refine o_iloadN X0 d3_24 rfl 25 rfl ?_
  refine o_callS X0 d3_25 (rest := []) (c_bit l Z a0 hw [] n0 _ X0.size xy (1 : Int32) ) (hw _ (List.mem_of_getElem? (i := 31) rfl)) (hw _ (List.mem_of_getElem? (i := 32) rfl)) (hw _ (List.mem_of_getElem? (i := 2) rfl)) (hw _ (List.mem_of_getElem? (i := 33) rfl)) (by decide) 0 (by decide) (by decide) rfl [(.int xy), (.int (1 : Int32))] rfl pd_6 rfl rfl (Nat.le_of_eq rfl) 0 0 rfl rfl (by decide) (by decide) 28 rfl ?_
  rintro _ T1 _ X1 ⟨rfl, rfl⟩
  show OE p e ({ frames := 1, cells := 0, slots := 0, locals := 14 } : Room) below s n0 Q' T1 (mkF m 28 #[.val (.ref xa), .val (.int (1 : Int32)), .val (.int (2 : Int32)), .val (.int xx), .val (.int xy), .unset] [(.int (f_bit xy (1 : Int32)))])
  refine o_istore X1 d3_28 #[.val (.ref xa), .val (.int (1 : Int32)), .val (.int (2 : Int32)), .val (.int xx), .val (.int xy), .val (.int (f_bit xy (1 : Int32)))] rfl 30 rfl ?_
  refine o_aloadN X1 d3_30 rfl rfl 31 rfl ?_
  refine o_iloadN X1 d3_31 rfl 32 rfl ?_
  refine o_baloadZ X1 H0 0 rfl d3_32 1 rfl (f_bit xy (1 : Int32)) rfl 33 rfl ?_
  refine o_iload X1 d3_33 rfl 35 rfl ?_
  refine o_icmpNe X1 d3_35 42 38 (by decide) (by decide) rfl (fun q => by exfalso; exact q rfl) ?_
  intro hc35
  refine o_iconst (v := (1 : Int32)) X1 d3_38 rfl 39 rfl ?_
  refine o_goto X1 d3_39 43 (by decide) (by decide) ?_
  exact o_retZ X1 d3_43 (by decide) (by decide) (hQ _ _ ⟨rfl, rfl⟩)
set_option maxRecDepth 65536 in
set_option maxHeartbeats 40000000 in
theorem c_kept_2_2 (l : Launch) (Z : State) (a0 : Array Value) (hw : ∀ d ∈ tables_1, d.before a0 Z = true) (ws : List Jvm.Cond) (n0 : Nat) (h0 : Heap) (hn0 : n0 ≤ h0.size) (xa : Addr) (xv : Int32) (L' : List (Addr × (Cell → Prop))) (H0 : OL n0 h0 ((xa, OA Z .boolean [(f_bit xv (0 : Int32)), (f_bit xv (1 : Int32))]) :: L')) :
    OC l Z (⟨"com/example/eratosthenes/eratosthenes/tune/GeneticSearchHalvesPinLaw", "kept", "([ZIII)Z"⟩ : MethodName) method_5_code 4 (some .boolean) ws ({ frames := 1, cells := 0, slots := 0, locals := 14 } : Room) n0 #[(.ref xa), (.int (2 : Int32)), (.int (2 : Int32)), (.int xv)] h0 (fun r h => r = some (.int 1) ∧ h0 = h) := by
  refine OC.of pn_0 hn0 #[.val (.ref xa), .val (.int (2 : Int32)), .val (.int (2 : Int32)), .val (.int xv)] (fun m => by first | (simp [entryFrame, mkF, argsToLocals, Value.category, maxLocals]; done) | rfl) ?_
  intro p e s m below meth cd0 T0 X0 Q' hQ
  refine o_iloadN X0 d5_0 rfl 1 rfl ?_
  refine o_iloadN X0 d5_1 rfl 2 rfl ?_
  refine o_icmpGe X0 d5_2 16 5 (by decide) (by decide) rfl ?_ (fun q => by exfalso; exact absurd q (by decide))
  intro hc2
  refine o_iconst (v := (1 : Int32)) X0 d5_16 rfl 17 rfl ?_
  refine o_goto X0 d5_17 21 (by decide) (by decide) ?_
  exact o_retZ X0 d5_21 (by decide) (by decide) (hQ _ _ ⟨rfl, rfl⟩)
set_option maxRecDepth 65536 in
set_option maxHeartbeats 40000000 in
theorem c_at_2_2 (l : Launch) (Z : State) (a0 : Array Value) (hw : ∀ d ∈ tables_1, d.before a0 Z = true) (ws : List Jvm.Cond) (n0 : Nat) (h0 : Heap) (hn0 : n0 ≤ h0.size) (xa : Addr) (xx xy : Int32) (L' : List (Addr × (Cell → Prop))) (H0 : OL n0 h0 ((xa, OA Z .boolean [(f_bit xx (0 : Int32)), (f_bit xy (1 : Int32))]) :: L')) :
    OC l Z (⟨"com/example/eratosthenes/eratosthenes/tune/GeneticSearchHalvesPinLaw", "at", "([ZIIII)Z"⟩ : MethodName) method_4_code 6 (some .boolean) ws ({ frames := 1, cells := 0, slots := 0, locals := 14 } : Room) n0 #[(.ref xa), (.int (2 : Int32)), (.int (2 : Int32)), (.int xx), (.int xy)] h0 (fun r h => r = some (.int 1) ∧ h0 = h) := by
  refine OC.of pn_0 hn0 #[.val (.ref xa), .val (.int (2 : Int32)), .val (.int (2 : Int32)), .val (.int xx), .val (.int xy), .unset] (fun m => by first | (simp [entryFrame, mkF, argsToLocals, Value.category, maxLocals]; done) | rfl) ?_
  intro p e s m below meth cd0 T0 X0 Q' hQ
  refine o_iloadN X0 d3_0 rfl 1 rfl ?_
  refine o_iloadN X0 d3_1 rfl 2 rfl ?_
  refine o_icmpLt X0 d3_2 7 5 (by decide) (by decide) rfl (fun q => by exfalso; exact absurd q (by decide)) ?_
  intro hc2
  refine o_iconst (v := (1 : Int32)) X0 d3_5 rfl 6 rfl ?_
  exact o_retZ X0 d3_6 (by decide) (by decide) (hQ _ _ ⟨rfl, rfl⟩)
set_option maxRecDepth 65536 in
set_option maxHeartbeats 40000000 in
theorem c_kept_2_3 (l : Launch) (Z : State) (a0 : Array Value) (hw : ∀ d ∈ tables_1, d.before a0 Z = true) (ws : List Jvm.Cond) (n0 : Nat) (h0 : Heap) (hn0 : n0 ≤ h0.size) (xa : Addr) (xv : Int32) (L' : List (Addr × (Cell → Prop))) (H0 : OL n0 h0 ((xa, OA Z .boolean [(f_bit xv (0 : Int32)), (f_bit xv (1 : Int32))]) :: L')) :
    OC l Z (⟨"com/example/eratosthenes/eratosthenes/tune/GeneticSearchHalvesPinLaw", "kept", "([ZIII)Z"⟩ : MethodName) method_5_code 4 (some .boolean) ws ({ frames := 1, cells := 0, slots := 0, locals := 14 } : Room) n0 #[(.ref xa), (.int (3 : Int32)), (.int (2 : Int32)), (.int xv)] h0 (fun r h => r = some (.int 1) ∧ h0 = h) := by
  refine OC.of pn_0 hn0 #[.val (.ref xa), .val (.int (3 : Int32)), .val (.int (2 : Int32)), .val (.int xv)] (fun m => by first | (simp [entryFrame, mkF, argsToLocals, Value.category, maxLocals]; done) | rfl) ?_
  intro p e s m below meth cd0 T0 X0 Q' hQ
  refine o_iloadN X0 d5_0 rfl 1 rfl ?_
  refine o_iloadN X0 d5_1 rfl 2 rfl ?_
  refine o_icmpGe X0 d5_2 16 5 (by decide) (by decide) rfl ?_ (fun q => by exfalso; exact absurd q (by decide))
  intro hc2
  refine o_iconst (v := (1 : Int32)) X0 d5_16 rfl 17 rfl ?_
  refine o_goto X0 d5_17 21 (by decide) (by decide) ?_
  exact o_retZ X0 d5_21 (by decide) (by decide) (hQ _ _ ⟨rfl, rfl⟩)
set_option maxRecDepth 65536 in
set_option maxHeartbeats 40000000 in
theorem c_at_2_3 (l : Launch) (Z : State) (a0 : Array Value) (hw : ∀ d ∈ tables_1, d.before a0 Z = true) (ws : List Jvm.Cond) (n0 : Nat) (h0 : Heap) (hn0 : n0 ≤ h0.size) (xa : Addr) (xx xy : Int32) (L' : List (Addr × (Cell → Prop))) (H0 : OL n0 h0 ((xa, OA Z .boolean [(f_bit xx (0 : Int32)), (f_bit xy (1 : Int32))]) :: L')) :
    OC l Z (⟨"com/example/eratosthenes/eratosthenes/tune/GeneticSearchHalvesPinLaw", "at", "([ZIIII)Z"⟩ : MethodName) method_4_code 6 (some .boolean) ws ({ frames := 1, cells := 0, slots := 0, locals := 14 } : Room) n0 #[(.ref xa), (.int (3 : Int32)), (.int (2 : Int32)), (.int xx), (.int xy)] h0 (fun r h => r = some (.int 1) ∧ h0 = h) := by
  refine OC.of pn_0 hn0 #[.val (.ref xa), .val (.int (3 : Int32)), .val (.int (2 : Int32)), .val (.int xx), .val (.int xy), .unset] (fun m => by first | (simp [entryFrame, mkF, argsToLocals, Value.category, maxLocals]; done) | rfl) ?_
  intro p e s m below meth cd0 T0 X0 Q' hQ
  refine o_iloadN X0 d3_0 rfl 1 rfl ?_
  refine o_iloadN X0 d3_1 rfl 2 rfl ?_
  refine o_icmpLt X0 d3_2 7 5 (by decide) (by decide) rfl (fun q => by exfalso; exact absurd q (by decide)) ?_
  intro hc2
  refine o_iconst (v := (1 : Int32)) X0 d3_5 rfl 6 rfl ?_
  exact o_retZ X0 d3_6 (by decide) (by decide) (hQ _ _ ⟨rfl, rfl⟩)
set_option maxRecDepth 65536 in
set_option maxHeartbeats 40000000 in
theorem c_kept_2_4 (l : Launch) (Z : State) (a0 : Array Value) (hw : ∀ d ∈ tables_1, d.before a0 Z = true) (ws : List Jvm.Cond) (n0 : Nat) (h0 : Heap) (hn0 : n0 ≤ h0.size) (xa : Addr) (xv : Int32) (L' : List (Addr × (Cell → Prop))) (H0 : OL n0 h0 ((xa, OA Z .boolean [(f_bit xv (0 : Int32)), (f_bit xv (1 : Int32))]) :: L')) :
    OC l Z (⟨"com/example/eratosthenes/eratosthenes/tune/GeneticSearchHalvesPinLaw", "kept", "([ZIII)Z"⟩ : MethodName) method_5_code 4 (some .boolean) ws ({ frames := 1, cells := 0, slots := 0, locals := 14 } : Room) n0 #[(.ref xa), (.int (4 : Int32)), (.int (2 : Int32)), (.int xv)] h0 (fun r h => r = some (.int 1) ∧ h0 = h) := by
  refine OC.of pn_0 hn0 #[.val (.ref xa), .val (.int (4 : Int32)), .val (.int (2 : Int32)), .val (.int xv)] (fun m => by first | (simp [entryFrame, mkF, argsToLocals, Value.category, maxLocals]; done) | rfl) ?_
  intro p e s m below meth cd0 T0 X0 Q' hQ
  refine o_iloadN X0 d5_0 rfl 1 rfl ?_
  refine o_iloadN X0 d5_1 rfl 2 rfl ?_
  refine o_icmpGe X0 d5_2 16 5 (by decide) (by decide) rfl ?_ (fun q => by exfalso; exact absurd q (by decide))
  intro hc2
  refine o_iconst (v := (1 : Int32)) X0 d5_16 rfl 17 rfl ?_
  refine o_goto X0 d5_17 21 (by decide) (by decide) ?_
  exact o_retZ X0 d5_21 (by decide) (by decide) (hQ _ _ ⟨rfl, rfl⟩)
set_option maxRecDepth 65536 in
set_option maxHeartbeats 40000000 in
theorem c_at_2_4 (l : Launch) (Z : State) (a0 : Array Value) (hw : ∀ d ∈ tables_1, d.before a0 Z = true) (ws : List Jvm.Cond) (n0 : Nat) (h0 : Heap) (hn0 : n0 ≤ h0.size) (xa : Addr) (xx xy : Int32) (L' : List (Addr × (Cell → Prop))) (H0 : OL n0 h0 ((xa, OA Z .boolean [(f_bit xx (0 : Int32)), (f_bit xy (1 : Int32))]) :: L')) :
    OC l Z (⟨"com/example/eratosthenes/eratosthenes/tune/GeneticSearchHalvesPinLaw", "at", "([ZIIII)Z"⟩ : MethodName) method_4_code 6 (some .boolean) ws ({ frames := 1, cells := 0, slots := 0, locals := 14 } : Room) n0 #[(.ref xa), (.int (4 : Int32)), (.int (2 : Int32)), (.int xx), (.int xy)] h0 (fun r h => r = some (.int 1) ∧ h0 = h) := by
  refine OC.of pn_0 hn0 #[.val (.ref xa), .val (.int (4 : Int32)), .val (.int (2 : Int32)), .val (.int xx), .val (.int xy), .unset] (fun m => by first | (simp [entryFrame, mkF, argsToLocals, Value.category, maxLocals]; done) | rfl) ?_
  intro p e s m below meth cd0 T0 X0 Q' hQ
  refine o_iloadN X0 d3_0 rfl 1 rfl ?_
  refine o_iloadN X0 d3_1 rfl 2 rfl ?_
  refine o_icmpLt X0 d3_2 7 5 (by decide) (by decide) rfl (fun q => by exfalso; exact absurd q (by decide)) ?_
  intro hc2
  refine o_iconst (v := (1 : Int32)) X0 d3_5 rfl 6 rfl ?_
  exact o_retZ X0 d3_6 (by decide) (by decide) (hQ _ _ ⟨rfl, rfl⟩)
set_option maxRecDepth 65536 in
set_option maxHeartbeats 40000000 in
theorem c_kept_2_5 (l : Launch) (Z : State) (a0 : Array Value) (hw : ∀ d ∈ tables_1, d.before a0 Z = true) (ws : List Jvm.Cond) (n0 : Nat) (h0 : Heap) (hn0 : n0 ≤ h0.size) (xa : Addr) (xv : Int32) (L' : List (Addr × (Cell → Prop))) (H0 : OL n0 h0 ((xa, OA Z .boolean [(f_bit xv (0 : Int32)), (f_bit xv (1 : Int32))]) :: L')) :
    OC l Z (⟨"com/example/eratosthenes/eratosthenes/tune/GeneticSearchHalvesPinLaw", "kept", "([ZIII)Z"⟩ : MethodName) method_5_code 4 (some .boolean) ws ({ frames := 1, cells := 0, slots := 0, locals := 14 } : Room) n0 #[(.ref xa), (.int (5 : Int32)), (.int (2 : Int32)), (.int xv)] h0 (fun r h => r = some (.int 1) ∧ h0 = h) := by
  refine OC.of pn_0 hn0 #[.val (.ref xa), .val (.int (5 : Int32)), .val (.int (2 : Int32)), .val (.int xv)] (fun m => by first | (simp [entryFrame, mkF, argsToLocals, Value.category, maxLocals]; done) | rfl) ?_
  intro p e s m below meth cd0 T0 X0 Q' hQ
  refine o_iloadN X0 d5_0 rfl 1 rfl ?_
  refine o_iloadN X0 d5_1 rfl 2 rfl ?_
  refine o_icmpGe X0 d5_2 16 5 (by decide) (by decide) rfl ?_ (fun q => by exfalso; exact absurd q (by decide))
  intro hc2
  refine o_iconst (v := (1 : Int32)) X0 d5_16 rfl 17 rfl ?_
  refine o_goto X0 d5_17 21 (by decide) (by decide) ?_
  exact o_retZ X0 d5_21 (by decide) (by decide) (hQ _ _ ⟨rfl, rfl⟩)
set_option maxRecDepth 65536 in
set_option maxHeartbeats 40000000 in
theorem c_at_2_5 (l : Launch) (Z : State) (a0 : Array Value) (hw : ∀ d ∈ tables_1, d.before a0 Z = true) (ws : List Jvm.Cond) (n0 : Nat) (h0 : Heap) (hn0 : n0 ≤ h0.size) (xa : Addr) (xx xy : Int32) (L' : List (Addr × (Cell → Prop))) (H0 : OL n0 h0 ((xa, OA Z .boolean [(f_bit xx (0 : Int32)), (f_bit xy (1 : Int32))]) :: L')) :
    OC l Z (⟨"com/example/eratosthenes/eratosthenes/tune/GeneticSearchHalvesPinLaw", "at", "([ZIIII)Z"⟩ : MethodName) method_4_code 6 (some .boolean) ws ({ frames := 1, cells := 0, slots := 0, locals := 14 } : Room) n0 #[(.ref xa), (.int (5 : Int32)), (.int (2 : Int32)), (.int xx), (.int xy)] h0 (fun r h => r = some (.int 1) ∧ h0 = h) := by
  refine OC.of pn_0 hn0 #[.val (.ref xa), .val (.int (5 : Int32)), .val (.int (2 : Int32)), .val (.int xx), .val (.int xy), .unset] (fun m => by first | (simp [entryFrame, mkF, argsToLocals, Value.category, maxLocals]; done) | rfl) ?_
  intro p e s m below meth cd0 T0 X0 Q' hQ
  refine o_iloadN X0 d3_0 rfl 1 rfl ?_
  refine o_iloadN X0 d3_1 rfl 2 rfl ?_
  refine o_icmpLt X0 d3_2 7 5 (by decide) (by decide) rfl (fun q => by exfalso; exact absurd q (by decide)) ?_
  intro hc2
  refine o_iconst (v := (1 : Int32)) X0 d3_5 rfl 6 rfl ?_
  exact o_retZ X0 d3_6 (by decide) (by decide) (hQ _ _ ⟨rfl, rfl⟩)
set_option maxRecDepth 65536 in
set_option maxHeartbeats 40000000 in
theorem c_kept_2_6 (l : Launch) (Z : State) (a0 : Array Value) (hw : ∀ d ∈ tables_1, d.before a0 Z = true) (ws : List Jvm.Cond) (n0 : Nat) (h0 : Heap) (hn0 : n0 ≤ h0.size) (xa : Addr) (xv : Int32) (L' : List (Addr × (Cell → Prop))) (H0 : OL n0 h0 ((xa, OA Z .boolean [(f_bit xv (0 : Int32)), (f_bit xv (1 : Int32))]) :: L')) :
    OC l Z (⟨"com/example/eratosthenes/eratosthenes/tune/GeneticSearchHalvesPinLaw", "kept", "([ZIII)Z"⟩ : MethodName) method_5_code 4 (some .boolean) ws ({ frames := 1, cells := 0, slots := 0, locals := 14 } : Room) n0 #[(.ref xa), (.int (6 : Int32)), (.int (2 : Int32)), (.int xv)] h0 (fun r h => r = some (.int 1) ∧ h0 = h) := by
  refine OC.of pn_0 hn0 #[.val (.ref xa), .val (.int (6 : Int32)), .val (.int (2 : Int32)), .val (.int xv)] (fun m => by first | (simp [entryFrame, mkF, argsToLocals, Value.category, maxLocals]; done) | rfl) ?_
  intro p e s m below meth cd0 T0 X0 Q' hQ
  refine o_iloadN X0 d5_0 rfl 1 rfl ?_
  refine o_iloadN X0 d5_1 rfl 2 rfl ?_
  refine o_icmpGe X0 d5_2 16 5 (by decide) (by decide) rfl ?_ (fun q => by exfalso; exact absurd q (by decide))
  intro hc2
  refine o_iconst (v := (1 : Int32)) X0 d5_16 rfl 17 rfl ?_
  refine o_goto X0 d5_17 21 (by decide) (by decide) ?_
  exact o_retZ X0 d5_21 (by decide) (by decide) (hQ _ _ ⟨rfl, rfl⟩)
set_option maxRecDepth 65536 in
set_option maxHeartbeats 40000000 in
theorem c_at_2_6 (l : Launch) (Z : State) (a0 : Array Value) (hw : ∀ d ∈ tables_1, d.before a0 Z = true) (ws : List Jvm.Cond) (n0 : Nat) (h0 : Heap) (hn0 : n0 ≤ h0.size) (xa : Addr) (xx xy : Int32) (L' : List (Addr × (Cell → Prop))) (H0 : OL n0 h0 ((xa, OA Z .boolean [(f_bit xx (0 : Int32)), (f_bit xy (1 : Int32))]) :: L')) :
    OC l Z (⟨"com/example/eratosthenes/eratosthenes/tune/GeneticSearchHalvesPinLaw", "at", "([ZIIII)Z"⟩ : MethodName) method_4_code 6 (some .boolean) ws ({ frames := 1, cells := 0, slots := 0, locals := 14 } : Room) n0 #[(.ref xa), (.int (6 : Int32)), (.int (2 : Int32)), (.int xx), (.int xy)] h0 (fun r h => r = some (.int 1) ∧ h0 = h) := by
  refine OC.of pn_0 hn0 #[.val (.ref xa), .val (.int (6 : Int32)), .val (.int (2 : Int32)), .val (.int xx), .val (.int xy), .unset] (fun m => by first | (simp [entryFrame, mkF, argsToLocals, Value.category, maxLocals]; done) | rfl) ?_
  intro p e s m below meth cd0 T0 X0 Q' hQ
  refine o_iloadN X0 d3_0 rfl 1 rfl ?_
  refine o_iloadN X0 d3_1 rfl 2 rfl ?_
  refine o_icmpLt X0 d3_2 7 5 (by decide) (by decide) rfl (fun q => by exfalso; exact absurd q (by decide)) ?_
  intro hc2
  refine o_iconst (v := (1 : Int32)) X0 d3_5 rfl 6 rfl ?_
  exact o_retZ X0 d3_6 (by decide) (by decide) (hQ _ _ ⟨rfl, rfl⟩)
set_option maxRecDepth 65536 in
set_option maxHeartbeats 40000000 in
theorem c_kept_3_0 (l : Launch) (Z : State) (a0 : Array Value) (hw : ∀ d ∈ tables_1, d.before a0 Z = true) (ws : List Jvm.Cond) (n0 : Nat) (h0 : Heap) (hn0 : n0 ≤ h0.size) (xa : Addr) (xv : Int32) (L' : List (Addr × (Cell → Prop))) (H0 : OL n0 h0 ((xa, OA Z .boolean [(f_bit xv (0 : Int32)), (f_bit xv (1 : Int32)), (f_bit xv (2 : Int32))]) :: L')) :
    OC l Z (⟨"com/example/eratosthenes/eratosthenes/tune/GeneticSearchHalvesPinLaw", "kept", "([ZIII)Z"⟩ : MethodName) method_5_code 4 (some .boolean) ws ({ frames := 1, cells := 0, slots := 0, locals := 14 } : Room) n0 #[(.ref xa), (.int (0 : Int32)), (.int (3 : Int32)), (.int xv)] h0 (fun r h => r = some (.int 1) ∧ h0 = h) := by
  refine OC.of pn_0 hn0 #[.val (.ref xa), .val (.int (0 : Int32)), .val (.int (3 : Int32)), .val (.int xv)] (fun m => by first | (simp [entryFrame, mkF, argsToLocals, Value.category, maxLocals]; done) | rfl) ?_
  intro p e s m below meth cd0 T0 X0 Q' hQ
  refine o_iloadN X0 d5_0 rfl 1 rfl ?_
  refine o_iloadN X0 d5_1 rfl 2 rfl ?_
  refine o_icmpGe X0 d5_2 16 5 (by decide) (by decide) rfl (fun q => by exfalso; exact absurd q (by decide)) ?_
  intro hc2
  refine o_aloadN X0 d5_5 rfl rfl 6 rfl ?_
  refine o_iloadN X0 d5_6 rfl 7 rfl ?_
  refine o_baloadZ X0 H0 0 rfl d5_7 0 rfl (f_bit xv (0 : Int32)) rfl 8 rfl ?_
  refine o_iloadN X0 d5_8 rfl 9 rfl ?_
  refine o_iloadN X0 d5_9 rfl 10 rfl ?_
  refine o_callS X0 d5_10 (rest := [(.int (f_bit xv (0 : Int32)))]) (c_bit l Z a0 hw [] n0 _ X0.size xv (0 : Int32) ) (hw _ (List.mem_of_getElem? (i := 31) rfl)) (hw _ (List.mem_of_getElem? (i := 32) rfl)) (hw _ (List.mem_of_getElem? (i := 2) rfl)) (hw _ (List.mem_of_getElem? (i := 33) rfl)) (by decide) 1 (by decide) (by decide) rfl [(.int xv), (.int (0 : Int32))] rfl pd_6 rfl rfl (Nat.le_of_eq rfl) 0 0 rfl rfl (by decide) (by decide) 13 rfl ?_
  rintro _ T1 _ X1 ⟨rfl, rfl⟩
  show OE p e ({ frames := 1, cells := 0, slots := 0, locals := 14 } : Room) below s n0 Q' T1 (mkF m 13 #[.val (.ref xa), .val (.int (0 : Int32)), .val (.int (3 : Int32)), .val (.int xv)] [(.int (f_bit xv (0 : Int32))), (.int (f_bit xv (0 : Int32)))])
  refine o_icmpNe X1 d5_13 20 16 (by decide) (by decide) rfl (fun q => by exfalso; exact q rfl) ?_
  intro hc13
  refine o_iconst (v := (1 : Int32)) X1 d5_16 rfl 17 rfl ?_
  refine o_goto X1 d5_17 21 (by decide) (by decide) ?_
  exact o_retZ X1 d5_21 (by decide) (by decide) (hQ _ _ ⟨rfl, rfl⟩)
set_option maxRecDepth 65536 in
set_option maxHeartbeats 40000000 in
theorem c_at_3_0 (l : Launch) (Z : State) (a0 : Array Value) (hw : ∀ d ∈ tables_1, d.before a0 Z = true) (ws : List Jvm.Cond) (n0 : Nat) (h0 : Heap) (hn0 : n0 ≤ h0.size) (xa : Addr) (xx xy : Int32) (L' : List (Addr × (Cell → Prop))) (H0 : OL n0 h0 ((xa, OA Z .boolean [(f_bit xx (0 : Int32)), (f_bit xy (1 : Int32)), (f_bit xy (2 : Int32))]) :: L')) :
    OC l Z (⟨"com/example/eratosthenes/eratosthenes/tune/GeneticSearchHalvesPinLaw", "at", "([ZIIII)Z"⟩ : MethodName) method_4_code 6 (some .boolean) ws ({ frames := 1, cells := 0, slots := 0, locals := 14 } : Room) n0 #[(.ref xa), (.int (0 : Int32)), (.int (3 : Int32)), (.int xx), (.int xy)] h0 (fun r h => r = some (.int 1) ∧ h0 = h) := by
  refine OC.of pn_0 hn0 #[.val (.ref xa), .val (.int (0 : Int32)), .val (.int (3 : Int32)), .val (.int xx), .val (.int xy), .unset] (fun m => by first | (simp [entryFrame, mkF, argsToLocals, Value.category, maxLocals]; done) | rfl) ?_
  intro p e s m below meth cd0 T0 X0 Q' hQ
  refine o_iloadN X0 d3_0 rfl 1 rfl ?_
  refine o_iloadN X0 d3_1 rfl 2 rfl ?_
  refine o_icmpLt X0 d3_2 7 5 (by decide) (by decide) rfl ?_ (fun q => by exfalso; exact absurd q (by decide))
  intro hc2
  refine o_iloadN X0 d3_7 rfl 8 rfl ?_
  refine o_iloadN X0 d3_8 rfl 9 rfl ?_
  refine o_iconst (v := (2 : Int32)) X0 d3_9 rfl 10 rfl ?_
  refine o_idiv X0 d3_10 (by decide) 11 rfl ?_
  refine o_icmpGe X0 d3_11 22 14 (by decide) (by decide) rfl (fun q => by exfalso; exact absurd q (by decide)) ?_
  intro hc11
  refine o_iloadN X0 d3_14 rfl 15 rfl ?_
  refine o_iloadN X0 d3_15 rfl 16 rfl ?_
  refine o_callS X0 d3_16 (rest := []) (c_bit l Z a0 hw [] n0 _ X0.size xx (0 : Int32) ) (hw _ (List.mem_of_getElem? (i := 31) rfl)) (hw _ (List.mem_of_getElem? (i := 32) rfl)) (hw _ (List.mem_of_getElem? (i := 2) rfl)) (hw _ (List.mem_of_getElem? (i := 33) rfl)) (by decide) 0 (by decide) (by decide) rfl [(.int xx), (.int (0 : Int32))] rfl pd_6 rfl rfl (Nat.le_of_eq rfl) 0 0 rfl rfl (by decide) (by decide) 19 rfl ?_
  rintro _ T1 _ X1 ⟨rfl, rfl⟩
  show OE p e ({ frames := 1, cells := 0, slots := 0, locals := 14 } : Room) below s n0 Q' T1 (mkF m 19 #[.val (.ref xa), .val (.int (0 : Int32)), .val (.int (3 : Int32)), .val (.int xx), .val (.int xy), .unset] [(.int (f_bit xx (0 : Int32)))])
  refine o_goto X1 d3_19 28 (by decide) (by decide) ?_
  refine o_istore X1 d3_28 #[.val (.ref xa), .val (.int (0 : Int32)), .val (.int (3 : Int32)), .val (.int xx), .val (.int xy), .val (.int (f_bit xx (0 : Int32)))] rfl 30 rfl ?_
  refine o_aloadN X1 d3_30 rfl rfl 31 rfl ?_
  refine o_iloadN X1 d3_31 rfl 32 rfl ?_
  refine o_baloadZ X1 H0 0 rfl d3_32 0 rfl (f_bit xx (0 : Int32)) rfl 33 rfl ?_
  refine o_iload X1 d3_33 rfl 35 rfl ?_
  refine o_icmpNe X1 d3_35 42 38 (by decide) (by decide) rfl (fun q => by exfalso; exact q rfl) ?_
  intro hc35
  refine o_iconst (v := (1 : Int32)) X1 d3_38 rfl 39 rfl ?_
  refine o_goto X1 d3_39 43 (by decide) (by decide) ?_
  exact o_retZ X1 d3_43 (by decide) (by decide) (hQ _ _ ⟨rfl, rfl⟩)
set_option maxRecDepth 65536 in
set_option maxHeartbeats 40000000 in
theorem c_kept_3_1 (l : Launch) (Z : State) (a0 : Array Value) (hw : ∀ d ∈ tables_1, d.before a0 Z = true) (ws : List Jvm.Cond) (n0 : Nat) (h0 : Heap) (hn0 : n0 ≤ h0.size) (xa : Addr) (xv : Int32) (L' : List (Addr × (Cell → Prop))) (H0 : OL n0 h0 ((xa, OA Z .boolean [(f_bit xv (0 : Int32)), (f_bit xv (1 : Int32)), (f_bit xv (2 : Int32))]) :: L')) :
    OC l Z (⟨"com/example/eratosthenes/eratosthenes/tune/GeneticSearchHalvesPinLaw", "kept", "([ZIII)Z"⟩ : MethodName) method_5_code 4 (some .boolean) ws ({ frames := 1, cells := 0, slots := 0, locals := 14 } : Room) n0 #[(.ref xa), (.int (1 : Int32)), (.int (3 : Int32)), (.int xv)] h0 (fun r h => r = some (.int 1) ∧ h0 = h) := by
  refine OC.of pn_0 hn0 #[.val (.ref xa), .val (.int (1 : Int32)), .val (.int (3 : Int32)), .val (.int xv)] (fun m => by first | (simp [entryFrame, mkF, argsToLocals, Value.category, maxLocals]; done) | rfl) ?_
  intro p e s m below meth cd0 T0 X0 Q' hQ
  refine o_iloadN X0 d5_0 rfl 1 rfl ?_
  refine o_iloadN X0 d5_1 rfl 2 rfl ?_
  refine o_icmpGe X0 d5_2 16 5 (by decide) (by decide) rfl (fun q => by exfalso; exact absurd q (by decide)) ?_
  intro hc2
  refine o_aloadN X0 d5_5 rfl rfl 6 rfl ?_
  refine o_iloadN X0 d5_6 rfl 7 rfl ?_
  refine o_baloadZ X0 H0 0 rfl d5_7 1 rfl (f_bit xv (1 : Int32)) rfl 8 rfl ?_
  refine o_iloadN X0 d5_8 rfl 9 rfl ?_
  refine o_iloadN X0 d5_9 rfl 10 rfl ?_
  refine o_callS X0 d5_10 (rest := [(.int (f_bit xv (1 : Int32)))]) (c_bit l Z a0 hw [] n0 _ X0.size xv (1 : Int32) ) (hw _ (List.mem_of_getElem? (i := 31) rfl)) (hw _ (List.mem_of_getElem? (i := 32) rfl)) (hw _ (List.mem_of_getElem? (i := 2) rfl)) (hw _ (List.mem_of_getElem? (i := 33) rfl)) (by decide) 1 (by decide) (by decide) rfl [(.int xv), (.int (1 : Int32))] rfl pd_6 rfl rfl (Nat.le_of_eq rfl) 0 0 rfl rfl (by decide) (by decide) 13 rfl ?_
  rintro _ T1 _ X1 ⟨rfl, rfl⟩
  show OE p e ({ frames := 1, cells := 0, slots := 0, locals := 14 } : Room) below s n0 Q' T1 (mkF m 13 #[.val (.ref xa), .val (.int (1 : Int32)), .val (.int (3 : Int32)), .val (.int xv)] [(.int (f_bit xv (1 : Int32))), (.int (f_bit xv (1 : Int32)))])
  refine o_icmpNe X1 d5_13 20 16 (by decide) (by decide) rfl (fun q => by exfalso; exact q rfl) ?_
  intro hc13
  refine o_iconst (v := (1 : Int32)) X1 d5_16 rfl 17 rfl ?_
  refine o_goto X1 d5_17 21 (by decide) (by decide) ?_
  exact o_retZ X1 d5_21 (by decide) (by decide) (hQ _ _ ⟨rfl, rfl⟩)
set_option maxRecDepth 65536 in
set_option maxHeartbeats 40000000 in
theorem c_at_3_1 (l : Launch) (Z : State) (a0 : Array Value) (hw : ∀ d ∈ tables_1, d.before a0 Z = true) (ws : List Jvm.Cond) (n0 : Nat) (h0 : Heap) (hn0 : n0 ≤ h0.size) (xa : Addr) (xx xy : Int32) (L' : List (Addr × (Cell → Prop))) (H0 : OL n0 h0 ((xa, OA Z .boolean [(f_bit xx (0 : Int32)), (f_bit xy (1 : Int32)), (f_bit xy (2 : Int32))]) :: L')) :
    OC l Z (⟨"com/example/eratosthenes/eratosthenes/tune/GeneticSearchHalvesPinLaw", "at", "([ZIIII)Z"⟩ : MethodName) method_4_code 6 (some .boolean) ws ({ frames := 1, cells := 0, slots := 0, locals := 14 } : Room) n0 #[(.ref xa), (.int (1 : Int32)), (.int (3 : Int32)), (.int xx), (.int xy)] h0 (fun r h => r = some (.int 1) ∧ h0 = h) := by
  refine OC.of pn_0 hn0 #[.val (.ref xa), .val (.int (1 : Int32)), .val (.int (3 : Int32)), .val (.int xx), .val (.int xy), .unset] (fun m => by first | (simp [entryFrame, mkF, argsToLocals, Value.category, maxLocals]; done) | rfl) ?_
  intro p e s m below meth cd0 T0 X0 Q' hQ
  refine o_iloadN X0 d3_0 rfl 1 rfl ?_
  refine o_iloadN X0 d3_1 rfl 2 rfl ?_
  refine o_icmpLt X0 d3_2 7 5 (by decide) (by decide) rfl ?_ (fun q => by exfalso; exact absurd q (by decide))
  intro hc2
  refine o_iloadN X0 d3_7 rfl 8 rfl ?_
  refine o_iloadN X0 d3_8 rfl 9 rfl ?_
  refine o_iconst (v := (2 : Int32)) X0 d3_9 rfl 10 rfl ?_
  refine o_idiv X0 d3_10 (by decide) 11 rfl ?_
  refine o_icmpGe X0 d3_11 22 14 (by decide) (by decide) rfl ?_ (fun q => by exfalso; exact absurd q (by decide))
  intro hc11
  refine o_iload X0 d3_22 rfl 24 rfl ?_
  refine o_iloadN X0 d3_24 rfl 25 rfl ?_
  refine o_callS X0 d3_25 (rest := []) (c_bit l Z a0 hw [] n0 _ X0.size xy (1 : Int32) ) (hw _ (List.mem_of_getElem? (i := 31) rfl)) (hw _ (List.mem_of_getElem? (i := 32) rfl)) (hw _ (List.mem_of_getElem? (i := 2) rfl)) (hw _ (List.mem_of_getElem? (i := 33) rfl)) (by decide) 0 (by decide) (by decide) rfl [(.int xy), (.int (1 : Int32))] rfl pd_6 rfl rfl (Nat.le_of_eq rfl) 0 0 rfl rfl (by decide) (by decide) 28 rfl ?_
  rintro _ T1 _ X1 ⟨rfl, rfl⟩
  show OE p e ({ frames := 1, cells := 0, slots := 0, locals := 14 } : Room) below s n0 Q' T1 (mkF m 28 #[.val (.ref xa), .val (.int (1 : Int32)), .val (.int (3 : Int32)), .val (.int xx), .val (.int xy), .unset] [(.int (f_bit xy (1 : Int32)))])
  refine o_istore X1 d3_28 #[.val (.ref xa), .val (.int (1 : Int32)), .val (.int (3 : Int32)), .val (.int xx), .val (.int xy), .val (.int (f_bit xy (1 : Int32)))] rfl 30 rfl ?_
  refine o_aloadN X1 d3_30 rfl rfl 31 rfl ?_
  refine o_iloadN X1 d3_31 rfl 32 rfl ?_
  refine o_baloadZ X1 H0 0 rfl d3_32 1 rfl (f_bit xy (1 : Int32)) rfl 33 rfl ?_
  refine o_iload X1 d3_33 rfl 35 rfl ?_
  refine o_icmpNe X1 d3_35 42 38 (by decide) (by decide) rfl (fun q => by exfalso; exact q rfl) ?_
  intro hc35
  refine o_iconst (v := (1 : Int32)) X1 d3_38 rfl 39 rfl ?_
  refine o_goto X1 d3_39 43 (by decide) (by decide) ?_
  exact o_retZ X1 d3_43 (by decide) (by decide) (hQ _ _ ⟨rfl, rfl⟩)
set_option maxRecDepth 65536 in
set_option maxHeartbeats 40000000 in
theorem c_kept_3_2 (l : Launch) (Z : State) (a0 : Array Value) (hw : ∀ d ∈ tables_1, d.before a0 Z = true) (ws : List Jvm.Cond) (n0 : Nat) (h0 : Heap) (hn0 : n0 ≤ h0.size) (xa : Addr) (xv : Int32) (L' : List (Addr × (Cell → Prop))) (H0 : OL n0 h0 ((xa, OA Z .boolean [(f_bit xv (0 : Int32)), (f_bit xv (1 : Int32)), (f_bit xv (2 : Int32))]) :: L')) :
    OC l Z (⟨"com/example/eratosthenes/eratosthenes/tune/GeneticSearchHalvesPinLaw", "kept", "([ZIII)Z"⟩ : MethodName) method_5_code 4 (some .boolean) ws ({ frames := 1, cells := 0, slots := 0, locals := 14 } : Room) n0 #[(.ref xa), (.int (2 : Int32)), (.int (3 : Int32)), (.int xv)] h0 (fun r h => r = some (.int 1) ∧ h0 = h) := by
  refine OC.of pn_0 hn0 #[.val (.ref xa), .val (.int (2 : Int32)), .val (.int (3 : Int32)), .val (.int xv)] (fun m => by first | (simp [entryFrame, mkF, argsToLocals, Value.category, maxLocals]; done) | rfl) ?_
  intro p e s m below meth cd0 T0 X0 Q' hQ
  refine o_iloadN X0 d5_0 rfl 1 rfl ?_
  refine o_iloadN X0 d5_1 rfl 2 rfl ?_
  refine o_icmpGe X0 d5_2 16 5 (by decide) (by decide) rfl (fun q => by exfalso; exact absurd q (by decide)) ?_
  intro hc2
  refine o_aloadN X0 d5_5 rfl rfl 6 rfl ?_
  refine o_iloadN X0 d5_6 rfl 7 rfl ?_
  refine o_baloadZ X0 H0 0 rfl d5_7 2 rfl (f_bit xv (2 : Int32)) rfl 8 rfl ?_
  refine o_iloadN X0 d5_8 rfl 9 rfl ?_
  refine o_iloadN X0 d5_9 rfl 10 rfl ?_
  refine o_callS X0 d5_10 (rest := [(.int (f_bit xv (2 : Int32)))]) (c_bit l Z a0 hw [] n0 _ X0.size xv (2 : Int32) ) (hw _ (List.mem_of_getElem? (i := 31) rfl)) (hw _ (List.mem_of_getElem? (i := 32) rfl)) (hw _ (List.mem_of_getElem? (i := 2) rfl)) (hw _ (List.mem_of_getElem? (i := 33) rfl)) (by decide) 1 (by decide) (by decide) rfl [(.int xv), (.int (2 : Int32))] rfl pd_6 rfl rfl (Nat.le_of_eq rfl) 0 0 rfl rfl (by decide) (by decide) 13 rfl ?_
  rintro _ T1 _ X1 ⟨rfl, rfl⟩
  show OE p e ({ frames := 1, cells := 0, slots := 0, locals := 14 } : Room) below s n0 Q' T1 (mkF m 13 #[.val (.ref xa), .val (.int (2 : Int32)), .val (.int (3 : Int32)), .val (.int xv)] [(.int (f_bit xv (2 : Int32))), (.int (f_bit xv (2 : Int32)))])
  refine o_icmpNe X1 d5_13 20 16 (by decide) (by decide) rfl (fun q => by exfalso; exact q rfl) ?_
  intro hc13
  refine o_iconst (v := (1 : Int32)) X1 d5_16 rfl 17 rfl ?_
  refine o_goto X1 d5_17 21 (by decide) (by decide) ?_
  exact o_retZ X1 d5_21 (by decide) (by decide) (hQ _ _ ⟨rfl, rfl⟩)
set_option maxRecDepth 65536 in
set_option maxHeartbeats 40000000 in
theorem c_at_3_2 (l : Launch) (Z : State) (a0 : Array Value) (hw : ∀ d ∈ tables_1, d.before a0 Z = true) (ws : List Jvm.Cond) (n0 : Nat) (h0 : Heap) (hn0 : n0 ≤ h0.size) (xa : Addr) (xx xy : Int32) (L' : List (Addr × (Cell → Prop))) (H0 : OL n0 h0 ((xa, OA Z .boolean [(f_bit xx (0 : Int32)), (f_bit xy (1 : Int32)), (f_bit xy (2 : Int32))]) :: L')) :
    OC l Z (⟨"com/example/eratosthenes/eratosthenes/tune/GeneticSearchHalvesPinLaw", "at", "([ZIIII)Z"⟩ : MethodName) method_4_code 6 (some .boolean) ws ({ frames := 1, cells := 0, slots := 0, locals := 14 } : Room) n0 #[(.ref xa), (.int (2 : Int32)), (.int (3 : Int32)), (.int xx), (.int xy)] h0 (fun r h => r = some (.int 1) ∧ h0 = h) := by
  refine OC.of pn_0 hn0 #[.val (.ref xa), .val (.int (2 : Int32)), .val (.int (3 : Int32)), .val (.int xx), .val (.int xy), .unset] (fun m => by first | (simp [entryFrame, mkF, argsToLocals, Value.category, maxLocals]; done) | rfl) ?_
  intro p e s m below meth cd0 T0 X0 Q' hQ
  refine o_iloadN X0 d3_0 rfl 1 rfl ?_
  refine o_iloadN X0 d3_1 rfl 2 rfl ?_
  refine o_icmpLt X0 d3_2 7 5 (by decide) (by decide) rfl ?_ (fun q => by exfalso; exact absurd q (by decide))
  intro hc2
  refine o_iloadN X0 d3_7 rfl 8 rfl ?_
  refine o_iloadN X0 d3_8 rfl 9 rfl ?_
  refine o_iconst (v := (2 : Int32)) X0 d3_9 rfl 10 rfl ?_
  refine o_idiv X0 d3_10 (by decide) 11 rfl ?_
  refine o_icmpGe X0 d3_11 22 14 (by decide) (by decide) rfl ?_ (fun q => by exfalso; exact absurd q (by decide))
  intro hc11
  refine o_iload X0 d3_22 rfl 24 rfl ?_
  refine o_iloadN X0 d3_24 rfl 25 rfl ?_
  refine o_callS X0 d3_25 (rest := []) (c_bit l Z a0 hw [] n0 _ X0.size xy (2 : Int32) ) (hw _ (List.mem_of_getElem? (i := 31) rfl)) (hw _ (List.mem_of_getElem? (i := 32) rfl)) (hw _ (List.mem_of_getElem? (i := 2) rfl)) (hw _ (List.mem_of_getElem? (i := 33) rfl)) (by decide) 0 (by decide) (by decide) rfl [(.int xy), (.int (2 : Int32))] rfl pd_6 rfl rfl (Nat.le_of_eq rfl) 0 0 rfl rfl (by decide) (by decide) 28 rfl ?_
  rintro _ T1 _ X1 ⟨rfl, rfl⟩
  show OE p e ({ frames := 1, cells := 0, slots := 0, locals := 14 } : Room) below s n0 Q' T1 (mkF m 28 #[.val (.ref xa), .val (.int (2 : Int32)), .val (.int (3 : Int32)), .val (.int xx), .val (.int xy), .unset] [(.int (f_bit xy (2 : Int32)))])
  refine o_istore X1 d3_28 #[.val (.ref xa), .val (.int (2 : Int32)), .val (.int (3 : Int32)), .val (.int xx), .val (.int xy), .val (.int (f_bit xy (2 : Int32)))] rfl 30 rfl ?_
  refine o_aloadN X1 d3_30 rfl rfl 31 rfl ?_
  refine o_iloadN X1 d3_31 rfl 32 rfl ?_
  refine o_baloadZ X1 H0 0 rfl d3_32 2 rfl (f_bit xy (2 : Int32)) rfl 33 rfl ?_
  refine o_iload X1 d3_33 rfl 35 rfl ?_
  refine o_icmpNe X1 d3_35 42 38 (by decide) (by decide) rfl (fun q => by exfalso; exact q rfl) ?_
  intro hc35
  refine o_iconst (v := (1 : Int32)) X1 d3_38 rfl 39 rfl ?_
  refine o_goto X1 d3_39 43 (by decide) (by decide) ?_
  exact o_retZ X1 d3_43 (by decide) (by decide) (hQ _ _ ⟨rfl, rfl⟩)
set_option maxRecDepth 65536 in
set_option maxHeartbeats 40000000 in
theorem c_kept_3_3 (l : Launch) (Z : State) (a0 : Array Value) (hw : ∀ d ∈ tables_1, d.before a0 Z = true) (ws : List Jvm.Cond) (n0 : Nat) (h0 : Heap) (hn0 : n0 ≤ h0.size) (xa : Addr) (xv : Int32) (L' : List (Addr × (Cell → Prop))) (H0 : OL n0 h0 ((xa, OA Z .boolean [(f_bit xv (0 : Int32)), (f_bit xv (1 : Int32)), (f_bit xv (2 : Int32))]) :: L')) :
    OC l Z (⟨"com/example/eratosthenes/eratosthenes/tune/GeneticSearchHalvesPinLaw", "kept", "([ZIII)Z"⟩ : MethodName) method_5_code 4 (some .boolean) ws ({ frames := 1, cells := 0, slots := 0, locals := 14 } : Room) n0 #[(.ref xa), (.int (3 : Int32)), (.int (3 : Int32)), (.int xv)] h0 (fun r h => r = some (.int 1) ∧ h0 = h) := by
  refine OC.of pn_0 hn0 #[.val (.ref xa), .val (.int (3 : Int32)), .val (.int (3 : Int32)), .val (.int xv)] (fun m => by first | (simp [entryFrame, mkF, argsToLocals, Value.category, maxLocals]; done) | rfl) ?_
  intro p e s m below meth cd0 T0 X0 Q' hQ
  refine o_iloadN X0 d5_0 rfl 1 rfl ?_
  refine o_iloadN X0 d5_1 rfl 2 rfl ?_
  refine o_icmpGe X0 d5_2 16 5 (by decide) (by decide) rfl ?_ (fun q => by exfalso; exact absurd q (by decide))
  intro hc2
  refine o_iconst (v := (1 : Int32)) X0 d5_16 rfl 17 rfl ?_
  refine o_goto X0 d5_17 21 (by decide) (by decide) ?_
  exact o_retZ X0 d5_21 (by decide) (by decide) (hQ _ _ ⟨rfl, rfl⟩)
set_option maxRecDepth 65536 in
set_option maxHeartbeats 40000000 in
theorem c_at_3_3 (l : Launch) (Z : State) (a0 : Array Value) (hw : ∀ d ∈ tables_1, d.before a0 Z = true) (ws : List Jvm.Cond) (n0 : Nat) (h0 : Heap) (hn0 : n0 ≤ h0.size) (xa : Addr) (xx xy : Int32) (L' : List (Addr × (Cell → Prop))) (H0 : OL n0 h0 ((xa, OA Z .boolean [(f_bit xx (0 : Int32)), (f_bit xy (1 : Int32)), (f_bit xy (2 : Int32))]) :: L')) :
    OC l Z (⟨"com/example/eratosthenes/eratosthenes/tune/GeneticSearchHalvesPinLaw", "at", "([ZIIII)Z"⟩ : MethodName) method_4_code 6 (some .boolean) ws ({ frames := 1, cells := 0, slots := 0, locals := 14 } : Room) n0 #[(.ref xa), (.int (3 : Int32)), (.int (3 : Int32)), (.int xx), (.int xy)] h0 (fun r h => r = some (.int 1) ∧ h0 = h) := by
  refine OC.of pn_0 hn0 #[.val (.ref xa), .val (.int (3 : Int32)), .val (.int (3 : Int32)), .val (.int xx), .val (.int xy), .unset] (fun m => by first | (simp [entryFrame, mkF, argsToLocals, Value.category, maxLocals]; done) | rfl) ?_
  intro p e s m below meth cd0 T0 X0 Q' hQ
  refine o_iloadN X0 d3_0 rfl 1 rfl ?_
  refine o_iloadN X0 d3_1 rfl 2 rfl ?_
  refine o_icmpLt X0 d3_2 7 5 (by decide) (by decide) rfl (fun q => by exfalso; exact absurd q (by decide)) ?_
  intro hc2
  refine o_iconst (v := (1 : Int32)) X0 d3_5 rfl 6 rfl ?_
  exact o_retZ X0 d3_6 (by decide) (by decide) (hQ _ _ ⟨rfl, rfl⟩)
set_option maxRecDepth 65536 in
set_option maxHeartbeats 40000000 in
theorem c_kept_3_4 (l : Launch) (Z : State) (a0 : Array Value) (hw : ∀ d ∈ tables_1, d.before a0 Z = true) (ws : List Jvm.Cond) (n0 : Nat) (h0 : Heap) (hn0 : n0 ≤ h0.size) (xa : Addr) (xv : Int32) (L' : List (Addr × (Cell → Prop))) (H0 : OL n0 h0 ((xa, OA Z .boolean [(f_bit xv (0 : Int32)), (f_bit xv (1 : Int32)), (f_bit xv (2 : Int32))]) :: L')) :
    OC l Z (⟨"com/example/eratosthenes/eratosthenes/tune/GeneticSearchHalvesPinLaw", "kept", "([ZIII)Z"⟩ : MethodName) method_5_code 4 (some .boolean) ws ({ frames := 1, cells := 0, slots := 0, locals := 14 } : Room) n0 #[(.ref xa), (.int (4 : Int32)), (.int (3 : Int32)), (.int xv)] h0 (fun r h => r = some (.int 1) ∧ h0 = h) := by
  refine OC.of pn_0 hn0 #[.val (.ref xa), .val (.int (4 : Int32)), .val (.int (3 : Int32)), .val (.int xv)] (fun m => by first | (simp [entryFrame, mkF, argsToLocals, Value.category, maxLocals]; done) | rfl) ?_
  intro p e s m below meth cd0 T0 X0 Q' hQ
  refine o_iloadN X0 d5_0 rfl 1 rfl ?_
  refine o_iloadN X0 d5_1 rfl 2 rfl ?_
  refine o_icmpGe X0 d5_2 16 5 (by decide) (by decide) rfl ?_ (fun q => by exfalso; exact absurd q (by decide))
  intro hc2
  refine o_iconst (v := (1 : Int32)) X0 d5_16 rfl 17 rfl ?_
  refine o_goto X0 d5_17 21 (by decide) (by decide) ?_
  exact o_retZ X0 d5_21 (by decide) (by decide) (hQ _ _ ⟨rfl, rfl⟩)
set_option maxRecDepth 65536 in
set_option maxHeartbeats 40000000 in
theorem c_at_3_4 (l : Launch) (Z : State) (a0 : Array Value) (hw : ∀ d ∈ tables_1, d.before a0 Z = true) (ws : List Jvm.Cond) (n0 : Nat) (h0 : Heap) (hn0 : n0 ≤ h0.size) (xa : Addr) (xx xy : Int32) (L' : List (Addr × (Cell → Prop))) (H0 : OL n0 h0 ((xa, OA Z .boolean [(f_bit xx (0 : Int32)), (f_bit xy (1 : Int32)), (f_bit xy (2 : Int32))]) :: L')) :
    OC l Z (⟨"com/example/eratosthenes/eratosthenes/tune/GeneticSearchHalvesPinLaw", "at", "([ZIIII)Z"⟩ : MethodName) method_4_code 6 (some .boolean) ws ({ frames := 1, cells := 0, slots := 0, locals := 14 } : Room) n0 #[(.ref xa), (.int (4 : Int32)), (.int (3 : Int32)), (.int xx), (.int xy)] h0 (fun r h => r = some (.int 1) ∧ h0 = h) := by
  refine OC.of pn_0 hn0 #[.val (.ref xa), .val (.int (4 : Int32)), .val (.int (3 : Int32)), .val (.int xx), .val (.int xy), .unset] (fun m => by first | (simp [entryFrame, mkF, argsToLocals, Value.category, maxLocals]; done) | rfl) ?_
  intro p e s m below meth cd0 T0 X0 Q' hQ
  refine o_iloadN X0 d3_0 rfl 1 rfl ?_
  refine o_iloadN X0 d3_1 rfl 2 rfl ?_
  refine o_icmpLt X0 d3_2 7 5 (by decide) (by decide) rfl (fun q => by exfalso; exact absurd q (by decide)) ?_
  intro hc2
  refine o_iconst (v := (1 : Int32)) X0 d3_5 rfl 6 rfl ?_
  exact o_retZ X0 d3_6 (by decide) (by decide) (hQ _ _ ⟨rfl, rfl⟩)
set_option maxRecDepth 65536 in
set_option maxHeartbeats 40000000 in
theorem c_kept_3_5 (l : Launch) (Z : State) (a0 : Array Value) (hw : ∀ d ∈ tables_1, d.before a0 Z = true) (ws : List Jvm.Cond) (n0 : Nat) (h0 : Heap) (hn0 : n0 ≤ h0.size) (xa : Addr) (xv : Int32) (L' : List (Addr × (Cell → Prop))) (H0 : OL n0 h0 ((xa, OA Z .boolean [(f_bit xv (0 : Int32)), (f_bit xv (1 : Int32)), (f_bit xv (2 : Int32))]) :: L')) :
    OC l Z (⟨"com/example/eratosthenes/eratosthenes/tune/GeneticSearchHalvesPinLaw", "kept", "([ZIII)Z"⟩ : MethodName) method_5_code 4 (some .boolean) ws ({ frames := 1, cells := 0, slots := 0, locals := 14 } : Room) n0 #[(.ref xa), (.int (5 : Int32)), (.int (3 : Int32)), (.int xv)] h0 (fun r h => r = some (.int 1) ∧ h0 = h) := by
  refine OC.of pn_0 hn0 #[.val (.ref xa), .val (.int (5 : Int32)), .val (.int (3 : Int32)), .val (.int xv)] (fun m => by first | (simp [entryFrame, mkF, argsToLocals, Value.category, maxLocals]; done) | rfl) ?_
  intro p e s m below meth cd0 T0 X0 Q' hQ
  refine o_iloadN X0 d5_0 rfl 1 rfl ?_
  refine o_iloadN X0 d5_1 rfl 2 rfl ?_
  refine o_icmpGe X0 d5_2 16 5 (by decide) (by decide) rfl ?_ (fun q => by exfalso; exact absurd q (by decide))
  intro hc2
  refine o_iconst (v := (1 : Int32)) X0 d5_16 rfl 17 rfl ?_
  refine o_goto X0 d5_17 21 (by decide) (by decide) ?_
  exact o_retZ X0 d5_21 (by decide) (by decide) (hQ _ _ ⟨rfl, rfl⟩)
set_option maxRecDepth 65536 in
set_option maxHeartbeats 40000000 in
theorem c_at_3_5 (l : Launch) (Z : State) (a0 : Array Value) (hw : ∀ d ∈ tables_1, d.before a0 Z = true) (ws : List Jvm.Cond) (n0 : Nat) (h0 : Heap) (hn0 : n0 ≤ h0.size) (xa : Addr) (xx xy : Int32) (L' : List (Addr × (Cell → Prop))) (H0 : OL n0 h0 ((xa, OA Z .boolean [(f_bit xx (0 : Int32)), (f_bit xy (1 : Int32)), (f_bit xy (2 : Int32))]) :: L')) :
    OC l Z (⟨"com/example/eratosthenes/eratosthenes/tune/GeneticSearchHalvesPinLaw", "at", "([ZIIII)Z"⟩ : MethodName) method_4_code 6 (some .boolean) ws ({ frames := 1, cells := 0, slots := 0, locals := 14 } : Room) n0 #[(.ref xa), (.int (5 : Int32)), (.int (3 : Int32)), (.int xx), (.int xy)] h0 (fun r h => r = some (.int 1) ∧ h0 = h) := by
  refine OC.of pn_0 hn0 #[.val (.ref xa), .val (.int (5 : Int32)), .val (.int (3 : Int32)), .val (.int xx), .val (.int xy), .unset] (fun m => by first | (simp [entryFrame, mkF, argsToLocals, Value.category, maxLocals]; done) | rfl) ?_
  intro p e s m below meth cd0 T0 X0 Q' hQ
  refine o_iloadN X0 d3_0 rfl 1 rfl ?_
  refine o_iloadN X0 d3_1 rfl 2 rfl ?_
  refine o_icmpLt X0 d3_2 7 5 (by decide) (by decide) rfl (fun q => by exfalso; exact absurd q (by decide)) ?_
  intro hc2
  refine o_iconst (v := (1 : Int32)) X0 d3_5 rfl 6 rfl ?_
  exact o_retZ X0 d3_6 (by decide) (by decide) (hQ _ _ ⟨rfl, rfl⟩)
set_option maxRecDepth 65536 in
set_option maxHeartbeats 40000000 in
theorem c_kept_3_6 (l : Launch) (Z : State) (a0 : Array Value) (hw : ∀ d ∈ tables_1, d.before a0 Z = true) (ws : List Jvm.Cond) (n0 : Nat) (h0 : Heap) (hn0 : n0 ≤ h0.size) (xa : Addr) (xv : Int32) (L' : List (Addr × (Cell → Prop))) (H0 : OL n0 h0 ((xa, OA Z .boolean [(f_bit xv (0 : Int32)), (f_bit xv (1 : Int32)), (f_bit xv (2 : Int32))]) :: L')) :
    OC l Z (⟨"com/example/eratosthenes/eratosthenes/tune/GeneticSearchHalvesPinLaw", "kept", "([ZIII)Z"⟩ : MethodName) method_5_code 4 (some .boolean) ws ({ frames := 1, cells := 0, slots := 0, locals := 14 } : Room) n0 #[(.ref xa), (.int (6 : Int32)), (.int (3 : Int32)), (.int xv)] h0 (fun r h => r = some (.int 1) ∧ h0 = h) := by
  refine OC.of pn_0 hn0 #[.val (.ref xa), .val (.int (6 : Int32)), .val (.int (3 : Int32)), .val (.int xv)] (fun m => by first | (simp [entryFrame, mkF, argsToLocals, Value.category, maxLocals]; done) | rfl) ?_
  intro p e s m below meth cd0 T0 X0 Q' hQ
  refine o_iloadN X0 d5_0 rfl 1 rfl ?_
  refine o_iloadN X0 d5_1 rfl 2 rfl ?_
  refine o_icmpGe X0 d5_2 16 5 (by decide) (by decide) rfl ?_ (fun q => by exfalso; exact absurd q (by decide))
  intro hc2
  refine o_iconst (v := (1 : Int32)) X0 d5_16 rfl 17 rfl ?_
  refine o_goto X0 d5_17 21 (by decide) (by decide) ?_
  exact o_retZ X0 d5_21 (by decide) (by decide) (hQ _ _ ⟨rfl, rfl⟩)
set_option maxRecDepth 65536 in
set_option maxHeartbeats 40000000 in
theorem c_at_3_6 (l : Launch) (Z : State) (a0 : Array Value) (hw : ∀ d ∈ tables_1, d.before a0 Z = true) (ws : List Jvm.Cond) (n0 : Nat) (h0 : Heap) (hn0 : n0 ≤ h0.size) (xa : Addr) (xx xy : Int32) (L' : List (Addr × (Cell → Prop))) (H0 : OL n0 h0 ((xa, OA Z .boolean [(f_bit xx (0 : Int32)), (f_bit xy (1 : Int32)), (f_bit xy (2 : Int32))]) :: L')) :
    OC l Z (⟨"com/example/eratosthenes/eratosthenes/tune/GeneticSearchHalvesPinLaw", "at", "([ZIIII)Z"⟩ : MethodName) method_4_code 6 (some .boolean) ws ({ frames := 1, cells := 0, slots := 0, locals := 14 } : Room) n0 #[(.ref xa), (.int (6 : Int32)), (.int (3 : Int32)), (.int xx), (.int xy)] h0 (fun r h => r = some (.int 1) ∧ h0 = h) := by
  refine OC.of pn_0 hn0 #[.val (.ref xa), .val (.int (6 : Int32)), .val (.int (3 : Int32)), .val (.int xx), .val (.int xy), .unset] (fun m => by first | (simp [entryFrame, mkF, argsToLocals, Value.category, maxLocals]; done) | rfl) ?_
  intro p e s m below meth cd0 T0 X0 Q' hQ
  refine o_iloadN X0 d3_0 rfl 1 rfl ?_
  refine o_iloadN X0 d3_1 rfl 2 rfl ?_
  refine o_icmpLt X0 d3_2 7 5 (by decide) (by decide) rfl (fun q => by exfalso; exact absurd q (by decide)) ?_
  intro hc2
  refine o_iconst (v := (1 : Int32)) X0 d3_5 rfl 6 rfl ?_
  exact o_retZ X0 d3_6 (by decide) (by decide) (hQ _ _ ⟨rfl, rfl⟩)
set_option maxRecDepth 65536 in
set_option maxHeartbeats 40000000 in
theorem c_kept_4_0 (l : Launch) (Z : State) (a0 : Array Value) (hw : ∀ d ∈ tables_1, d.before a0 Z = true) (ws : List Jvm.Cond) (n0 : Nat) (h0 : Heap) (hn0 : n0 ≤ h0.size) (xa : Addr) (xv : Int32) (L' : List (Addr × (Cell → Prop))) (H0 : OL n0 h0 ((xa, OA Z .boolean [(f_bit xv (0 : Int32)), (f_bit xv (1 : Int32)), (f_bit xv (2 : Int32)), (f_bit xv (3 : Int32))]) :: L')) :
    OC l Z (⟨"com/example/eratosthenes/eratosthenes/tune/GeneticSearchHalvesPinLaw", "kept", "([ZIII)Z"⟩ : MethodName) method_5_code 4 (some .boolean) ws ({ frames := 1, cells := 0, slots := 0, locals := 14 } : Room) n0 #[(.ref xa), (.int (0 : Int32)), (.int (4 : Int32)), (.int xv)] h0 (fun r h => r = some (.int 1) ∧ h0 = h) := by
  refine OC.of pn_0 hn0 #[.val (.ref xa), .val (.int (0 : Int32)), .val (.int (4 : Int32)), .val (.int xv)] (fun m => by first | (simp [entryFrame, mkF, argsToLocals, Value.category, maxLocals]; done) | rfl) ?_
  intro p e s m below meth cd0 T0 X0 Q' hQ
  refine o_iloadN X0 d5_0 rfl 1 rfl ?_
  refine o_iloadN X0 d5_1 rfl 2 rfl ?_
  refine o_icmpGe X0 d5_2 16 5 (by decide) (by decide) rfl (fun q => by exfalso; exact absurd q (by decide)) ?_
  intro hc2
  refine o_aloadN X0 d5_5 rfl rfl 6 rfl ?_
  refine o_iloadN X0 d5_6 rfl 7 rfl ?_
  refine o_baloadZ X0 H0 0 rfl d5_7 0 rfl (f_bit xv (0 : Int32)) rfl 8 rfl ?_
  refine o_iloadN X0 d5_8 rfl 9 rfl ?_
  refine o_iloadN X0 d5_9 rfl 10 rfl ?_
  refine o_callS X0 d5_10 (rest := [(.int (f_bit xv (0 : Int32)))]) (c_bit l Z a0 hw [] n0 _ X0.size xv (0 : Int32) ) (hw _ (List.mem_of_getElem? (i := 31) rfl)) (hw _ (List.mem_of_getElem? (i := 32) rfl)) (hw _ (List.mem_of_getElem? (i := 2) rfl)) (hw _ (List.mem_of_getElem? (i := 33) rfl)) (by decide) 1 (by decide) (by decide) rfl [(.int xv), (.int (0 : Int32))] rfl pd_6 rfl rfl (Nat.le_of_eq rfl) 0 0 rfl rfl (by decide) (by decide) 13 rfl ?_
  rintro _ T1 _ X1 ⟨rfl, rfl⟩
  show OE p e ({ frames := 1, cells := 0, slots := 0, locals := 14 } : Room) below s n0 Q' T1 (mkF m 13 #[.val (.ref xa), .val (.int (0 : Int32)), .val (.int (4 : Int32)), .val (.int xv)] [(.int (f_bit xv (0 : Int32))), (.int (f_bit xv (0 : Int32)))])
  refine o_icmpNe X1 d5_13 20 16 (by decide) (by decide) rfl (fun q => by exfalso; exact q rfl) ?_
  intro hc13
  refine o_iconst (v := (1 : Int32)) X1 d5_16 rfl 17 rfl ?_
  refine o_goto X1 d5_17 21 (by decide) (by decide) ?_
  exact o_retZ X1 d5_21 (by decide) (by decide) (hQ _ _ ⟨rfl, rfl⟩)
set_option maxRecDepth 65536 in
set_option maxHeartbeats 40000000 in
theorem c_at_4_0 (l : Launch) (Z : State) (a0 : Array Value) (hw : ∀ d ∈ tables_1, d.before a0 Z = true) (ws : List Jvm.Cond) (n0 : Nat) (h0 : Heap) (hn0 : n0 ≤ h0.size) (xa : Addr) (xx xy : Int32) (L' : List (Addr × (Cell → Prop))) (H0 : OL n0 h0 ((xa, OA Z .boolean [(f_bit xx (0 : Int32)), (f_bit xx (1 : Int32)), (f_bit xy (2 : Int32)), (f_bit xy (3 : Int32))]) :: L')) :
    OC l Z (⟨"com/example/eratosthenes/eratosthenes/tune/GeneticSearchHalvesPinLaw", "at", "([ZIIII)Z"⟩ : MethodName) method_4_code 6 (some .boolean) ws ({ frames := 1, cells := 0, slots := 0, locals := 14 } : Room) n0 #[(.ref xa), (.int (0 : Int32)), (.int (4 : Int32)), (.int xx), (.int xy)] h0 (fun r h => r = some (.int 1) ∧ h0 = h) := by
  refine OC.of pn_0 hn0 #[.val (.ref xa), .val (.int (0 : Int32)), .val (.int (4 : Int32)), .val (.int xx), .val (.int xy), .unset] (fun m => by first | (simp [entryFrame, mkF, argsToLocals, Value.category, maxLocals]; done) | rfl) ?_
  intro p e s m below meth cd0 T0 X0 Q' hQ
  refine o_iloadN X0 d3_0 rfl 1 rfl ?_
  refine o_iloadN X0 d3_1 rfl 2 rfl ?_
  refine o_icmpLt X0 d3_2 7 5 (by decide) (by decide) rfl ?_ (fun q => by exfalso; exact absurd q (by decide))
  intro hc2
  refine o_iloadN X0 d3_7 rfl 8 rfl ?_
  refine o_iloadN X0 d3_8 rfl 9 rfl ?_
  refine o_iconst (v := (2 : Int32)) X0 d3_9 rfl 10 rfl ?_
  refine o_idiv X0 d3_10 (by decide) 11 rfl ?_
  refine o_icmpGe X0 d3_11 22 14 (by decide) (by decide) rfl (fun q => by exfalso; exact absurd q (by decide)) ?_
  intro hc11
  refine o_iloadN X0 d3_14 rfl 15 rfl ?_
  refine o_iloadN X0 d3_15 rfl 16 rfl ?_
  refine o_callS X0 d3_16 (rest := []) (c_bit l Z a0 hw [] n0 _ X0.size xx (0 : Int32) ) (hw _ (List.mem_of_getElem? (i := 31) rfl)) (hw _ (List.mem_of_getElem? (i := 32) rfl)) (hw _ (List.mem_of_getElem? (i := 2) rfl)) (hw _ (List.mem_of_getElem? (i := 33) rfl)) (by decide) 0 (by decide) (by decide) rfl [(.int xx), (.int (0 : Int32))] rfl pd_6 rfl rfl (Nat.le_of_eq rfl) 0 0 rfl rfl (by decide) (by decide) 19 rfl ?_
  rintro _ T1 _ X1 ⟨rfl, rfl⟩
  show OE p e ({ frames := 1, cells := 0, slots := 0, locals := 14 } : Room) below s n0 Q' T1 (mkF m 19 #[.val (.ref xa), .val (.int (0 : Int32)), .val (.int (4 : Int32)), .val (.int xx), .val (.int xy), .unset] [(.int (f_bit xx (0 : Int32)))])
  refine o_goto X1 d3_19 28 (by decide) (by decide) ?_
  refine o_istore X1 d3_28 #[.val (.ref xa), .val (.int (0 : Int32)), .val (.int (4 : Int32)), .val (.int xx), .val (.int xy), .val (.int (f_bit xx (0 : Int32)))] rfl 30 rfl ?_
  refine o_aloadN X1 d3_30 rfl rfl 31 rfl ?_
  refine o_iloadN X1 d3_31 rfl 32 rfl ?_
  refine o_baloadZ X1 H0 0 rfl d3_32 0 rfl (f_bit xx (0 : Int32)) rfl 33 rfl ?_
  refine o_iload X1 d3_33 rfl 35 rfl ?_
  refine o_icmpNe X1 d3_35 42 38 (by decide) (by decide) rfl (fun q => by exfalso; exact q rfl) ?_
  intro hc35
  refine o_iconst (v := (1 : Int32)) X1 d3_38 rfl 39 rfl ?_
  refine o_goto X1 d3_39 43 (by decide) (by decide) ?_
  exact o_retZ X1 d3_43 (by decide) (by decide) (hQ _ _ ⟨rfl, rfl⟩)
set_option maxRecDepth 65536 in
set_option maxHeartbeats 40000000 in
theorem c_kept_4_1 (l : Launch) (Z : State) (a0 : Array Value) (hw : ∀ d ∈ tables_1, d.before a0 Z = true) (ws : List Jvm.Cond) (n0 : Nat) (h0 : Heap) (hn0 : n0 ≤ h0.size) (xa : Addr) (xv : Int32) (L' : List (Addr × (Cell → Prop))) (H0 : OL n0 h0 ((xa, OA Z .boolean [(f_bit xv (0 : Int32)), (f_bit xv (1 : Int32)), (f_bit xv (2 : Int32)), (f_bit xv (3 : Int32))]) :: L')) :
    OC l Z (⟨"com/example/eratosthenes/eratosthenes/tune/GeneticSearchHalvesPinLaw", "kept", "([ZIII)Z"⟩ : MethodName) method_5_code 4 (some .boolean) ws ({ frames := 1, cells := 0, slots := 0, locals := 14 } : Room) n0 #[(.ref xa), (.int (1 : Int32)), (.int (4 : Int32)), (.int xv)] h0 (fun r h => r = some (.int 1) ∧ h0 = h) := by
  refine OC.of pn_0 hn0 #[.val (.ref xa), .val (.int (1 : Int32)), .val (.int (4 : Int32)), .val (.int xv)] (fun m => by first | (simp [entryFrame, mkF, argsToLocals, Value.category, maxLocals]; done) | rfl) ?_
  intro p e s m below meth cd0 T0 X0 Q' hQ
  refine o_iloadN X0 d5_0 rfl 1 rfl ?_
  refine o_iloadN X0 d5_1 rfl 2 rfl ?_
  refine o_icmpGe X0 d5_2 16 5 (by decide) (by decide) rfl (fun q => by exfalso; exact absurd q (by decide)) ?_
  intro hc2
  refine o_aloadN X0 d5_5 rfl rfl 6 rfl ?_
  refine o_iloadN X0 d5_6 rfl 7 rfl ?_
  refine o_baloadZ X0 H0 0 rfl d5_7 1 rfl (f_bit xv (1 : Int32)) rfl 8 rfl ?_
  refine o_iloadN X0 d5_8 rfl 9 rfl ?_
  refine o_iloadN X0 d5_9 rfl 10 rfl ?_
  refine o_callS X0 d5_10 (rest := [(.int (f_bit xv (1 : Int32)))]) (c_bit l Z a0 hw [] n0 _ X0.size xv (1 : Int32) ) (hw _ (List.mem_of_getElem? (i := 31) rfl)) (hw _ (List.mem_of_getElem? (i := 32) rfl)) (hw _ (List.mem_of_getElem? (i := 2) rfl)) (hw _ (List.mem_of_getElem? (i := 33) rfl)) (by decide) 1 (by decide) (by decide) rfl [(.int xv), (.int (1 : Int32))] rfl pd_6 rfl rfl (Nat.le_of_eq rfl) 0 0 rfl rfl (by decide) (by decide) 13 rfl ?_
  rintro _ T1 _ X1 ⟨rfl, rfl⟩
  show OE p e ({ frames := 1, cells := 0, slots := 0, locals := 14 } : Room) below s n0 Q' T1 (mkF m 13 #[.val (.ref xa), .val (.int (1 : Int32)), .val (.int (4 : Int32)), .val (.int xv)] [(.int (f_bit xv (1 : Int32))), (.int (f_bit xv (1 : Int32)))])
  refine o_icmpNe X1 d5_13 20 16 (by decide) (by decide) rfl (fun q => by exfalso; exact q rfl) ?_
  intro hc13
  refine o_iconst (v := (1 : Int32)) X1 d5_16 rfl 17 rfl ?_
  refine o_goto X1 d5_17 21 (by decide) (by decide) ?_
  exact o_retZ X1 d5_21 (by decide) (by decide) (hQ _ _ ⟨rfl, rfl⟩)
set_option maxRecDepth 65536 in
set_option maxHeartbeats 40000000 in
theorem c_at_4_1 (l : Launch) (Z : State) (a0 : Array Value) (hw : ∀ d ∈ tables_1, d.before a0 Z = true) (ws : List Jvm.Cond) (n0 : Nat) (h0 : Heap) (hn0 : n0 ≤ h0.size) (xa : Addr) (xx xy : Int32) (L' : List (Addr × (Cell → Prop))) (H0 : OL n0 h0 ((xa, OA Z .boolean [(f_bit xx (0 : Int32)), (f_bit xx (1 : Int32)), (f_bit xy (2 : Int32)), (f_bit xy (3 : Int32))]) :: L')) :
    OC l Z (⟨"com/example/eratosthenes/eratosthenes/tune/GeneticSearchHalvesPinLaw", "at", "([ZIIII)Z"⟩ : MethodName) method_4_code 6 (some .boolean) ws ({ frames := 1, cells := 0, slots := 0, locals := 14 } : Room) n0 #[(.ref xa), (.int (1 : Int32)), (.int (4 : Int32)), (.int xx), (.int xy)] h0 (fun r h => r = some (.int 1) ∧ h0 = h) := by
  refine OC.of pn_0 hn0 #[.val (.ref xa), .val (.int (1 : Int32)), .val (.int (4 : Int32)), .val (.int xx), .val (.int xy), .unset] (fun m => by first | (simp [entryFrame, mkF, argsToLocals, Value.category, maxLocals]; done) | rfl) ?_
  intro p e s m below meth cd0 T0 X0 Q' hQ
  refine o_iloadN X0 d3_0 rfl 1 rfl ?_
  refine o_iloadN X0 d3_1 rfl 2 rfl ?_
  refine o_icmpLt X0 d3_2 7 5 (by decide) (by decide) rfl ?_ (fun q => by exfalso; exact absurd q (by decide))
  intro hc2
  refine o_iloadN X0 d3_7 rfl 8 rfl ?_
  refine o_iloadN X0 d3_8 rfl 9 rfl ?_
  refine o_iconst (v := (2 : Int32)) X0 d3_9 rfl 10 rfl ?_
  refine o_idiv X0 d3_10 (by decide) 11 rfl ?_
  refine o_icmpGe X0 d3_11 22 14 (by decide) (by decide) rfl (fun q => by exfalso; exact absurd q (by decide)) ?_
  intro hc11
  refine o_iloadN X0 d3_14 rfl 15 rfl ?_
  refine o_iloadN X0 d3_15 rfl 16 rfl ?_
  refine o_callS X0 d3_16 (rest := []) (c_bit l Z a0 hw [] n0 _ X0.size xx (1 : Int32) ) (hw _ (List.mem_of_getElem? (i := 31) rfl)) (hw _ (List.mem_of_getElem? (i := 32) rfl)) (hw _ (List.mem_of_getElem? (i := 2) rfl)) (hw _ (List.mem_of_getElem? (i := 33) rfl)) (by decide) 0 (by decide) (by decide) rfl [(.int xx), (.int (1 : Int32))] rfl pd_6 rfl rfl (Nat.le_of_eq rfl) 0 0 rfl rfl (by decide) (by decide) 19 rfl ?_
  rintro _ T1 _ X1 ⟨rfl, rfl⟩
  show OE p e ({ frames := 1, cells := 0, slots := 0, locals := 14 } : Room) below s n0 Q' T1 (mkF m 19 #[.val (.ref xa), .val (.int (1 : Int32)), .val (.int (4 : Int32)), .val (.int xx), .val (.int xy), .unset] [(.int (f_bit xx (1 : Int32)))])
  refine o_goto X1 d3_19 28 (by decide) (by decide) ?_
  refine o_istore X1 d3_28 #[.val (.ref xa), .val (.int (1 : Int32)), .val (.int (4 : Int32)), .val (.int xx), .val (.int xy), .val (.int (f_bit xx (1 : Int32)))] rfl 30 rfl ?_
  refine o_aloadN X1 d3_30 rfl rfl 31 rfl ?_
  refine o_iloadN X1 d3_31 rfl 32 rfl ?_
  refine o_baloadZ X1 H0 0 rfl d3_32 1 rfl (f_bit xx (1 : Int32)) rfl 33 rfl ?_
  refine o_iload X1 d3_33 rfl 35 rfl ?_
  refine o_icmpNe X1 d3_35 42 38 (by decide) (by decide) rfl (fun q => by exfalso; exact q rfl) ?_
  intro hc35
  refine o_iconst (v := (1 : Int32)) X1 d3_38 rfl 39 rfl ?_
  refine o_goto X1 d3_39 43 (by decide) (by decide) ?_
  exact o_retZ X1 d3_43 (by decide) (by decide) (hQ _ _ ⟨rfl, rfl⟩)
set_option maxRecDepth 65536 in
set_option maxHeartbeats 40000000 in
theorem c_kept_4_2 (l : Launch) (Z : State) (a0 : Array Value) (hw : ∀ d ∈ tables_1, d.before a0 Z = true) (ws : List Jvm.Cond) (n0 : Nat) (h0 : Heap) (hn0 : n0 ≤ h0.size) (xa : Addr) (xv : Int32) (L' : List (Addr × (Cell → Prop))) (H0 : OL n0 h0 ((xa, OA Z .boolean [(f_bit xv (0 : Int32)), (f_bit xv (1 : Int32)), (f_bit xv (2 : Int32)), (f_bit xv (3 : Int32))]) :: L')) :
    OC l Z (⟨"com/example/eratosthenes/eratosthenes/tune/GeneticSearchHalvesPinLaw", "kept", "([ZIII)Z"⟩ : MethodName) method_5_code 4 (some .boolean) ws ({ frames := 1, cells := 0, slots := 0, locals := 14 } : Room) n0 #[(.ref xa), (.int (2 : Int32)), (.int (4 : Int32)), (.int xv)] h0 (fun r h => r = some (.int 1) ∧ h0 = h) := by
  refine OC.of pn_0 hn0 #[.val (.ref xa), .val (.int (2 : Int32)), .val (.int (4 : Int32)), .val (.int xv)] (fun m => by first | (simp [entryFrame, mkF, argsToLocals, Value.category, maxLocals]; done) | rfl) ?_
  intro p e s m below meth cd0 T0 X0 Q' hQ
  refine o_iloadN X0 d5_0 rfl 1 rfl ?_
  refine o_iloadN X0 d5_1 rfl 2 rfl ?_
  refine o_icmpGe X0 d5_2 16 5 (by decide) (by decide) rfl (fun q => by exfalso; exact absurd q (by decide)) ?_
  intro hc2
  refine o_aloadN X0 d5_5 rfl rfl 6 rfl ?_
  refine o_iloadN X0 d5_6 rfl 7 rfl ?_
  refine o_baloadZ X0 H0 0 rfl d5_7 2 rfl (f_bit xv (2 : Int32)) rfl 8 rfl ?_
  refine o_iloadN X0 d5_8 rfl 9 rfl ?_
  refine o_iloadN X0 d5_9 rfl 10 rfl ?_
  refine o_callS X0 d5_10 (rest := [(.int (f_bit xv (2 : Int32)))]) (c_bit l Z a0 hw [] n0 _ X0.size xv (2 : Int32) ) (hw _ (List.mem_of_getElem? (i := 31) rfl)) (hw _ (List.mem_of_getElem? (i := 32) rfl)) (hw _ (List.mem_of_getElem? (i := 2) rfl)) (hw _ (List.mem_of_getElem? (i := 33) rfl)) (by decide) 1 (by decide) (by decide) rfl [(.int xv), (.int (2 : Int32))] rfl pd_6 rfl rfl (Nat.le_of_eq rfl) 0 0 rfl rfl (by decide) (by decide) 13 rfl ?_
  rintro _ T1 _ X1 ⟨rfl, rfl⟩
  show OE p e ({ frames := 1, cells := 0, slots := 0, locals := 14 } : Room) below s n0 Q' T1 (mkF m 13 #[.val (.ref xa), .val (.int (2 : Int32)), .val (.int (4 : Int32)), .val (.int xv)] [(.int (f_bit xv (2 : Int32))), (.int (f_bit xv (2 : Int32)))])
  refine o_icmpNe X1 d5_13 20 16 (by decide) (by decide) rfl (fun q => by exfalso; exact q rfl) ?_
  intro hc13
  refine o_iconst (v := (1 : Int32)) X1 d5_16 rfl 17 rfl ?_
  refine o_goto X1 d5_17 21 (by decide) (by decide) ?_
  exact o_retZ X1 d5_21 (by decide) (by decide) (hQ _ _ ⟨rfl, rfl⟩)
set_option maxRecDepth 65536 in
set_option maxHeartbeats 40000000 in
theorem c_at_4_2 (l : Launch) (Z : State) (a0 : Array Value) (hw : ∀ d ∈ tables_1, d.before a0 Z = true) (ws : List Jvm.Cond) (n0 : Nat) (h0 : Heap) (hn0 : n0 ≤ h0.size) (xa : Addr) (xx xy : Int32) (L' : List (Addr × (Cell → Prop))) (H0 : OL n0 h0 ((xa, OA Z .boolean [(f_bit xx (0 : Int32)), (f_bit xx (1 : Int32)), (f_bit xy (2 : Int32)), (f_bit xy (3 : Int32))]) :: L')) :
    OC l Z (⟨"com/example/eratosthenes/eratosthenes/tune/GeneticSearchHalvesPinLaw", "at", "([ZIIII)Z"⟩ : MethodName) method_4_code 6 (some .boolean) ws ({ frames := 1, cells := 0, slots := 0, locals := 14 } : Room) n0 #[(.ref xa), (.int (2 : Int32)), (.int (4 : Int32)), (.int xx), (.int xy)] h0 (fun r h => r = some (.int 1) ∧ h0 = h) := by
  refine OC.of pn_0 hn0 #[.val (.ref xa), .val (.int (2 : Int32)), .val (.int (4 : Int32)), .val (.int xx), .val (.int xy), .unset] (fun m => by first | (simp [entryFrame, mkF, argsToLocals, Value.category, maxLocals]; done) | rfl) ?_
  intro p e s m below meth cd0 T0 X0 Q' hQ
  refine o_iloadN X0 d3_0 rfl 1 rfl ?_
  refine o_iloadN X0 d3_1 rfl 2 rfl ?_
  refine o_icmpLt X0 d3_2 7 5 (by decide) (by decide) rfl ?_ (fun q => by exfalso; exact absurd q (by decide))
  intro hc2
  refine o_iloadN X0 d3_7 rfl 8 rfl ?_
  refine o_iloadN X0 d3_8 rfl 9 rfl ?_
  refine o_iconst (v := (2 : Int32)) X0 d3_9 rfl 10 rfl ?_
  refine o_idiv X0 d3_10 (by decide) 11 rfl ?_
  refine o_icmpGe X0 d3_11 22 14 (by decide) (by decide) rfl ?_ (fun q => by exfalso; exact absurd q (by decide))
  intro hc11
  refine o_iload X0 d3_22 rfl 24 rfl ?_
  refine o_iloadN X0 d3_24 rfl 25 rfl ?_
  refine o_callS X0 d3_25 (rest := []) (c_bit l Z a0 hw [] n0 _ X0.size xy (2 : Int32) ) (hw _ (List.mem_of_getElem? (i := 31) rfl)) (hw _ (List.mem_of_getElem? (i := 32) rfl)) (hw _ (List.mem_of_getElem? (i := 2) rfl)) (hw _ (List.mem_of_getElem? (i := 33) rfl)) (by decide) 0 (by decide) (by decide) rfl [(.int xy), (.int (2 : Int32))] rfl pd_6 rfl rfl (Nat.le_of_eq rfl) 0 0 rfl rfl (by decide) (by decide) 28 rfl ?_
  rintro _ T1 _ X1 ⟨rfl, rfl⟩
  show OE p e ({ frames := 1, cells := 0, slots := 0, locals := 14 } : Room) below s n0 Q' T1 (mkF m 28 #[.val (.ref xa), .val (.int (2 : Int32)), .val (.int (4 : Int32)), .val (.int xx), .val (.int xy), .unset] [(.int (f_bit xy (2 : Int32)))])
  refine o_istore X1 d3_28 #[.val (.ref xa), .val (.int (2 : Int32)), .val (.int (4 : Int32)), .val (.int xx), .val (.int xy), .val (.int (f_bit xy (2 : Int32)))] rfl 30 rfl ?_
  refine o_aloadN X1 d3_30 rfl rfl 31 rfl ?_
  refine o_iloadN X1 d3_31 rfl 32 rfl ?_
  refine o_baloadZ X1 H0 0 rfl d3_32 2 rfl (f_bit xy (2 : Int32)) rfl 33 rfl ?_
  refine o_iload X1 d3_33 rfl 35 rfl ?_
  refine o_icmpNe X1 d3_35 42 38 (by decide) (by decide) rfl (fun q => by exfalso; exact q rfl) ?_
  intro hc35
  refine o_iconst (v := (1 : Int32)) X1 d3_38 rfl 39 rfl ?_
  refine o_goto X1 d3_39 43 (by decide) (by decide) ?_
  exact o_retZ X1 d3_43 (by decide) (by decide) (hQ _ _ ⟨rfl, rfl⟩)
set_option maxRecDepth 65536 in
set_option maxHeartbeats 40000000 in
theorem c_kept_4_3 (l : Launch) (Z : State) (a0 : Array Value) (hw : ∀ d ∈ tables_1, d.before a0 Z = true) (ws : List Jvm.Cond) (n0 : Nat) (h0 : Heap) (hn0 : n0 ≤ h0.size) (xa : Addr) (xv : Int32) (L' : List (Addr × (Cell → Prop))) (H0 : OL n0 h0 ((xa, OA Z .boolean [(f_bit xv (0 : Int32)), (f_bit xv (1 : Int32)), (f_bit xv (2 : Int32)), (f_bit xv (3 : Int32))]) :: L')) :
    OC l Z (⟨"com/example/eratosthenes/eratosthenes/tune/GeneticSearchHalvesPinLaw", "kept", "([ZIII)Z"⟩ : MethodName) method_5_code 4 (some .boolean) ws ({ frames := 1, cells := 0, slots := 0, locals := 14 } : Room) n0 #[(.ref xa), (.int (3 : Int32)), (.int (4 : Int32)), (.int xv)] h0 (fun r h => r = some (.int 1) ∧ h0 = h) := by
  refine OC.of pn_0 hn0 #[.val (.ref xa), .val (.int (3 : Int32)), .val (.int (4 : Int32)), .val (.int xv)] (fun m => by first | (simp [entryFrame, mkF, argsToLocals, Value.category, maxLocals]; done) | rfl) ?_
  intro p e s m below meth cd0 T0 X0 Q' hQ
  refine o_iloadN X0 d5_0 rfl 1 rfl ?_
  refine o_iloadN X0 d5_1 rfl 2 rfl ?_
  refine o_icmpGe X0 d5_2 16 5 (by decide) (by decide) rfl (fun q => by exfalso; exact absurd q (by decide)) ?_
  intro hc2
  refine o_aloadN X0 d5_5 rfl rfl 6 rfl ?_
  refine o_iloadN X0 d5_6 rfl 7 rfl ?_
  refine o_baloadZ X0 H0 0 rfl d5_7 3 rfl (f_bit xv (3 : Int32)) rfl 8 rfl ?_
  refine o_iloadN X0 d5_8 rfl 9 rfl ?_
  refine o_iloadN X0 d5_9 rfl 10 rfl ?_
  refine o_callS X0 d5_10 (rest := [(.int (f_bit xv (3 : Int32)))]) (c_bit l Z a0 hw [] n0 _ X0.size xv (3 : Int32) ) (hw _ (List.mem_of_getElem? (i := 31) rfl)) (hw _ (List.mem_of_getElem? (i := 32) rfl)) (hw _ (List.mem_of_getElem? (i := 2) rfl)) (hw _ (List.mem_of_getElem? (i := 33) rfl)) (by decide) 1 (by decide) (by decide) rfl [(.int xv), (.int (3 : Int32))] rfl pd_6 rfl rfl (Nat.le_of_eq rfl) 0 0 rfl rfl (by decide) (by decide) 13 rfl ?_
  rintro _ T1 _ X1 ⟨rfl, rfl⟩
  show OE p e ({ frames := 1, cells := 0, slots := 0, locals := 14 } : Room) below s n0 Q' T1 (mkF m 13 #[.val (.ref xa), .val (.int (3 : Int32)), .val (.int (4 : Int32)), .val (.int xv)] [(.int (f_bit xv (3 : Int32))), (.int (f_bit xv (3 : Int32)))])
  refine o_icmpNe X1 d5_13 20 16 (by decide) (by decide) rfl (fun q => by exfalso; exact q rfl) ?_
  intro hc13
  refine o_iconst (v := (1 : Int32)) X1 d5_16 rfl 17 rfl ?_
  refine o_goto X1 d5_17 21 (by decide) (by decide) ?_
  exact o_retZ X1 d5_21 (by decide) (by decide) (hQ _ _ ⟨rfl, rfl⟩)
set_option maxRecDepth 65536 in
set_option maxHeartbeats 40000000 in
theorem c_at_4_3 (l : Launch) (Z : State) (a0 : Array Value) (hw : ∀ d ∈ tables_1, d.before a0 Z = true) (ws : List Jvm.Cond) (n0 : Nat) (h0 : Heap) (hn0 : n0 ≤ h0.size) (xa : Addr) (xx xy : Int32) (L' : List (Addr × (Cell → Prop))) (H0 : OL n0 h0 ((xa, OA Z .boolean [(f_bit xx (0 : Int32)), (f_bit xx (1 : Int32)), (f_bit xy (2 : Int32)), (f_bit xy (3 : Int32))]) :: L')) :
    OC l Z (⟨"com/example/eratosthenes/eratosthenes/tune/GeneticSearchHalvesPinLaw", "at", "([ZIIII)Z"⟩ : MethodName) method_4_code 6 (some .boolean) ws ({ frames := 1, cells := 0, slots := 0, locals := 14 } : Room) n0 #[(.ref xa), (.int (3 : Int32)), (.int (4 : Int32)), (.int xx), (.int xy)] h0 (fun r h => r = some (.int 1) ∧ h0 = h) := by
  refine OC.of pn_0 hn0 #[.val (.ref xa), .val (.int (3 : Int32)), .val (.int (4 : Int32)), .val (.int xx), .val (.int xy), .unset] (fun m => by first | (simp [entryFrame, mkF, argsToLocals, Value.category, maxLocals]; done) | rfl) ?_
  intro p e s m below meth cd0 T0 X0 Q' hQ
  refine o_iloadN X0 d3_0 rfl 1 rfl ?_
  refine o_iloadN X0 d3_1 rfl 2 rfl ?_
  refine o_icmpLt X0 d3_2 7 5 (by decide) (by decide) rfl ?_ (fun q => by exfalso; exact absurd q (by decide))
  intro hc2
  refine o_iloadN X0 d3_7 rfl 8 rfl ?_
  refine o_iloadN X0 d3_8 rfl 9 rfl ?_
  refine o_iconst (v := (2 : Int32)) X0 d3_9 rfl 10 rfl ?_
  refine o_idiv X0 d3_10 (by decide) 11 rfl ?_
  refine o_icmpGe X0 d3_11 22 14 (by decide) (by decide) rfl ?_ (fun q => by exfalso; exact absurd q (by decide))
  intro hc11
  refine o_iload X0 d3_22 rfl 24 rfl ?_
  refine o_iloadN X0 d3_24 rfl 25 rfl ?_
  refine o_callS X0 d3_25 (rest := []) (c_bit l Z a0 hw [] n0 _ X0.size xy (3 : Int32) ) (hw _ (List.mem_of_getElem? (i := 31) rfl)) (hw _ (List.mem_of_getElem? (i := 32) rfl)) (hw _ (List.mem_of_getElem? (i := 2) rfl)) (hw _ (List.mem_of_getElem? (i := 33) rfl)) (by decide) 0 (by decide) (by decide) rfl [(.int xy), (.int (3 : Int32))] rfl pd_6 rfl rfl (Nat.le_of_eq rfl) 0 0 rfl rfl (by decide) (by decide) 28 rfl ?_
  rintro _ T1 _ X1 ⟨rfl, rfl⟩
  show OE p e ({ frames := 1, cells := 0, slots := 0, locals := 14 } : Room) below s n0 Q' T1 (mkF m 28 #[.val (.ref xa), .val (.int (3 : Int32)), .val (.int (4 : Int32)), .val (.int xx), .val (.int xy), .unset] [(.int (f_bit xy (3 : Int32)))])
  refine o_istore X1 d3_28 #[.val (.ref xa), .val (.int (3 : Int32)), .val (.int (4 : Int32)), .val (.int xx), .val (.int xy), .val (.int (f_bit xy (3 : Int32)))] rfl 30 rfl ?_
  refine o_aloadN X1 d3_30 rfl rfl 31 rfl ?_
  refine o_iloadN X1 d3_31 rfl 32 rfl ?_
  refine o_baloadZ X1 H0 0 rfl d3_32 3 rfl (f_bit xy (3 : Int32)) rfl 33 rfl ?_
  refine o_iload X1 d3_33 rfl 35 rfl ?_
  refine o_icmpNe X1 d3_35 42 38 (by decide) (by decide) rfl (fun q => by exfalso; exact q rfl) ?_
  intro hc35
  refine o_iconst (v := (1 : Int32)) X1 d3_38 rfl 39 rfl ?_
  refine o_goto X1 d3_39 43 (by decide) (by decide) ?_
  exact o_retZ X1 d3_43 (by decide) (by decide) (hQ _ _ ⟨rfl, rfl⟩)
set_option maxRecDepth 65536 in
set_option maxHeartbeats 40000000 in
theorem c_kept_4_4 (l : Launch) (Z : State) (a0 : Array Value) (hw : ∀ d ∈ tables_1, d.before a0 Z = true) (ws : List Jvm.Cond) (n0 : Nat) (h0 : Heap) (hn0 : n0 ≤ h0.size) (xa : Addr) (xv : Int32) (L' : List (Addr × (Cell → Prop))) (H0 : OL n0 h0 ((xa, OA Z .boolean [(f_bit xv (0 : Int32)), (f_bit xv (1 : Int32)), (f_bit xv (2 : Int32)), (f_bit xv (3 : Int32))]) :: L')) :
    OC l Z (⟨"com/example/eratosthenes/eratosthenes/tune/GeneticSearchHalvesPinLaw", "kept", "([ZIII)Z"⟩ : MethodName) method_5_code 4 (some .boolean) ws ({ frames := 1, cells := 0, slots := 0, locals := 14 } : Room) n0 #[(.ref xa), (.int (4 : Int32)), (.int (4 : Int32)), (.int xv)] h0 (fun r h => r = some (.int 1) ∧ h0 = h) := by
  refine OC.of pn_0 hn0 #[.val (.ref xa), .val (.int (4 : Int32)), .val (.int (4 : Int32)), .val (.int xv)] (fun m => by first | (simp [entryFrame, mkF, argsToLocals, Value.category, maxLocals]; done) | rfl) ?_
  intro p e s m below meth cd0 T0 X0 Q' hQ
  refine o_iloadN X0 d5_0 rfl 1 rfl ?_
  refine o_iloadN X0 d5_1 rfl 2 rfl ?_
  refine o_icmpGe X0 d5_2 16 5 (by decide) (by decide) rfl ?_ (fun q => by exfalso; exact absurd q (by decide))
  intro hc2
  refine o_iconst (v := (1 : Int32)) X0 d5_16 rfl 17 rfl ?_
  refine o_goto X0 d5_17 21 (by decide) (by decide) ?_
  exact o_retZ X0 d5_21 (by decide) (by decide) (hQ _ _ ⟨rfl, rfl⟩)
set_option maxRecDepth 65536 in
set_option maxHeartbeats 40000000 in
theorem c_at_4_4 (l : Launch) (Z : State) (a0 : Array Value) (hw : ∀ d ∈ tables_1, d.before a0 Z = true) (ws : List Jvm.Cond) (n0 : Nat) (h0 : Heap) (hn0 : n0 ≤ h0.size) (xa : Addr) (xx xy : Int32) (L' : List (Addr × (Cell → Prop))) (H0 : OL n0 h0 ((xa, OA Z .boolean [(f_bit xx (0 : Int32)), (f_bit xx (1 : Int32)), (f_bit xy (2 : Int32)), (f_bit xy (3 : Int32))]) :: L')) :
    OC l Z (⟨"com/example/eratosthenes/eratosthenes/tune/GeneticSearchHalvesPinLaw", "at", "([ZIIII)Z"⟩ : MethodName) method_4_code 6 (some .boolean) ws ({ frames := 1, cells := 0, slots := 0, locals := 14 } : Room) n0 #[(.ref xa), (.int (4 : Int32)), (.int (4 : Int32)), (.int xx), (.int xy)] h0 (fun r h => r = some (.int 1) ∧ h0 = h) := by
  refine OC.of pn_0 hn0 #[.val (.ref xa), .val (.int (4 : Int32)), .val (.int (4 : Int32)), .val (.int xx), .val (.int xy), .unset] (fun m => by first | (simp [entryFrame, mkF, argsToLocals, Value.category, maxLocals]; done) | rfl) ?_
  intro p e s m below meth cd0 T0 X0 Q' hQ
  refine o_iloadN X0 d3_0 rfl 1 rfl ?_
  refine o_iloadN X0 d3_1 rfl 2 rfl ?_
  refine o_icmpLt X0 d3_2 7 5 (by decide) (by decide) rfl (fun q => by exfalso; exact absurd q (by decide)) ?_
  intro hc2
  refine o_iconst (v := (1 : Int32)) X0 d3_5 rfl 6 rfl ?_
  exact o_retZ X0 d3_6 (by decide) (by decide) (hQ _ _ ⟨rfl, rfl⟩)
set_option maxRecDepth 65536 in
set_option maxHeartbeats 40000000 in
theorem c_kept_4_5 (l : Launch) (Z : State) (a0 : Array Value) (hw : ∀ d ∈ tables_1, d.before a0 Z = true) (ws : List Jvm.Cond) (n0 : Nat) (h0 : Heap) (hn0 : n0 ≤ h0.size) (xa : Addr) (xv : Int32) (L' : List (Addr × (Cell → Prop))) (H0 : OL n0 h0 ((xa, OA Z .boolean [(f_bit xv (0 : Int32)), (f_bit xv (1 : Int32)), (f_bit xv (2 : Int32)), (f_bit xv (3 : Int32))]) :: L')) :
    OC l Z (⟨"com/example/eratosthenes/eratosthenes/tune/GeneticSearchHalvesPinLaw", "kept", "([ZIII)Z"⟩ : MethodName) method_5_code 4 (some .boolean) ws ({ frames := 1, cells := 0, slots := 0, locals := 14 } : Room) n0 #[(.ref xa), (.int (5 : Int32)), (.int (4 : Int32)), (.int xv)] h0 (fun r h => r = some (.int 1) ∧ h0 = h) := by
  refine OC.of pn_0 hn0 #[.val (.ref xa), .val (.int (5 : Int32)), .val (.int (4 : Int32)), .val (.int xv)] (fun m => by first | (simp [entryFrame, mkF, argsToLocals, Value.category, maxLocals]; done) | rfl) ?_
  intro p e s m below meth cd0 T0 X0 Q' hQ
  refine o_iloadN X0 d5_0 rfl 1 rfl ?_
  refine o_iloadN X0 d5_1 rfl 2 rfl ?_
  refine o_icmpGe X0 d5_2 16 5 (by decide) (by decide) rfl ?_ (fun q => by exfalso; exact absurd q (by decide))
  intro hc2
  refine o_iconst (v := (1 : Int32)) X0 d5_16 rfl 17 rfl ?_
  refine o_goto X0 d5_17 21 (by decide) (by decide) ?_
  exact o_retZ X0 d5_21 (by decide) (by decide) (hQ _ _ ⟨rfl, rfl⟩)
set_option maxRecDepth 65536 in
set_option maxHeartbeats 40000000 in
theorem c_at_4_5 (l : Launch) (Z : State) (a0 : Array Value) (hw : ∀ d ∈ tables_1, d.before a0 Z = true) (ws : List Jvm.Cond) (n0 : Nat) (h0 : Heap) (hn0 : n0 ≤ h0.size) (xa : Addr) (xx xy : Int32) (L' : List (Addr × (Cell → Prop))) (H0 : OL n0 h0 ((xa, OA Z .boolean [(f_bit xx (0 : Int32)), (f_bit xx (1 : Int32)), (f_bit xy (2 : Int32)), (f_bit xy (3 : Int32))]) :: L')) :
    OC l Z (⟨"com/example/eratosthenes/eratosthenes/tune/GeneticSearchHalvesPinLaw", "at", "([ZIIII)Z"⟩ : MethodName) method_4_code 6 (some .boolean) ws ({ frames := 1, cells := 0, slots := 0, locals := 14 } : Room) n0 #[(.ref xa), (.int (5 : Int32)), (.int (4 : Int32)), (.int xx), (.int xy)] h0 (fun r h => r = some (.int 1) ∧ h0 = h) := by
  refine OC.of pn_0 hn0 #[.val (.ref xa), .val (.int (5 : Int32)), .val (.int (4 : Int32)), .val (.int xx), .val (.int xy), .unset] (fun m => by first | (simp [entryFrame, mkF, argsToLocals, Value.category, maxLocals]; done) | rfl) ?_
  intro p e s m below meth cd0 T0 X0 Q' hQ
  refine o_iloadN X0 d3_0 rfl 1 rfl ?_
  refine o_iloadN X0 d3_1 rfl 2 rfl ?_
  refine o_icmpLt X0 d3_2 7 5 (by decide) (by decide) rfl (fun q => by exfalso; exact absurd q (by decide)) ?_
  intro hc2
  refine o_iconst (v := (1 : Int32)) X0 d3_5 rfl 6 rfl ?_
  exact o_retZ X0 d3_6 (by decide) (by decide) (hQ _ _ ⟨rfl, rfl⟩)
set_option maxRecDepth 65536 in
set_option maxHeartbeats 40000000 in
theorem c_kept_4_6 (l : Launch) (Z : State) (a0 : Array Value) (hw : ∀ d ∈ tables_1, d.before a0 Z = true) (ws : List Jvm.Cond) (n0 : Nat) (h0 : Heap) (hn0 : n0 ≤ h0.size) (xa : Addr) (xv : Int32) (L' : List (Addr × (Cell → Prop))) (H0 : OL n0 h0 ((xa, OA Z .boolean [(f_bit xv (0 : Int32)), (f_bit xv (1 : Int32)), (f_bit xv (2 : Int32)), (f_bit xv (3 : Int32))]) :: L')) :
    OC l Z (⟨"com/example/eratosthenes/eratosthenes/tune/GeneticSearchHalvesPinLaw", "kept", "([ZIII)Z"⟩ : MethodName) method_5_code 4 (some .boolean) ws ({ frames := 1, cells := 0, slots := 0, locals := 14 } : Room) n0 #[(.ref xa), (.int (6 : Int32)), (.int (4 : Int32)), (.int xv)] h0 (fun r h => r = some (.int 1) ∧ h0 = h) := by
  refine OC.of pn_0 hn0 #[.val (.ref xa), .val (.int (6 : Int32)), .val (.int (4 : Int32)), .val (.int xv)] (fun m => by first | (simp [entryFrame, mkF, argsToLocals, Value.category, maxLocals]; done) | rfl) ?_
  intro p e s m below meth cd0 T0 X0 Q' hQ
  refine o_iloadN X0 d5_0 rfl 1 rfl ?_
  refine o_iloadN X0 d5_1 rfl 2 rfl ?_
  refine o_icmpGe X0 d5_2 16 5 (by decide) (by decide) rfl ?_ (fun q => by exfalso; exact absurd q (by decide))
  intro hc2
  refine o_iconst (v := (1 : Int32)) X0 d5_16 rfl 17 rfl ?_
  refine o_goto X0 d5_17 21 (by decide) (by decide) ?_
  exact o_retZ X0 d5_21 (by decide) (by decide) (hQ _ _ ⟨rfl, rfl⟩)
set_option maxRecDepth 65536 in
set_option maxHeartbeats 40000000 in
theorem c_at_4_6 (l : Launch) (Z : State) (a0 : Array Value) (hw : ∀ d ∈ tables_1, d.before a0 Z = true) (ws : List Jvm.Cond) (n0 : Nat) (h0 : Heap) (hn0 : n0 ≤ h0.size) (xa : Addr) (xx xy : Int32) (L' : List (Addr × (Cell → Prop))) (H0 : OL n0 h0 ((xa, OA Z .boolean [(f_bit xx (0 : Int32)), (f_bit xx (1 : Int32)), (f_bit xy (2 : Int32)), (f_bit xy (3 : Int32))]) :: L')) :
    OC l Z (⟨"com/example/eratosthenes/eratosthenes/tune/GeneticSearchHalvesPinLaw", "at", "([ZIIII)Z"⟩ : MethodName) method_4_code 6 (some .boolean) ws ({ frames := 1, cells := 0, slots := 0, locals := 14 } : Room) n0 #[(.ref xa), (.int (6 : Int32)), (.int (4 : Int32)), (.int xx), (.int xy)] h0 (fun r h => r = some (.int 1) ∧ h0 = h) := by
  refine OC.of pn_0 hn0 #[.val (.ref xa), .val (.int (6 : Int32)), .val (.int (4 : Int32)), .val (.int xx), .val (.int xy), .unset] (fun m => by first | (simp [entryFrame, mkF, argsToLocals, Value.category, maxLocals]; done) | rfl) ?_
  intro p e s m below meth cd0 T0 X0 Q' hQ
  refine o_iloadN X0 d3_0 rfl 1 rfl ?_
  refine o_iloadN X0 d3_1 rfl 2 rfl ?_
  refine o_icmpLt X0 d3_2 7 5 (by decide) (by decide) rfl (fun q => by exfalso; exact absurd q (by decide)) ?_
  intro hc2
  refine o_iconst (v := (1 : Int32)) X0 d3_5 rfl 6 rfl ?_
  exact o_retZ X0 d3_6 (by decide) (by decide) (hQ _ _ ⟨rfl, rfl⟩)
set_option maxRecDepth 65536 in
set_option maxHeartbeats 40000000 in
theorem c_kept_5_0 (l : Launch) (Z : State) (a0 : Array Value) (hw : ∀ d ∈ tables_1, d.before a0 Z = true) (ws : List Jvm.Cond) (n0 : Nat) (h0 : Heap) (hn0 : n0 ≤ h0.size) (xa : Addr) (xv : Int32) (L' : List (Addr × (Cell → Prop))) (H0 : OL n0 h0 ((xa, OA Z .boolean [(f_bit xv (0 : Int32)), (f_bit xv (1 : Int32)), (f_bit xv (2 : Int32)), (f_bit xv (3 : Int32)), (f_bit xv (4 : Int32))]) :: L')) :
    OC l Z (⟨"com/example/eratosthenes/eratosthenes/tune/GeneticSearchHalvesPinLaw", "kept", "([ZIII)Z"⟩ : MethodName) method_5_code 4 (some .boolean) ws ({ frames := 1, cells := 0, slots := 0, locals := 14 } : Room) n0 #[(.ref xa), (.int (0 : Int32)), (.int (5 : Int32)), (.int xv)] h0 (fun r h => r = some (.int 1) ∧ h0 = h) := by
  refine OC.of pn_0 hn0 #[.val (.ref xa), .val (.int (0 : Int32)), .val (.int (5 : Int32)), .val (.int xv)] (fun m => by first | (simp [entryFrame, mkF, argsToLocals, Value.category, maxLocals]; done) | rfl) ?_
  intro p e s m below meth cd0 T0 X0 Q' hQ
  refine o_iloadN X0 d5_0 rfl 1 rfl ?_
  refine o_iloadN X0 d5_1 rfl 2 rfl ?_
  refine o_icmpGe X0 d5_2 16 5 (by decide) (by decide) rfl (fun q => by exfalso; exact absurd q (by decide)) ?_
  intro hc2
  refine o_aloadN X0 d5_5 rfl rfl 6 rfl ?_
  refine o_iloadN X0 d5_6 rfl 7 rfl ?_
  refine o_baloadZ X0 H0 0 rfl d5_7 0 rfl (f_bit xv (0 : Int32)) rfl 8 rfl ?_
  refine o_iloadN X0 d5_8 rfl 9 rfl ?_
  refine o_iloadN X0 d5_9 rfl 10 rfl ?_
  refine o_callS X0 d5_10 (rest := [(.int (f_bit xv (0 : Int32)))]) (c_bit l Z a0 hw [] n0 _ X0.size xv (0 : Int32) ) (hw _ (List.mem_of_getElem? (i := 31) rfl)) (hw _ (List.mem_of_getElem? (i := 32) rfl)) (hw _ (List.mem_of_getElem? (i := 2) rfl)) (hw _ (List.mem_of_getElem? (i := 33) rfl)) (by decide) 1 (by decide) (by decide) rfl [(.int xv), (.int (0 : Int32))] rfl pd_6 rfl rfl (Nat.le_of_eq rfl) 0 0 rfl rfl (by decide) (by decide) 13 rfl ?_
  rintro _ T1 _ X1 ⟨rfl, rfl⟩
  show OE p e ({ frames := 1, cells := 0, slots := 0, locals := 14 } : Room) below s n0 Q' T1 (mkF m 13 #[.val (.ref xa), .val (.int (0 : Int32)), .val (.int (5 : Int32)), .val (.int xv)] [(.int (f_bit xv (0 : Int32))), (.int (f_bit xv (0 : Int32)))])
  refine o_icmpNe X1 d5_13 20 16 (by decide) (by decide) rfl (fun q => by exfalso; exact q rfl) ?_
  intro hc13
  refine o_iconst (v := (1 : Int32)) X1 d5_16 rfl 17 rfl ?_
  refine o_goto X1 d5_17 21 (by decide) (by decide) ?_
  exact o_retZ X1 d5_21 (by decide) (by decide) (hQ _ _ ⟨rfl, rfl⟩)
set_option maxRecDepth 65536 in
set_option maxHeartbeats 40000000 in
theorem c_at_5_0 (l : Launch) (Z : State) (a0 : Array Value) (hw : ∀ d ∈ tables_1, d.before a0 Z = true) (ws : List Jvm.Cond) (n0 : Nat) (h0 : Heap) (hn0 : n0 ≤ h0.size) (xa : Addr) (xx xy : Int32) (L' : List (Addr × (Cell → Prop))) (H0 : OL n0 h0 ((xa, OA Z .boolean [(f_bit xx (0 : Int32)), (f_bit xx (1 : Int32)), (f_bit xy (2 : Int32)), (f_bit xy (3 : Int32)), (f_bit xy (4 : Int32))]) :: L')) :
    OC l Z (⟨"com/example/eratosthenes/eratosthenes/tune/GeneticSearchHalvesPinLaw", "at", "([ZIIII)Z"⟩ : MethodName) method_4_code 6 (some .boolean) ws ({ frames := 1, cells := 0, slots := 0, locals := 14 } : Room) n0 #[(.ref xa), (.int (0 : Int32)), (.int (5 : Int32)), (.int xx), (.int xy)] h0 (fun r h => r = some (.int 1) ∧ h0 = h) := by
  refine OC.of pn_0 hn0 #[.val (.ref xa), .val (.int (0 : Int32)), .val (.int (5 : Int32)), .val (.int xx), .val (.int xy), .unset] (fun m => by first | (simp [entryFrame, mkF, argsToLocals, Value.category, maxLocals]; done) | rfl) ?_
  intro p e s m below meth cd0 T0 X0 Q' hQ
  refine o_iloadN X0 d3_0 rfl 1 rfl ?_
  refine o_iloadN X0 d3_1 rfl 2 rfl ?_
  refine o_icmpLt X0 d3_2 7 5 (by decide) (by decide) rfl ?_ (fun q => by exfalso; exact absurd q (by decide))
  intro hc2
  refine o_iloadN X0 d3_7 rfl 8 rfl ?_
  refine o_iloadN X0 d3_8 rfl 9 rfl ?_
  refine o_iconst (v := (2 : Int32)) X0 d3_9 rfl 10 rfl ?_
  refine o_idiv X0 d3_10 (by decide) 11 rfl ?_
  refine o_icmpGe X0 d3_11 22 14 (by decide) (by decide) rfl (fun q => by exfalso; exact absurd q (by decide)) ?_
  intro hc11
  refine o_iloadN X0 d3_14 rfl 15 rfl ?_
  refine o_iloadN X0 d3_15 rfl 16 rfl ?_
  refine o_callS X0 d3_16 (rest := []) (c_bit l Z a0 hw [] n0 _ X0.size xx (0 : Int32) ) (hw _ (List.mem_of_getElem? (i := 31) rfl)) (hw _ (List.mem_of_getElem? (i := 32) rfl)) (hw _ (List.mem_of_getElem? (i := 2) rfl)) (hw _ (List.mem_of_getElem? (i := 33) rfl)) (by decide) 0 (by decide) (by decide) rfl [(.int xx), (.int (0 : Int32))] rfl pd_6 rfl rfl (Nat.le_of_eq rfl) 0 0 rfl rfl (by decide) (by decide) 19 rfl ?_
  rintro _ T1 _ X1 ⟨rfl, rfl⟩
  show OE p e ({ frames := 1, cells := 0, slots := 0, locals := 14 } : Room) below s n0 Q' T1 (mkF m 19 #[.val (.ref xa), .val (.int (0 : Int32)), .val (.int (5 : Int32)), .val (.int xx), .val (.int xy), .unset] [(.int (f_bit xx (0 : Int32)))])
  refine o_goto X1 d3_19 28 (by decide) (by decide) ?_
  refine o_istore X1 d3_28 #[.val (.ref xa), .val (.int (0 : Int32)), .val (.int (5 : Int32)), .val (.int xx), .val (.int xy), .val (.int (f_bit xx (0 : Int32)))] rfl 30 rfl ?_
  refine o_aloadN X1 d3_30 rfl rfl 31 rfl ?_
  refine o_iloadN X1 d3_31 rfl 32 rfl ?_
  refine o_baloadZ X1 H0 0 rfl d3_32 0 rfl (f_bit xx (0 : Int32)) rfl 33 rfl ?_
  refine o_iload X1 d3_33 rfl 35 rfl ?_
  refine o_icmpNe X1 d3_35 42 38 (by decide) (by decide) rfl (fun q => by exfalso; exact q rfl) ?_
  intro hc35
  refine o_iconst (v := (1 : Int32)) X1 d3_38 rfl 39 rfl ?_
  refine o_goto X1 d3_39 43 (by decide) (by decide) ?_
  exact o_retZ X1 d3_43 (by decide) (by decide) (hQ _ _ ⟨rfl, rfl⟩)
set_option maxRecDepth 65536 in
set_option maxHeartbeats 40000000 in
theorem c_kept_5_1 (l : Launch) (Z : State) (a0 : Array Value) (hw : ∀ d ∈ tables_1, d.before a0 Z = true) (ws : List Jvm.Cond) (n0 : Nat) (h0 : Heap) (hn0 : n0 ≤ h0.size) (xa : Addr) (xv : Int32) (L' : List (Addr × (Cell → Prop))) (H0 : OL n0 h0 ((xa, OA Z .boolean [(f_bit xv (0 : Int32)), (f_bit xv (1 : Int32)), (f_bit xv (2 : Int32)), (f_bit xv (3 : Int32)), (f_bit xv (4 : Int32))]) :: L')) :
    OC l Z (⟨"com/example/eratosthenes/eratosthenes/tune/GeneticSearchHalvesPinLaw", "kept", "([ZIII)Z"⟩ : MethodName) method_5_code 4 (some .boolean) ws ({ frames := 1, cells := 0, slots := 0, locals := 14 } : Room) n0 #[(.ref xa), (.int (1 : Int32)), (.int (5 : Int32)), (.int xv)] h0 (fun r h => r = some (.int 1) ∧ h0 = h) := by
  refine OC.of pn_0 hn0 #[.val (.ref xa), .val (.int (1 : Int32)), .val (.int (5 : Int32)), .val (.int xv)] (fun m => by first | (simp [entryFrame, mkF, argsToLocals, Value.category, maxLocals]; done) | rfl) ?_
  intro p e s m below meth cd0 T0 X0 Q' hQ
  refine o_iloadN X0 d5_0 rfl 1 rfl ?_
  refine o_iloadN X0 d5_1 rfl 2 rfl ?_
  refine o_icmpGe X0 d5_2 16 5 (by decide) (by decide) rfl (fun q => by exfalso; exact absurd q (by decide)) ?_
  intro hc2
  refine o_aloadN X0 d5_5 rfl rfl 6 rfl ?_
  refine o_iloadN X0 d5_6 rfl 7 rfl ?_
  refine o_baloadZ X0 H0 0 rfl d5_7 1 rfl (f_bit xv (1 : Int32)) rfl 8 rfl ?_
  refine o_iloadN X0 d5_8 rfl 9 rfl ?_
  refine o_iloadN X0 d5_9 rfl 10 rfl ?_
  refine o_callS X0 d5_10 (rest := [(.int (f_bit xv (1 : Int32)))]) (c_bit l Z a0 hw [] n0 _ X0.size xv (1 : Int32) ) (hw _ (List.mem_of_getElem? (i := 31) rfl)) (hw _ (List.mem_of_getElem? (i := 32) rfl)) (hw _ (List.mem_of_getElem? (i := 2) rfl)) (hw _ (List.mem_of_getElem? (i := 33) rfl)) (by decide) 1 (by decide) (by decide) rfl [(.int xv), (.int (1 : Int32))] rfl pd_6 rfl rfl (Nat.le_of_eq rfl) 0 0 rfl rfl (by decide) (by decide) 13 rfl ?_
  rintro _ T1 _ X1 ⟨rfl, rfl⟩
  show OE p e ({ frames := 1, cells := 0, slots := 0, locals := 14 } : Room) below s n0 Q' T1 (mkF m 13 #[.val (.ref xa), .val (.int (1 : Int32)), .val (.int (5 : Int32)), .val (.int xv)] [(.int (f_bit xv (1 : Int32))), (.int (f_bit xv (1 : Int32)))])
  refine o_icmpNe X1 d5_13 20 16 (by decide) (by decide) rfl (fun q => by exfalso; exact q rfl) ?_
  intro hc13
  refine o_iconst (v := (1 : Int32)) X1 d5_16 rfl 17 rfl ?_
  refine o_goto X1 d5_17 21 (by decide) (by decide) ?_
  exact o_retZ X1 d5_21 (by decide) (by decide) (hQ _ _ ⟨rfl, rfl⟩)
set_option maxRecDepth 65536 in
set_option maxHeartbeats 40000000 in
theorem c_at_5_1 (l : Launch) (Z : State) (a0 : Array Value) (hw : ∀ d ∈ tables_1, d.before a0 Z = true) (ws : List Jvm.Cond) (n0 : Nat) (h0 : Heap) (hn0 : n0 ≤ h0.size) (xa : Addr) (xx xy : Int32) (L' : List (Addr × (Cell → Prop))) (H0 : OL n0 h0 ((xa, OA Z .boolean [(f_bit xx (0 : Int32)), (f_bit xx (1 : Int32)), (f_bit xy (2 : Int32)), (f_bit xy (3 : Int32)), (f_bit xy (4 : Int32))]) :: L')) :
    OC l Z (⟨"com/example/eratosthenes/eratosthenes/tune/GeneticSearchHalvesPinLaw", "at", "([ZIIII)Z"⟩ : MethodName) method_4_code 6 (some .boolean) ws ({ frames := 1, cells := 0, slots := 0, locals := 14 } : Room) n0 #[(.ref xa), (.int (1 : Int32)), (.int (5 : Int32)), (.int xx), (.int xy)] h0 (fun r h => r = some (.int 1) ∧ h0 = h) := by
  refine OC.of pn_0 hn0 #[.val (.ref xa), .val (.int (1 : Int32)), .val (.int (5 : Int32)), .val (.int xx), .val (.int xy), .unset] (fun m => by first | (simp [entryFrame, mkF, argsToLocals, Value.category, maxLocals]; done) | rfl) ?_
  intro p e s m below meth cd0 T0 X0 Q' hQ
  refine o_iloadN X0 d3_0 rfl 1 rfl ?_
  refine o_iloadN X0 d3_1 rfl 2 rfl ?_
  refine o_icmpLt X0 d3_2 7 5 (by decide) (by decide) rfl ?_ (fun q => by exfalso; exact absurd q (by decide))
  intro hc2
  refine o_iloadN X0 d3_7 rfl 8 rfl ?_
  refine o_iloadN X0 d3_8 rfl 9 rfl ?_
  refine o_iconst (v := (2 : Int32)) X0 d3_9 rfl 10 rfl ?_
  refine o_idiv X0 d3_10 (by decide) 11 rfl ?_
  refine o_icmpGe X0 d3_11 22 14 (by decide) (by decide) rfl (fun q => by exfalso; exact absurd q (by decide)) ?_
  intro hc11
  refine o_iloadN X0 d3_14 rfl 15 rfl ?_
  refine o_iloadN X0 d3_15 rfl 16 rfl ?_
  refine o_callS X0 d3_16 (rest := []) (c_bit l Z a0 hw [] n0 _ X0.size xx (1 : Int32) ) (hw _ (List.mem_of_getElem? (i := 31) rfl)) (hw _ (List.mem_of_getElem? (i := 32) rfl)) (hw _ (List.mem_of_getElem? (i := 2) rfl)) (hw _ (List.mem_of_getElem? (i := 33) rfl)) (by decide) 0 (by decide) (by decide) rfl [(.int xx), (.int (1 : Int32))] rfl pd_6 rfl rfl (Nat.le_of_eq rfl) 0 0 rfl rfl (by decide) (by decide) 19 rfl ?_
  rintro _ T1 _ X1 ⟨rfl, rfl⟩
  show OE p e ({ frames := 1, cells := 0, slots := 0, locals := 14 } : Room) below s n0 Q' T1 (mkF m 19 #[.val (.ref xa), .val (.int (1 : Int32)), .val (.int (5 : Int32)), .val (.int xx), .val (.int xy), .unset] [(.int (f_bit xx (1 : Int32)))])
  refine o_goto X1 d3_19 28 (by decide) (by decide) ?_
  refine o_istore X1 d3_28 #[.val (.ref xa), .val (.int (1 : Int32)), .val (.int (5 : Int32)), .val (.int xx), .val (.int xy), .val (.int (f_bit xx (1 : Int32)))] rfl 30 rfl ?_
  refine o_aloadN X1 d3_30 rfl rfl 31 rfl ?_
  refine o_iloadN X1 d3_31 rfl 32 rfl ?_
  refine o_baloadZ X1 H0 0 rfl d3_32 1 rfl (f_bit xx (1 : Int32)) rfl 33 rfl ?_
  refine o_iload X1 d3_33 rfl 35 rfl ?_
  refine o_icmpNe X1 d3_35 42 38 (by decide) (by decide) rfl (fun q => by exfalso; exact q rfl) ?_
  intro hc35
  refine o_iconst (v := (1 : Int32)) X1 d3_38 rfl 39 rfl ?_
  refine o_goto X1 d3_39 43 (by decide) (by decide) ?_
  exact o_retZ X1 d3_43 (by decide) (by decide) (hQ _ _ ⟨rfl, rfl⟩)
set_option maxRecDepth 65536 in
set_option maxHeartbeats 40000000 in
theorem c_kept_5_2 (l : Launch) (Z : State) (a0 : Array Value) (hw : ∀ d ∈ tables_1, d.before a0 Z = true) (ws : List Jvm.Cond) (n0 : Nat) (h0 : Heap) (hn0 : n0 ≤ h0.size) (xa : Addr) (xv : Int32) (L' : List (Addr × (Cell → Prop))) (H0 : OL n0 h0 ((xa, OA Z .boolean [(f_bit xv (0 : Int32)), (f_bit xv (1 : Int32)), (f_bit xv (2 : Int32)), (f_bit xv (3 : Int32)), (f_bit xv (4 : Int32))]) :: L')) :
    OC l Z (⟨"com/example/eratosthenes/eratosthenes/tune/GeneticSearchHalvesPinLaw", "kept", "([ZIII)Z"⟩ : MethodName) method_5_code 4 (some .boolean) ws ({ frames := 1, cells := 0, slots := 0, locals := 14 } : Room) n0 #[(.ref xa), (.int (2 : Int32)), (.int (5 : Int32)), (.int xv)] h0 (fun r h => r = some (.int 1) ∧ h0 = h) := by
  refine OC.of pn_0 hn0 #[.val (.ref xa), .val (.int (2 : Int32)), .val (.int (5 : Int32)), .val (.int xv)] (fun m => by first | (simp [entryFrame, mkF, argsToLocals, Value.category, maxLocals]; done) | rfl) ?_
  intro p e s m below meth cd0 T0 X0 Q' hQ
  refine o_iloadN X0 d5_0 rfl 1 rfl ?_
  refine o_iloadN X0 d5_1 rfl 2 rfl ?_
  refine o_icmpGe X0 d5_2 16 5 (by decide) (by decide) rfl (fun q => by exfalso; exact absurd q (by decide)) ?_
  intro hc2
  refine o_aloadN X0 d5_5 rfl rfl 6 rfl ?_
  refine o_iloadN X0 d5_6 rfl 7 rfl ?_
  refine o_baloadZ X0 H0 0 rfl d5_7 2 rfl (f_bit xv (2 : Int32)) rfl 8 rfl ?_
  refine o_iloadN X0 d5_8 rfl 9 rfl ?_
  refine o_iloadN X0 d5_9 rfl 10 rfl ?_
  refine o_callS X0 d5_10 (rest := [(.int (f_bit xv (2 : Int32)))]) (c_bit l Z a0 hw [] n0 _ X0.size xv (2 : Int32) ) (hw _ (List.mem_of_getElem? (i := 31) rfl)) (hw _ (List.mem_of_getElem? (i := 32) rfl)) (hw _ (List.mem_of_getElem? (i := 2) rfl)) (hw _ (List.mem_of_getElem? (i := 33) rfl)) (by decide) 1 (by decide) (by decide) rfl [(.int xv), (.int (2 : Int32))] rfl pd_6 rfl rfl (Nat.le_of_eq rfl) 0 0 rfl rfl (by decide) (by decide) 13 rfl ?_
  rintro _ T1 _ X1 ⟨rfl, rfl⟩
  show OE p e ({ frames := 1, cells := 0, slots := 0, locals := 14 } : Room) below s n0 Q' T1 (mkF m 13 #[.val (.ref xa), .val (.int (2 : Int32)), .val (.int (5 : Int32)), .val (.int xv)] [(.int (f_bit xv (2 : Int32))), (.int (f_bit xv (2 : Int32)))])
  refine o_icmpNe X1 d5_13 20 16 (by decide) (by decide) rfl (fun q => by exfalso; exact q rfl) ?_
  intro hc13
  refine o_iconst (v := (1 : Int32)) X1 d5_16 rfl 17 rfl ?_
  refine o_goto X1 d5_17 21 (by decide) (by decide) ?_
  exact o_retZ X1 d5_21 (by decide) (by decide) (hQ _ _ ⟨rfl, rfl⟩)
set_option maxRecDepth 65536 in
set_option maxHeartbeats 40000000 in
theorem c_at_5_2 (l : Launch) (Z : State) (a0 : Array Value) (hw : ∀ d ∈ tables_1, d.before a0 Z = true) (ws : List Jvm.Cond) (n0 : Nat) (h0 : Heap) (hn0 : n0 ≤ h0.size) (xa : Addr) (xx xy : Int32) (L' : List (Addr × (Cell → Prop))) (H0 : OL n0 h0 ((xa, OA Z .boolean [(f_bit xx (0 : Int32)), (f_bit xx (1 : Int32)), (f_bit xy (2 : Int32)), (f_bit xy (3 : Int32)), (f_bit xy (4 : Int32))]) :: L')) :
    OC l Z (⟨"com/example/eratosthenes/eratosthenes/tune/GeneticSearchHalvesPinLaw", "at", "([ZIIII)Z"⟩ : MethodName) method_4_code 6 (some .boolean) ws ({ frames := 1, cells := 0, slots := 0, locals := 14 } : Room) n0 #[(.ref xa), (.int (2 : Int32)), (.int (5 : Int32)), (.int xx), (.int xy)] h0 (fun r h => r = some (.int 1) ∧ h0 = h) := by
  refine OC.of pn_0 hn0 #[.val (.ref xa), .val (.int (2 : Int32)), .val (.int (5 : Int32)), .val (.int xx), .val (.int xy), .unset] (fun m => by first | (simp [entryFrame, mkF, argsToLocals, Value.category, maxLocals]; done) | rfl) ?_
  intro p e s m below meth cd0 T0 X0 Q' hQ
  refine o_iloadN X0 d3_0 rfl 1 rfl ?_
  refine o_iloadN X0 d3_1 rfl 2 rfl ?_
  refine o_icmpLt X0 d3_2 7 5 (by decide) (by decide) rfl ?_ (fun q => by exfalso; exact absurd q (by decide))
  intro hc2
  refine o_iloadN X0 d3_7 rfl 8 rfl ?_
  refine o_iloadN X0 d3_8 rfl 9 rfl ?_
  refine o_iconst (v := (2 : Int32)) X0 d3_9 rfl 10 rfl ?_
  refine o_idiv X0 d3_10 (by decide) 11 rfl ?_
  refine o_icmpGe X0 d3_11 22 14 (by decide) (by decide) rfl ?_ (fun q => by exfalso; exact absurd q (by decide))
  intro hc11
  refine o_iload X0 d3_22 rfl 24 rfl ?_
  refine o_iloadN X0 d3_24 rfl 25 rfl ?_
  refine o_callS X0 d3_25 (rest := []) (c_bit l Z a0 hw [] n0 _ X0.size xy (2 : Int32) ) (hw _ (List.mem_of_getElem? (i := 31) rfl)) (hw _ (List.mem_of_getElem? (i := 32) rfl)) (hw _ (List.mem_of_getElem? (i := 2) rfl)) (hw _ (List.mem_of_getElem? (i := 33) rfl)) (by decide) 0 (by decide) (by decide) rfl [(.int xy), (.int (2 : Int32))] rfl pd_6 rfl rfl (Nat.le_of_eq rfl) 0 0 rfl rfl (by decide) (by decide) 28 rfl ?_
  rintro _ T1 _ X1 ⟨rfl, rfl⟩
  show OE p e ({ frames := 1, cells := 0, slots := 0, locals := 14 } : Room) below s n0 Q' T1 (mkF m 28 #[.val (.ref xa), .val (.int (2 : Int32)), .val (.int (5 : Int32)), .val (.int xx), .val (.int xy), .unset] [(.int (f_bit xy (2 : Int32)))])
  refine o_istore X1 d3_28 #[.val (.ref xa), .val (.int (2 : Int32)), .val (.int (5 : Int32)), .val (.int xx), .val (.int xy), .val (.int (f_bit xy (2 : Int32)))] rfl 30 rfl ?_
  refine o_aloadN X1 d3_30 rfl rfl 31 rfl ?_
  refine o_iloadN X1 d3_31 rfl 32 rfl ?_
  refine o_baloadZ X1 H0 0 rfl d3_32 2 rfl (f_bit xy (2 : Int32)) rfl 33 rfl ?_
  refine o_iload X1 d3_33 rfl 35 rfl ?_
  refine o_icmpNe X1 d3_35 42 38 (by decide) (by decide) rfl (fun q => by exfalso; exact q rfl) ?_
  intro hc35
  refine o_iconst (v := (1 : Int32)) X1 d3_38 rfl 39 rfl ?_
  refine o_goto X1 d3_39 43 (by decide) (by decide) ?_
  exact o_retZ X1 d3_43 (by decide) (by decide) (hQ _ _ ⟨rfl, rfl⟩)
set_option maxRecDepth 65536 in
set_option maxHeartbeats 40000000 in
theorem c_kept_5_3 (l : Launch) (Z : State) (a0 : Array Value) (hw : ∀ d ∈ tables_1, d.before a0 Z = true) (ws : List Jvm.Cond) (n0 : Nat) (h0 : Heap) (hn0 : n0 ≤ h0.size) (xa : Addr) (xv : Int32) (L' : List (Addr × (Cell → Prop))) (H0 : OL n0 h0 ((xa, OA Z .boolean [(f_bit xv (0 : Int32)), (f_bit xv (1 : Int32)), (f_bit xv (2 : Int32)), (f_bit xv (3 : Int32)), (f_bit xv (4 : Int32))]) :: L')) :
    OC l Z (⟨"com/example/eratosthenes/eratosthenes/tune/GeneticSearchHalvesPinLaw", "kept", "([ZIII)Z"⟩ : MethodName) method_5_code 4 (some .boolean) ws ({ frames := 1, cells := 0, slots := 0, locals := 14 } : Room) n0 #[(.ref xa), (.int (3 : Int32)), (.int (5 : Int32)), (.int xv)] h0 (fun r h => r = some (.int 1) ∧ h0 = h) := by
  refine OC.of pn_0 hn0 #[.val (.ref xa), .val (.int (3 : Int32)), .val (.int (5 : Int32)), .val (.int xv)] (fun m => by first | (simp [entryFrame, mkF, argsToLocals, Value.category, maxLocals]; done) | rfl) ?_
  intro p e s m below meth cd0 T0 X0 Q' hQ
  refine o_iloadN X0 d5_0 rfl 1 rfl ?_
  refine o_iloadN X0 d5_1 rfl 2 rfl ?_
  refine o_icmpGe X0 d5_2 16 5 (by decide) (by decide) rfl (fun q => by exfalso; exact absurd q (by decide)) ?_
  intro hc2
  refine o_aloadN X0 d5_5 rfl rfl 6 rfl ?_
  refine o_iloadN X0 d5_6 rfl 7 rfl ?_
  refine o_baloadZ X0 H0 0 rfl d5_7 3 rfl (f_bit xv (3 : Int32)) rfl 8 rfl ?_
  refine o_iloadN X0 d5_8 rfl 9 rfl ?_
  refine o_iloadN X0 d5_9 rfl 10 rfl ?_
  refine o_callS X0 d5_10 (rest := [(.int (f_bit xv (3 : Int32)))]) (c_bit l Z a0 hw [] n0 _ X0.size xv (3 : Int32) ) (hw _ (List.mem_of_getElem? (i := 31) rfl)) (hw _ (List.mem_of_getElem? (i := 32) rfl)) (hw _ (List.mem_of_getElem? (i := 2) rfl)) (hw _ (List.mem_of_getElem? (i := 33) rfl)) (by decide) 1 (by decide) (by decide) rfl [(.int xv), (.int (3 : Int32))] rfl pd_6 rfl rfl (Nat.le_of_eq rfl) 0 0 rfl rfl (by decide) (by decide) 13 rfl ?_
  rintro _ T1 _ X1 ⟨rfl, rfl⟩
  show OE p e ({ frames := 1, cells := 0, slots := 0, locals := 14 } : Room) below s n0 Q' T1 (mkF m 13 #[.val (.ref xa), .val (.int (3 : Int32)), .val (.int (5 : Int32)), .val (.int xv)] [(.int (f_bit xv (3 : Int32))), (.int (f_bit xv (3 : Int32)))])
  refine o_icmpNe X1 d5_13 20 16 (by decide) (by decide) rfl (fun q => by exfalso; exact q rfl) ?_
  intro hc13
  refine o_iconst (v := (1 : Int32)) X1 d5_16 rfl 17 rfl ?_
  refine o_goto X1 d5_17 21 (by decide) (by decide) ?_
  exact o_retZ X1 d5_21 (by decide) (by decide) (hQ _ _ ⟨rfl, rfl⟩)
set_option maxRecDepth 65536 in
set_option maxHeartbeats 40000000 in
theorem c_at_5_3 (l : Launch) (Z : State) (a0 : Array Value) (hw : ∀ d ∈ tables_1, d.before a0 Z = true) (ws : List Jvm.Cond) (n0 : Nat) (h0 : Heap) (hn0 : n0 ≤ h0.size) (xa : Addr) (xx xy : Int32) (L' : List (Addr × (Cell → Prop))) (H0 : OL n0 h0 ((xa, OA Z .boolean [(f_bit xx (0 : Int32)), (f_bit xx (1 : Int32)), (f_bit xy (2 : Int32)), (f_bit xy (3 : Int32)), (f_bit xy (4 : Int32))]) :: L')) :
    OC l Z (⟨"com/example/eratosthenes/eratosthenes/tune/GeneticSearchHalvesPinLaw", "at", "([ZIIII)Z"⟩ : MethodName) method_4_code 6 (some .boolean) ws ({ frames := 1, cells := 0, slots := 0, locals := 14 } : Room) n0 #[(.ref xa), (.int (3 : Int32)), (.int (5 : Int32)), (.int xx), (.int xy)] h0 (fun r h => r = some (.int 1) ∧ h0 = h) := by
  refine OC.of pn_0 hn0 #[.val (.ref xa), .val (.int (3 : Int32)), .val (.int (5 : Int32)), .val (.int xx), .val (.int xy), .unset] (fun m => by first | (simp [entryFrame, mkF, argsToLocals, Value.category, maxLocals]; done) | rfl) ?_
  intro p e s m below meth cd0 T0 X0 Q' hQ
  refine o_iloadN X0 d3_0 rfl 1 rfl ?_
  refine o_iloadN X0 d3_1 rfl 2 rfl ?_
  refine o_icmpLt X0 d3_2 7 5 (by decide) (by decide) rfl ?_ (fun q => by exfalso; exact absurd q (by decide))
  intro hc2
  refine o_iloadN X0 d3_7 rfl 8 rfl ?_
  refine o_iloadN X0 d3_8 rfl 9 rfl ?_
  refine o_iconst (v := (2 : Int32)) X0 d3_9 rfl 10 rfl ?_
  refine o_idiv X0 d3_10 (by decide) 11 rfl ?_
  refine o_icmpGe X0 d3_11 22 14 (by decide) (by decide) rfl ?_ (fun q => by exfalso; exact absurd q (by decide))
  intro hc11
  refine o_iload X0 d3_22 rfl 24 rfl ?_
  refine o_iloadN X0 d3_24 rfl 25 rfl ?_
  refine o_callS X0 d3_25 (rest := []) (c_bit l Z a0 hw [] n0 _ X0.size xy (3 : Int32) ) (hw _ (List.mem_of_getElem? (i := 31) rfl)) (hw _ (List.mem_of_getElem? (i := 32) rfl)) (hw _ (List.mem_of_getElem? (i := 2) rfl)) (hw _ (List.mem_of_getElem? (i := 33) rfl)) (by decide) 0 (by decide) (by decide) rfl [(.int xy), (.int (3 : Int32))] rfl pd_6 rfl rfl (Nat.le_of_eq rfl) 0 0 rfl rfl (by decide) (by decide) 28 rfl ?_
  rintro _ T1 _ X1 ⟨rfl, rfl⟩
  show OE p e ({ frames := 1, cells := 0, slots := 0, locals := 14 } : Room) below s n0 Q' T1 (mkF m 28 #[.val (.ref xa), .val (.int (3 : Int32)), .val (.int (5 : Int32)), .val (.int xx), .val (.int xy), .unset] [(.int (f_bit xy (3 : Int32)))])
  refine o_istore X1 d3_28 #[.val (.ref xa), .val (.int (3 : Int32)), .val (.int (5 : Int32)), .val (.int xx), .val (.int xy), .val (.int (f_bit xy (3 : Int32)))] rfl 30 rfl ?_
  refine o_aloadN X1 d3_30 rfl rfl 31 rfl ?_
  refine o_iloadN X1 d3_31 rfl 32 rfl ?_
  refine o_baloadZ X1 H0 0 rfl d3_32 3 rfl (f_bit xy (3 : Int32)) rfl 33 rfl ?_
  refine o_iload X1 d3_33 rfl 35 rfl ?_
  refine o_icmpNe X1 d3_35 42 38 (by decide) (by decide) rfl (fun q => by exfalso; exact q rfl) ?_
  intro hc35
  refine o_iconst (v := (1 : Int32)) X1 d3_38 rfl 39 rfl ?_
  refine o_goto X1 d3_39 43 (by decide) (by decide) ?_
  exact o_retZ X1 d3_43 (by decide) (by decide) (hQ _ _ ⟨rfl, rfl⟩)
set_option maxRecDepth 65536 in
set_option maxHeartbeats 40000000 in
theorem c_kept_5_4 (l : Launch) (Z : State) (a0 : Array Value) (hw : ∀ d ∈ tables_1, d.before a0 Z = true) (ws : List Jvm.Cond) (n0 : Nat) (h0 : Heap) (hn0 : n0 ≤ h0.size) (xa : Addr) (xv : Int32) (L' : List (Addr × (Cell → Prop))) (H0 : OL n0 h0 ((xa, OA Z .boolean [(f_bit xv (0 : Int32)), (f_bit xv (1 : Int32)), (f_bit xv (2 : Int32)), (f_bit xv (3 : Int32)), (f_bit xv (4 : Int32))]) :: L')) :
    OC l Z (⟨"com/example/eratosthenes/eratosthenes/tune/GeneticSearchHalvesPinLaw", "kept", "([ZIII)Z"⟩ : MethodName) method_5_code 4 (some .boolean) ws ({ frames := 1, cells := 0, slots := 0, locals := 14 } : Room) n0 #[(.ref xa), (.int (4 : Int32)), (.int (5 : Int32)), (.int xv)] h0 (fun r h => r = some (.int 1) ∧ h0 = h) := by
  refine OC.of pn_0 hn0 #[.val (.ref xa), .val (.int (4 : Int32)), .val (.int (5 : Int32)), .val (.int xv)] (fun m => by first | (simp [entryFrame, mkF, argsToLocals, Value.category, maxLocals]; done) | rfl) ?_
  intro p e s m below meth cd0 T0 X0 Q' hQ
  refine o_iloadN X0 d5_0 rfl 1 rfl ?_
  refine o_iloadN X0 d5_1 rfl 2 rfl ?_
  refine o_icmpGe X0 d5_2 16 5 (by decide) (by decide) rfl (fun q => by exfalso; exact absurd q (by decide)) ?_
  intro hc2
  refine o_aloadN X0 d5_5 rfl rfl 6 rfl ?_
  refine o_iloadN X0 d5_6 rfl 7 rfl ?_
  refine o_baloadZ X0 H0 0 rfl d5_7 4 rfl (f_bit xv (4 : Int32)) rfl 8 rfl ?_
  refine o_iloadN X0 d5_8 rfl 9 rfl ?_
  refine o_iloadN X0 d5_9 rfl 10 rfl ?_
  refine o_callS X0 d5_10 (rest := [(.int (f_bit xv (4 : Int32)))]) (c_bit l Z a0 hw [] n0 _ X0.size xv (4 : Int32) ) (hw _ (List.mem_of_getElem? (i := 31) rfl)) (hw _ (List.mem_of_getElem? (i := 32) rfl)) (hw _ (List.mem_of_getElem? (i := 2) rfl)) (hw _ (List.mem_of_getElem? (i := 33) rfl)) (by decide) 1 (by decide) (by decide) rfl [(.int xv), (.int (4 : Int32))] rfl pd_6 rfl rfl (Nat.le_of_eq rfl) 0 0 rfl rfl (by decide) (by decide) 13 rfl ?_
  rintro _ T1 _ X1 ⟨rfl, rfl⟩
  show OE p e ({ frames := 1, cells := 0, slots := 0, locals := 14 } : Room) below s n0 Q' T1 (mkF m 13 #[.val (.ref xa), .val (.int (4 : Int32)), .val (.int (5 : Int32)), .val (.int xv)] [(.int (f_bit xv (4 : Int32))), (.int (f_bit xv (4 : Int32)))])
  refine o_icmpNe X1 d5_13 20 16 (by decide) (by decide) rfl (fun q => by exfalso; exact q rfl) ?_
  intro hc13
  refine o_iconst (v := (1 : Int32)) X1 d5_16 rfl 17 rfl ?_
  refine o_goto X1 d5_17 21 (by decide) (by decide) ?_
  exact o_retZ X1 d5_21 (by decide) (by decide) (hQ _ _ ⟨rfl, rfl⟩)
set_option maxRecDepth 65536 in
set_option maxHeartbeats 40000000 in
theorem c_at_5_4 (l : Launch) (Z : State) (a0 : Array Value) (hw : ∀ d ∈ tables_1, d.before a0 Z = true) (ws : List Jvm.Cond) (n0 : Nat) (h0 : Heap) (hn0 : n0 ≤ h0.size) (xa : Addr) (xx xy : Int32) (L' : List (Addr × (Cell → Prop))) (H0 : OL n0 h0 ((xa, OA Z .boolean [(f_bit xx (0 : Int32)), (f_bit xx (1 : Int32)), (f_bit xy (2 : Int32)), (f_bit xy (3 : Int32)), (f_bit xy (4 : Int32))]) :: L')) :
    OC l Z (⟨"com/example/eratosthenes/eratosthenes/tune/GeneticSearchHalvesPinLaw", "at", "([ZIIII)Z"⟩ : MethodName) method_4_code 6 (some .boolean) ws ({ frames := 1, cells := 0, slots := 0, locals := 14 } : Room) n0 #[(.ref xa), (.int (4 : Int32)), (.int (5 : Int32)), (.int xx), (.int xy)] h0 (fun r h => r = some (.int 1) ∧ h0 = h) := by
  refine OC.of pn_0 hn0 #[.val (.ref xa), .val (.int (4 : Int32)), .val (.int (5 : Int32)), .val (.int xx), .val (.int xy), .unset] (fun m => by first | (simp [entryFrame, mkF, argsToLocals, Value.category, maxLocals]; done) | rfl) ?_
  intro p e s m below meth cd0 T0 X0 Q' hQ
  refine o_iloadN X0 d3_0 rfl 1 rfl ?_
  refine o_iloadN X0 d3_1 rfl 2 rfl ?_
  refine o_icmpLt X0 d3_2 7 5 (by decide) (by decide) rfl ?_ (fun q => by exfalso; exact absurd q (by decide))
  intro hc2
  refine o_iloadN X0 d3_7 rfl 8 rfl ?_
  refine o_iloadN X0 d3_8 rfl 9 rfl ?_
  refine o_iconst (v := (2 : Int32)) X0 d3_9 rfl 10 rfl ?_
  refine o_idiv X0 d3_10 (by decide) 11 rfl ?_
  refine o_icmpGe X0 d3_11 22 14 (by decide) (by decide) rfl ?_ (fun q => by exfalso; exact absurd q (by decide))
  intro hc11
  refine o_iload X0 d3_22 rfl 24 rfl ?_
  refine o_iloadN X0 d3_24 rfl 25 rfl ?_
  refine o_callS X0 d3_25 (rest := []) (c_bit l Z a0 hw [] n0 _ X0.size xy (4 : Int32) ) (hw _ (List.mem_of_getElem? (i := 31) rfl)) (hw _ (List.mem_of_getElem? (i := 32) rfl)) (hw _ (List.mem_of_getElem? (i := 2) rfl)) (hw _ (List.mem_of_getElem? (i := 33) rfl)) (by decide) 0 (by decide) (by decide) rfl [(.int xy), (.int (4 : Int32))] rfl pd_6 rfl rfl (Nat.le_of_eq rfl) 0 0 rfl rfl (by decide) (by decide) 28 rfl ?_
  rintro _ T1 _ X1 ⟨rfl, rfl⟩
  show OE p e ({ frames := 1, cells := 0, slots := 0, locals := 14 } : Room) below s n0 Q' T1 (mkF m 28 #[.val (.ref xa), .val (.int (4 : Int32)), .val (.int (5 : Int32)), .val (.int xx), .val (.int xy), .unset] [(.int (f_bit xy (4 : Int32)))])
  refine o_istore X1 d3_28 #[.val (.ref xa), .val (.int (4 : Int32)), .val (.int (5 : Int32)), .val (.int xx), .val (.int xy), .val (.int (f_bit xy (4 : Int32)))] rfl 30 rfl ?_
  refine o_aloadN X1 d3_30 rfl rfl 31 rfl ?_
  refine o_iloadN X1 d3_31 rfl 32 rfl ?_
  refine o_baloadZ X1 H0 0 rfl d3_32 4 rfl (f_bit xy (4 : Int32)) rfl 33 rfl ?_
  refine o_iload X1 d3_33 rfl 35 rfl ?_
  refine o_icmpNe X1 d3_35 42 38 (by decide) (by decide) rfl (fun q => by exfalso; exact q rfl) ?_
  intro hc35
  refine o_iconst (v := (1 : Int32)) X1 d3_38 rfl 39 rfl ?_
  refine o_goto X1 d3_39 43 (by decide) (by decide) ?_
  exact o_retZ X1 d3_43 (by decide) (by decide) (hQ _ _ ⟨rfl, rfl⟩)
set_option maxRecDepth 65536 in
set_option maxHeartbeats 40000000 in
theorem c_kept_5_5 (l : Launch) (Z : State) (a0 : Array Value) (hw : ∀ d ∈ tables_1, d.before a0 Z = true) (ws : List Jvm.Cond) (n0 : Nat) (h0 : Heap) (hn0 : n0 ≤ h0.size) (xa : Addr) (xv : Int32) (L' : List (Addr × (Cell → Prop))) (H0 : OL n0 h0 ((xa, OA Z .boolean [(f_bit xv (0 : Int32)), (f_bit xv (1 : Int32)), (f_bit xv (2 : Int32)), (f_bit xv (3 : Int32)), (f_bit xv (4 : Int32))]) :: L')) :
    OC l Z (⟨"com/example/eratosthenes/eratosthenes/tune/GeneticSearchHalvesPinLaw", "kept", "([ZIII)Z"⟩ : MethodName) method_5_code 4 (some .boolean) ws ({ frames := 1, cells := 0, slots := 0, locals := 14 } : Room) n0 #[(.ref xa), (.int (5 : Int32)), (.int (5 : Int32)), (.int xv)] h0 (fun r h => r = some (.int 1) ∧ h0 = h) := by
  refine OC.of pn_0 hn0 #[.val (.ref xa), .val (.int (5 : Int32)), .val (.int (5 : Int32)), .val (.int xv)] (fun m => by first | (simp [entryFrame, mkF, argsToLocals, Value.category, maxLocals]; done) | rfl) ?_
  intro p e s m below meth cd0 T0 X0 Q' hQ
  refine o_iloadN X0 d5_0 rfl 1 rfl ?_
  refine o_iloadN X0 d5_1 rfl 2 rfl ?_
  refine o_icmpGe X0 d5_2 16 5 (by decide) (by decide) rfl ?_ (fun q => by exfalso; exact absurd q (by decide))
  intro hc2
  refine o_iconst (v := (1 : Int32)) X0 d5_16 rfl 17 rfl ?_
  refine o_goto X0 d5_17 21 (by decide) (by decide) ?_
  exact o_retZ X0 d5_21 (by decide) (by decide) (hQ _ _ ⟨rfl, rfl⟩)
set_option maxRecDepth 65536 in
set_option maxHeartbeats 40000000 in
theorem c_at_5_5 (l : Launch) (Z : State) (a0 : Array Value) (hw : ∀ d ∈ tables_1, d.before a0 Z = true) (ws : List Jvm.Cond) (n0 : Nat) (h0 : Heap) (hn0 : n0 ≤ h0.size) (xa : Addr) (xx xy : Int32) (L' : List (Addr × (Cell → Prop))) (H0 : OL n0 h0 ((xa, OA Z .boolean [(f_bit xx (0 : Int32)), (f_bit xx (1 : Int32)), (f_bit xy (2 : Int32)), (f_bit xy (3 : Int32)), (f_bit xy (4 : Int32))]) :: L')) :
    OC l Z (⟨"com/example/eratosthenes/eratosthenes/tune/GeneticSearchHalvesPinLaw", "at", "([ZIIII)Z"⟩ : MethodName) method_4_code 6 (some .boolean) ws ({ frames := 1, cells := 0, slots := 0, locals := 14 } : Room) n0 #[(.ref xa), (.int (5 : Int32)), (.int (5 : Int32)), (.int xx), (.int xy)] h0 (fun r h => r = some (.int 1) ∧ h0 = h) := by
  refine OC.of pn_0 hn0 #[.val (.ref xa), .val (.int (5 : Int32)), .val (.int (5 : Int32)), .val (.int xx), .val (.int xy), .unset] (fun m => by first | (simp [entryFrame, mkF, argsToLocals, Value.category, maxLocals]; done) | rfl) ?_
  intro p e s m below meth cd0 T0 X0 Q' hQ
  refine o_iloadN X0 d3_0 rfl 1 rfl ?_
  refine o_iloadN X0 d3_1 rfl 2 rfl ?_
  refine o_icmpLt X0 d3_2 7 5 (by decide) (by decide) rfl (fun q => by exfalso; exact absurd q (by decide)) ?_
  intro hc2
  refine o_iconst (v := (1 : Int32)) X0 d3_5 rfl 6 rfl ?_
  exact o_retZ X0 d3_6 (by decide) (by decide) (hQ _ _ ⟨rfl, rfl⟩)
set_option maxRecDepth 65536 in
set_option maxHeartbeats 40000000 in
theorem c_kept_5_6 (l : Launch) (Z : State) (a0 : Array Value) (hw : ∀ d ∈ tables_1, d.before a0 Z = true) (ws : List Jvm.Cond) (n0 : Nat) (h0 : Heap) (hn0 : n0 ≤ h0.size) (xa : Addr) (xv : Int32) (L' : List (Addr × (Cell → Prop))) (H0 : OL n0 h0 ((xa, OA Z .boolean [(f_bit xv (0 : Int32)), (f_bit xv (1 : Int32)), (f_bit xv (2 : Int32)), (f_bit xv (3 : Int32)), (f_bit xv (4 : Int32))]) :: L')) :
    OC l Z (⟨"com/example/eratosthenes/eratosthenes/tune/GeneticSearchHalvesPinLaw", "kept", "([ZIII)Z"⟩ : MethodName) method_5_code 4 (some .boolean) ws ({ frames := 1, cells := 0, slots := 0, locals := 14 } : Room) n0 #[(.ref xa), (.int (6 : Int32)), (.int (5 : Int32)), (.int xv)] h0 (fun r h => r = some (.int 1) ∧ h0 = h) := by
  refine OC.of pn_0 hn0 #[.val (.ref xa), .val (.int (6 : Int32)), .val (.int (5 : Int32)), .val (.int xv)] (fun m => by first | (simp [entryFrame, mkF, argsToLocals, Value.category, maxLocals]; done) | rfl) ?_
  intro p e s m below meth cd0 T0 X0 Q' hQ
  refine o_iloadN X0 d5_0 rfl 1 rfl ?_
  refine o_iloadN X0 d5_1 rfl 2 rfl ?_
  refine o_icmpGe X0 d5_2 16 5 (by decide) (by decide) rfl ?_ (fun q => by exfalso; exact absurd q (by decide))
  intro hc2
  refine o_iconst (v := (1 : Int32)) X0 d5_16 rfl 17 rfl ?_
  refine o_goto X0 d5_17 21 (by decide) (by decide) ?_
  exact o_retZ X0 d5_21 (by decide) (by decide) (hQ _ _ ⟨rfl, rfl⟩)
set_option maxRecDepth 65536 in
set_option maxHeartbeats 40000000 in
theorem c_at_5_6 (l : Launch) (Z : State) (a0 : Array Value) (hw : ∀ d ∈ tables_1, d.before a0 Z = true) (ws : List Jvm.Cond) (n0 : Nat) (h0 : Heap) (hn0 : n0 ≤ h0.size) (xa : Addr) (xx xy : Int32) (L' : List (Addr × (Cell → Prop))) (H0 : OL n0 h0 ((xa, OA Z .boolean [(f_bit xx (0 : Int32)), (f_bit xx (1 : Int32)), (f_bit xy (2 : Int32)), (f_bit xy (3 : Int32)), (f_bit xy (4 : Int32))]) :: L')) :
    OC l Z (⟨"com/example/eratosthenes/eratosthenes/tune/GeneticSearchHalvesPinLaw", "at", "([ZIIII)Z"⟩ : MethodName) method_4_code 6 (some .boolean) ws ({ frames := 1, cells := 0, slots := 0, locals := 14 } : Room) n0 #[(.ref xa), (.int (6 : Int32)), (.int (5 : Int32)), (.int xx), (.int xy)] h0 (fun r h => r = some (.int 1) ∧ h0 = h) := by
  refine OC.of pn_0 hn0 #[.val (.ref xa), .val (.int (6 : Int32)), .val (.int (5 : Int32)), .val (.int xx), .val (.int xy), .unset] (fun m => by first | (simp [entryFrame, mkF, argsToLocals, Value.category, maxLocals]; done) | rfl) ?_
  intro p e s m below meth cd0 T0 X0 Q' hQ
  refine o_iloadN X0 d3_0 rfl 1 rfl ?_
  refine o_iloadN X0 d3_1 rfl 2 rfl ?_
  refine o_icmpLt X0 d3_2 7 5 (by decide) (by decide) rfl (fun q => by exfalso; exact absurd q (by decide)) ?_
  intro hc2
  refine o_iconst (v := (1 : Int32)) X0 d3_5 rfl 6 rfl ?_
  exact o_retZ X0 d3_6 (by decide) (by decide) (hQ _ _ ⟨rfl, rfl⟩)
set_option maxRecDepth 65536 in
set_option maxHeartbeats 40000000 in
theorem c_kept_6_0 (l : Launch) (Z : State) (a0 : Array Value) (hw : ∀ d ∈ tables_1, d.before a0 Z = true) (ws : List Jvm.Cond) (n0 : Nat) (h0 : Heap) (hn0 : n0 ≤ h0.size) (xa : Addr) (xv : Int32) (L' : List (Addr × (Cell → Prop))) (H0 : OL n0 h0 ((xa, OA Z .boolean [(f_bit xv (0 : Int32)), (f_bit xv (1 : Int32)), (f_bit xv (2 : Int32)), (f_bit xv (3 : Int32)), (f_bit xv (4 : Int32)), (f_bit xv (5 : Int32))]) :: L')) :
    OC l Z (⟨"com/example/eratosthenes/eratosthenes/tune/GeneticSearchHalvesPinLaw", "kept", "([ZIII)Z"⟩ : MethodName) method_5_code 4 (some .boolean) ws ({ frames := 1, cells := 0, slots := 0, locals := 14 } : Room) n0 #[(.ref xa), (.int (0 : Int32)), (.int (6 : Int32)), (.int xv)] h0 (fun r h => r = some (.int 1) ∧ h0 = h) := by
  refine OC.of pn_0 hn0 #[.val (.ref xa), .val (.int (0 : Int32)), .val (.int (6 : Int32)), .val (.int xv)] (fun m => by first | (simp [entryFrame, mkF, argsToLocals, Value.category, maxLocals]; done) | rfl) ?_
  intro p e s m below meth cd0 T0 X0 Q' hQ
  refine o_iloadN X0 d5_0 rfl 1 rfl ?_
  refine o_iloadN X0 d5_1 rfl 2 rfl ?_
  refine o_icmpGe X0 d5_2 16 5 (by decide) (by decide) rfl (fun q => by exfalso; exact absurd q (by decide)) ?_
  intro hc2
  refine o_aloadN X0 d5_5 rfl rfl 6 rfl ?_
  refine o_iloadN X0 d5_6 rfl 7 rfl ?_
  refine o_baloadZ X0 H0 0 rfl d5_7 0 rfl (f_bit xv (0 : Int32)) rfl 8 rfl ?_
  refine o_iloadN X0 d5_8 rfl 9 rfl ?_
  refine o_iloadN X0 d5_9 rfl 10 rfl ?_
  refine o_callS X0 d5_10 (rest := [(.int (f_bit xv (0 : Int32)))]) (c_bit l Z a0 hw [] n0 _ X0.size xv (0 : Int32) ) (hw _ (List.mem_of_getElem? (i := 31) rfl)) (hw _ (List.mem_of_getElem? (i := 32) rfl)) (hw _ (List.mem_of_getElem? (i := 2) rfl)) (hw _ (List.mem_of_getElem? (i := 33) rfl)) (by decide) 1 (by decide) (by decide) rfl [(.int xv), (.int (0 : Int32))] rfl pd_6 rfl rfl (Nat.le_of_eq rfl) 0 0 rfl rfl (by decide) (by decide) 13 rfl ?_
  rintro _ T1 _ X1 ⟨rfl, rfl⟩
  show OE p e ({ frames := 1, cells := 0, slots := 0, locals := 14 } : Room) below s n0 Q' T1 (mkF m 13 #[.val (.ref xa), .val (.int (0 : Int32)), .val (.int (6 : Int32)), .val (.int xv)] [(.int (f_bit xv (0 : Int32))), (.int (f_bit xv (0 : Int32)))])
  refine o_icmpNe X1 d5_13 20 16 (by decide) (by decide) rfl (fun q => by exfalso; exact q rfl) ?_
  intro hc13
  refine o_iconst (v := (1 : Int32)) X1 d5_16 rfl 17 rfl ?_
  refine o_goto X1 d5_17 21 (by decide) (by decide) ?_
  exact o_retZ X1 d5_21 (by decide) (by decide) (hQ _ _ ⟨rfl, rfl⟩)
set_option maxRecDepth 65536 in
set_option maxHeartbeats 40000000 in
theorem c_at_6_0 (l : Launch) (Z : State) (a0 : Array Value) (hw : ∀ d ∈ tables_1, d.before a0 Z = true) (ws : List Jvm.Cond) (n0 : Nat) (h0 : Heap) (hn0 : n0 ≤ h0.size) (xa : Addr) (xx xy : Int32) (L' : List (Addr × (Cell → Prop))) (H0 : OL n0 h0 ((xa, OA Z .boolean [(f_bit xx (0 : Int32)), (f_bit xx (1 : Int32)), (f_bit xx (2 : Int32)), (f_bit xy (3 : Int32)), (f_bit xy (4 : Int32)), (f_bit xy (5 : Int32))]) :: L')) :
    OC l Z (⟨"com/example/eratosthenes/eratosthenes/tune/GeneticSearchHalvesPinLaw", "at", "([ZIIII)Z"⟩ : MethodName) method_4_code 6 (some .boolean) ws ({ frames := 1, cells := 0, slots := 0, locals := 14 } : Room) n0 #[(.ref xa), (.int (0 : Int32)), (.int (6 : Int32)), (.int xx), (.int xy)] h0 (fun r h => r = some (.int 1) ∧ h0 = h) := by
  refine OC.of pn_0 hn0 #[.val (.ref xa), .val (.int (0 : Int32)), .val (.int (6 : Int32)), .val (.int xx), .val (.int xy), .unset] (fun m => by first | (simp [entryFrame, mkF, argsToLocals, Value.category, maxLocals]; done) | rfl) ?_
  intro p e s m below meth cd0 T0 X0 Q' hQ
  refine o_iloadN X0 d3_0 rfl 1 rfl ?_
  refine o_iloadN X0 d3_1 rfl 2 rfl ?_
  refine o_icmpLt X0 d3_2 7 5 (by decide) (by decide) rfl ?_ (fun q => by exfalso; exact absurd q (by decide))
  intro hc2
  refine o_iloadN X0 d3_7 rfl 8 rfl ?_
  refine o_iloadN X0 d3_8 rfl 9 rfl ?_
  refine o_iconst (v := (2 : Int32)) X0 d3_9 rfl 10 rfl ?_
  refine o_idiv X0 d3_10 (by decide) 11 rfl ?_
  refine o_icmpGe X0 d3_11 22 14 (by decide) (by decide) rfl (fun q => by exfalso; exact absurd q (by decide)) ?_
  intro hc11
  refine o_iloadN X0 d3_14 rfl 15 rfl ?_
  refine o_iloadN X0 d3_15 rfl 16 rfl ?_
  refine o_callS X0 d3_16 (rest := []) (c_bit l Z a0 hw [] n0 _ X0.size xx (0 : Int32) ) (hw _ (List.mem_of_getElem? (i := 31) rfl)) (hw _ (List.mem_of_getElem? (i := 32) rfl)) (hw _ (List.mem_of_getElem? (i := 2) rfl)) (hw _ (List.mem_of_getElem? (i := 33) rfl)) (by decide) 0 (by decide) (by decide) rfl [(.int xx), (.int (0 : Int32))] rfl pd_6 rfl rfl (Nat.le_of_eq rfl) 0 0 rfl rfl (by decide) (by decide) 19 rfl ?_
  rintro _ T1 _ X1 ⟨rfl, rfl⟩
  show OE p e ({ frames := 1, cells := 0, slots := 0, locals := 14 } : Room) below s n0 Q' T1 (mkF m 19 #[.val (.ref xa), .val (.int (0 : Int32)), .val (.int (6 : Int32)), .val (.int xx), .val (.int xy), .unset] [(.int (f_bit xx (0 : Int32)))])
  refine o_goto X1 d3_19 28 (by decide) (by decide) ?_
  refine o_istore X1 d3_28 #[.val (.ref xa), .val (.int (0 : Int32)), .val (.int (6 : Int32)), .val (.int xx), .val (.int xy), .val (.int (f_bit xx (0 : Int32)))] rfl 30 rfl ?_
  refine o_aloadN X1 d3_30 rfl rfl 31 rfl ?_
  refine o_iloadN X1 d3_31 rfl 32 rfl ?_
  refine o_baloadZ X1 H0 0 rfl d3_32 0 rfl (f_bit xx (0 : Int32)) rfl 33 rfl ?_
  refine o_iload X1 d3_33 rfl 35 rfl ?_
  refine o_icmpNe X1 d3_35 42 38 (by decide) (by decide) rfl (fun q => by exfalso; exact q rfl) ?_
  intro hc35
  refine o_iconst (v := (1 : Int32)) X1 d3_38 rfl 39 rfl ?_
  refine o_goto X1 d3_39 43 (by decide) (by decide) ?_
  exact o_retZ X1 d3_43 (by decide) (by decide) (hQ _ _ ⟨rfl, rfl⟩)
set_option maxRecDepth 65536 in
set_option maxHeartbeats 40000000 in
theorem c_kept_6_1 (l : Launch) (Z : State) (a0 : Array Value) (hw : ∀ d ∈ tables_1, d.before a0 Z = true) (ws : List Jvm.Cond) (n0 : Nat) (h0 : Heap) (hn0 : n0 ≤ h0.size) (xa : Addr) (xv : Int32) (L' : List (Addr × (Cell → Prop))) (H0 : OL n0 h0 ((xa, OA Z .boolean [(f_bit xv (0 : Int32)), (f_bit xv (1 : Int32)), (f_bit xv (2 : Int32)), (f_bit xv (3 : Int32)), (f_bit xv (4 : Int32)), (f_bit xv (5 : Int32))]) :: L')) :
    OC l Z (⟨"com/example/eratosthenes/eratosthenes/tune/GeneticSearchHalvesPinLaw", "kept", "([ZIII)Z"⟩ : MethodName) method_5_code 4 (some .boolean) ws ({ frames := 1, cells := 0, slots := 0, locals := 14 } : Room) n0 #[(.ref xa), (.int (1 : Int32)), (.int (6 : Int32)), (.int xv)] h0 (fun r h => r = some (.int 1) ∧ h0 = h) := by
  refine OC.of pn_0 hn0 #[.val (.ref xa), .val (.int (1 : Int32)), .val (.int (6 : Int32)), .val (.int xv)] (fun m => by first | (simp [entryFrame, mkF, argsToLocals, Value.category, maxLocals]; done) | rfl) ?_
  intro p e s m below meth cd0 T0 X0 Q' hQ
  refine o_iloadN X0 d5_0 rfl 1 rfl ?_
  refine o_iloadN X0 d5_1 rfl 2 rfl ?_
  refine o_icmpGe X0 d5_2 16 5 (by decide) (by decide) rfl (fun q => by exfalso; exact absurd q (by decide)) ?_
  intro hc2
  refine o_aloadN X0 d5_5 rfl rfl 6 rfl ?_
  refine o_iloadN X0 d5_6 rfl 7 rfl ?_
  refine o_baloadZ X0 H0 0 rfl d5_7 1 rfl (f_bit xv (1 : Int32)) rfl 8 rfl ?_
  refine o_iloadN X0 d5_8 rfl 9 rfl ?_
  refine o_iloadN X0 d5_9 rfl 10 rfl ?_
  refine o_callS X0 d5_10 (rest := [(.int (f_bit xv (1 : Int32)))]) (c_bit l Z a0 hw [] n0 _ X0.size xv (1 : Int32) ) (hw _ (List.mem_of_getElem? (i := 31) rfl)) (hw _ (List.mem_of_getElem? (i := 32) rfl)) (hw _ (List.mem_of_getElem? (i := 2) rfl)) (hw _ (List.mem_of_getElem? (i := 33) rfl)) (by decide) 1 (by decide) (by decide) rfl [(.int xv), (.int (1 : Int32))] rfl pd_6 rfl rfl (Nat.le_of_eq rfl) 0 0 rfl rfl (by decide) (by decide) 13 rfl ?_
  rintro _ T1 _ X1 ⟨rfl, rfl⟩
  show OE p e ({ frames := 1, cells := 0, slots := 0, locals := 14 } : Room) below s n0 Q' T1 (mkF m 13 #[.val (.ref xa), .val (.int (1 : Int32)), .val (.int (6 : Int32)), .val (.int xv)] [(.int (f_bit xv (1 : Int32))), (.int (f_bit xv (1 : Int32)))])
  refine o_icmpNe X1 d5_13 20 16 (by decide) (by decide) rfl (fun q => by exfalso; exact q rfl) ?_
  intro hc13
  refine o_iconst (v := (1 : Int32)) X1 d5_16 rfl 17 rfl ?_
  refine o_goto X1 d5_17 21 (by decide) (by decide) ?_
  exact o_retZ X1 d5_21 (by decide) (by decide) (hQ _ _ ⟨rfl, rfl⟩)
set_option maxRecDepth 65536 in
set_option maxHeartbeats 40000000 in
theorem c_at_6_1 (l : Launch) (Z : State) (a0 : Array Value) (hw : ∀ d ∈ tables_1, d.before a0 Z = true) (ws : List Jvm.Cond) (n0 : Nat) (h0 : Heap) (hn0 : n0 ≤ h0.size) (xa : Addr) (xx xy : Int32) (L' : List (Addr × (Cell → Prop))) (H0 : OL n0 h0 ((xa, OA Z .boolean [(f_bit xx (0 : Int32)), (f_bit xx (1 : Int32)), (f_bit xx (2 : Int32)), (f_bit xy (3 : Int32)), (f_bit xy (4 : Int32)), (f_bit xy (5 : Int32))]) :: L')) :
    OC l Z (⟨"com/example/eratosthenes/eratosthenes/tune/GeneticSearchHalvesPinLaw", "at", "([ZIIII)Z"⟩ : MethodName) method_4_code 6 (some .boolean) ws ({ frames := 1, cells := 0, slots := 0, locals := 14 } : Room) n0 #[(.ref xa), (.int (1 : Int32)), (.int (6 : Int32)), (.int xx), (.int xy)] h0 (fun r h => r = some (.int 1) ∧ h0 = h) := by
  refine OC.of pn_0 hn0 #[.val (.ref xa), .val (.int (1 : Int32)), .val (.int (6 : Int32)), .val (.int xx), .val (.int xy), .unset] (fun m => by first | (simp [entryFrame, mkF, argsToLocals, Value.category, maxLocals]; done) | rfl) ?_
  intro p e s m below meth cd0 T0 X0 Q' hQ
  refine o_iloadN X0 d3_0 rfl 1 rfl ?_
  refine o_iloadN X0 d3_1 rfl 2 rfl ?_
  refine o_icmpLt X0 d3_2 7 5 (by decide) (by decide) rfl ?_ (fun q => by exfalso; exact absurd q (by decide))
  intro hc2
  refine o_iloadN X0 d3_7 rfl 8 rfl ?_
  refine o_iloadN X0 d3_8 rfl 9 rfl ?_
  refine o_iconst (v := (2 : Int32)) X0 d3_9 rfl 10 rfl ?_
  refine o_idiv X0 d3_10 (by decide) 11 rfl ?_
  refine o_icmpGe X0 d3_11 22 14 (by decide) (by decide) rfl (fun q => by exfalso; exact absurd q (by decide)) ?_
  intro hc11
  refine o_iloadN X0 d3_14 rfl 15 rfl ?_
  refine o_iloadN X0 d3_15 rfl 16 rfl ?_
  refine o_callS X0 d3_16 (rest := []) (c_bit l Z a0 hw [] n0 _ X0.size xx (1 : Int32) ) (hw _ (List.mem_of_getElem? (i := 31) rfl)) (hw _ (List.mem_of_getElem? (i := 32) rfl)) (hw _ (List.mem_of_getElem? (i := 2) rfl)) (hw _ (List.mem_of_getElem? (i := 33) rfl)) (by decide) 0 (by decide) (by decide) rfl [(.int xx), (.int (1 : Int32))] rfl pd_6 rfl rfl (Nat.le_of_eq rfl) 0 0 rfl rfl (by decide) (by decide) 19 rfl ?_
  rintro _ T1 _ X1 ⟨rfl, rfl⟩
  show OE p e ({ frames := 1, cells := 0, slots := 0, locals := 14 } : Room) below s n0 Q' T1 (mkF m 19 #[.val (.ref xa), .val (.int (1 : Int32)), .val (.int (6 : Int32)), .val (.int xx), .val (.int xy), .unset] [(.int (f_bit xx (1 : Int32)))])
  refine o_goto X1 d3_19 28 (by decide) (by decide) ?_
  refine o_istore X1 d3_28 #[.val (.ref xa), .val (.int (1 : Int32)), .val (.int (6 : Int32)), .val (.int xx), .val (.int xy), .val (.int (f_bit xx (1 : Int32)))] rfl 30 rfl ?_
  refine o_aloadN X1 d3_30 rfl rfl 31 rfl ?_
  refine o_iloadN X1 d3_31 rfl 32 rfl ?_
  refine o_baloadZ X1 H0 0 rfl d3_32 1 rfl (f_bit xx (1 : Int32)) rfl 33 rfl ?_
  refine o_iload X1 d3_33 rfl 35 rfl ?_
  refine o_icmpNe X1 d3_35 42 38 (by decide) (by decide) rfl (fun q => by exfalso; exact q rfl) ?_
  intro hc35
  refine o_iconst (v := (1 : Int32)) X1 d3_38 rfl 39 rfl ?_
  refine o_goto X1 d3_39 43 (by decide) (by decide) ?_
  exact o_retZ X1 d3_43 (by decide) (by decide) (hQ _ _ ⟨rfl, rfl⟩)
set_option maxRecDepth 65536 in
set_option maxHeartbeats 40000000 in
theorem c_kept_6_2 (l : Launch) (Z : State) (a0 : Array Value) (hw : ∀ d ∈ tables_1, d.before a0 Z = true) (ws : List Jvm.Cond) (n0 : Nat) (h0 : Heap) (hn0 : n0 ≤ h0.size) (xa : Addr) (xv : Int32) (L' : List (Addr × (Cell → Prop))) (H0 : OL n0 h0 ((xa, OA Z .boolean [(f_bit xv (0 : Int32)), (f_bit xv (1 : Int32)), (f_bit xv (2 : Int32)), (f_bit xv (3 : Int32)), (f_bit xv (4 : Int32)), (f_bit xv (5 : Int32))]) :: L')) :
    OC l Z (⟨"com/example/eratosthenes/eratosthenes/tune/GeneticSearchHalvesPinLaw", "kept", "([ZIII)Z"⟩ : MethodName) method_5_code 4 (some .boolean) ws ({ frames := 1, cells := 0, slots := 0, locals := 14 } : Room) n0 #[(.ref xa), (.int (2 : Int32)), (.int (6 : Int32)), (.int xv)] h0 (fun r h => r = some (.int 1) ∧ h0 = h) := by
  refine OC.of pn_0 hn0 #[.val (.ref xa), .val (.int (2 : Int32)), .val (.int (6 : Int32)), .val (.int xv)] (fun m => by first | (simp [entryFrame, mkF, argsToLocals, Value.category, maxLocals]; done) | rfl) ?_
  intro p e s m below meth cd0 T0 X0 Q' hQ
  refine o_iloadN X0 d5_0 rfl 1 rfl ?_
  refine o_iloadN X0 d5_1 rfl 2 rfl ?_
  refine o_icmpGe X0 d5_2 16 5 (by decide) (by decide) rfl (fun q => by exfalso; exact absurd q (by decide)) ?_
  intro hc2
  refine o_aloadN X0 d5_5 rfl rfl 6 rfl ?_
  refine o_iloadN X0 d5_6 rfl 7 rfl ?_
  refine o_baloadZ X0 H0 0 rfl d5_7 2 rfl (f_bit xv (2 : Int32)) rfl 8 rfl ?_
  refine o_iloadN X0 d5_8 rfl 9 rfl ?_
  refine o_iloadN X0 d5_9 rfl 10 rfl ?_
  refine o_callS X0 d5_10 (rest := [(.int (f_bit xv (2 : Int32)))]) (c_bit l Z a0 hw [] n0 _ X0.size xv (2 : Int32) ) (hw _ (List.mem_of_getElem? (i := 31) rfl)) (hw _ (List.mem_of_getElem? (i := 32) rfl)) (hw _ (List.mem_of_getElem? (i := 2) rfl)) (hw _ (List.mem_of_getElem? (i := 33) rfl)) (by decide) 1 (by decide) (by decide) rfl [(.int xv), (.int (2 : Int32))] rfl pd_6 rfl rfl (Nat.le_of_eq rfl) 0 0 rfl rfl (by decide) (by decide) 13 rfl ?_
  rintro _ T1 _ X1 ⟨rfl, rfl⟩
  show OE p e ({ frames := 1, cells := 0, slots := 0, locals := 14 } : Room) below s n0 Q' T1 (mkF m 13 #[.val (.ref xa), .val (.int (2 : Int32)), .val (.int (6 : Int32)), .val (.int xv)] [(.int (f_bit xv (2 : Int32))), (.int (f_bit xv (2 : Int32)))])
  refine o_icmpNe X1 d5_13 20 16 (by decide) (by decide) rfl (fun q => by exfalso; exact q rfl) ?_
  intro hc13
  refine o_iconst (v := (1 : Int32)) X1 d5_16 rfl 17 rfl ?_
  refine o_goto X1 d5_17 21 (by decide) (by decide) ?_
  exact o_retZ X1 d5_21 (by decide) (by decide) (hQ _ _ ⟨rfl, rfl⟩)
set_option maxRecDepth 65536 in
set_option maxHeartbeats 40000000 in
theorem c_at_6_2 (l : Launch) (Z : State) (a0 : Array Value) (hw : ∀ d ∈ tables_1, d.before a0 Z = true) (ws : List Jvm.Cond) (n0 : Nat) (h0 : Heap) (hn0 : n0 ≤ h0.size) (xa : Addr) (xx xy : Int32) (L' : List (Addr × (Cell → Prop))) (H0 : OL n0 h0 ((xa, OA Z .boolean [(f_bit xx (0 : Int32)), (f_bit xx (1 : Int32)), (f_bit xx (2 : Int32)), (f_bit xy (3 : Int32)), (f_bit xy (4 : Int32)), (f_bit xy (5 : Int32))]) :: L')) :
    OC l Z (⟨"com/example/eratosthenes/eratosthenes/tune/GeneticSearchHalvesPinLaw", "at", "([ZIIII)Z"⟩ : MethodName) method_4_code 6 (some .boolean) ws ({ frames := 1, cells := 0, slots := 0, locals := 14 } : Room) n0 #[(.ref xa), (.int (2 : Int32)), (.int (6 : Int32)), (.int xx), (.int xy)] h0 (fun r h => r = some (.int 1) ∧ h0 = h) := by
  refine OC.of pn_0 hn0 #[.val (.ref xa), .val (.int (2 : Int32)), .val (.int (6 : Int32)), .val (.int xx), .val (.int xy), .unset] (fun m => by first | (simp [entryFrame, mkF, argsToLocals, Value.category, maxLocals]; done) | rfl) ?_
  intro p e s m below meth cd0 T0 X0 Q' hQ
  refine o_iloadN X0 d3_0 rfl 1 rfl ?_
  refine o_iloadN X0 d3_1 rfl 2 rfl ?_
  refine o_icmpLt X0 d3_2 7 5 (by decide) (by decide) rfl ?_ (fun q => by exfalso; exact absurd q (by decide))
  intro hc2
  refine o_iloadN X0 d3_7 rfl 8 rfl ?_
  refine o_iloadN X0 d3_8 rfl 9 rfl ?_
  refine o_iconst (v := (2 : Int32)) X0 d3_9 rfl 10 rfl ?_
  refine o_idiv X0 d3_10 (by decide) 11 rfl ?_
  refine o_icmpGe X0 d3_11 22 14 (by decide) (by decide) rfl (fun q => by exfalso; exact absurd q (by decide)) ?_
  intro hc11
  refine o_iloadN X0 d3_14 rfl 15 rfl ?_
  refine o_iloadN X0 d3_15 rfl 16 rfl ?_
  refine o_callS X0 d3_16 (rest := []) (c_bit l Z a0 hw [] n0 _ X0.size xx (2 : Int32) ) (hw _ (List.mem_of_getElem? (i := 31) rfl)) (hw _ (List.mem_of_getElem? (i := 32) rfl)) (hw _ (List.mem_of_getElem? (i := 2) rfl)) (hw _ (List.mem_of_getElem? (i := 33) rfl)) (by decide) 0 (by decide) (by decide) rfl [(.int xx), (.int (2 : Int32))] rfl pd_6 rfl rfl (Nat.le_of_eq rfl) 0 0 rfl rfl (by decide) (by decide) 19 rfl ?_
  rintro _ T1 _ X1 ⟨rfl, rfl⟩
  show OE p e ({ frames := 1, cells := 0, slots := 0, locals := 14 } : Room) below s n0 Q' T1 (mkF m 19 #[.val (.ref xa), .val (.int (2 : Int32)), .val (.int (6 : Int32)), .val (.int xx), .val (.int xy), .unset] [(.int (f_bit xx (2 : Int32)))])
  refine o_goto X1 d3_19 28 (by decide) (by decide) ?_
  refine o_istore X1 d3_28 #[.val (.ref xa), .val (.int (2 : Int32)), .val (.int (6 : Int32)), .val (.int xx), .val (.int xy), .val (.int (f_bit xx (2 : Int32)))] rfl 30 rfl ?_
  refine o_aloadN X1 d3_30 rfl rfl 31 rfl ?_
  refine o_iloadN X1 d3_31 rfl 32 rfl ?_
  refine o_baloadZ X1 H0 0 rfl d3_32 2 rfl (f_bit xx (2 : Int32)) rfl 33 rfl ?_
  refine o_iload X1 d3_33 rfl 35 rfl ?_
  refine o_icmpNe X1 d3_35 42 38 (by decide) (by decide) rfl (fun q => by exfalso; exact q rfl) ?_
  intro hc35
  refine o_iconst (v := (1 : Int32)) X1 d3_38 rfl 39 rfl ?_
  refine o_goto X1 d3_39 43 (by decide) (by decide) ?_
  exact o_retZ X1 d3_43 (by decide) (by decide) (hQ _ _ ⟨rfl, rfl⟩)
set_option maxRecDepth 65536 in
set_option maxHeartbeats 40000000 in
theorem c_kept_6_3 (l : Launch) (Z : State) (a0 : Array Value) (hw : ∀ d ∈ tables_1, d.before a0 Z = true) (ws : List Jvm.Cond) (n0 : Nat) (h0 : Heap) (hn0 : n0 ≤ h0.size) (xa : Addr) (xv : Int32) (L' : List (Addr × (Cell → Prop))) (H0 : OL n0 h0 ((xa, OA Z .boolean [(f_bit xv (0 : Int32)), (f_bit xv (1 : Int32)), (f_bit xv (2 : Int32)), (f_bit xv (3 : Int32)), (f_bit xv (4 : Int32)), (f_bit xv (5 : Int32))]) :: L')) :
    OC l Z (⟨"com/example/eratosthenes/eratosthenes/tune/GeneticSearchHalvesPinLaw", "kept", "([ZIII)Z"⟩ : MethodName) method_5_code 4 (some .boolean) ws ({ frames := 1, cells := 0, slots := 0, locals := 14 } : Room) n0 #[(.ref xa), (.int (3 : Int32)), (.int (6 : Int32)), (.int xv)] h0 (fun r h => r = some (.int 1) ∧ h0 = h) := by
  refine OC.of pn_0 hn0 #[.val (.ref xa), .val (.int (3 : Int32)), .val (.int (6 : Int32)), .val (.int xv)] (fun m => by first | (simp [entryFrame, mkF, argsToLocals, Value.category, maxLocals]; done) | rfl) ?_
  intro p e s m below meth cd0 T0 X0 Q' hQ
  refine o_iloadN X0 d5_0 rfl 1 rfl ?_
  refine o_iloadN X0 d5_1 rfl 2 rfl ?_
  refine o_icmpGe X0 d5_2 16 5 (by decide) (by decide) rfl (fun q => by exfalso; exact absurd q (by decide)) ?_
  intro hc2
  refine o_aloadN X0 d5_5 rfl rfl 6 rfl ?_
  refine o_iloadN X0 d5_6 rfl 7 rfl ?_
  refine o_baloadZ X0 H0 0 rfl d5_7 3 rfl (f_bit xv (3 : Int32)) rfl 8 rfl ?_
  refine o_iloadN X0 d5_8 rfl 9 rfl ?_
  refine o_iloadN X0 d5_9 rfl 10 rfl ?_
  refine o_callS X0 d5_10 (rest := [(.int (f_bit xv (3 : Int32)))]) (c_bit l Z a0 hw [] n0 _ X0.size xv (3 : Int32) ) (hw _ (List.mem_of_getElem? (i := 31) rfl)) (hw _ (List.mem_of_getElem? (i := 32) rfl)) (hw _ (List.mem_of_getElem? (i := 2) rfl)) (hw _ (List.mem_of_getElem? (i := 33) rfl)) (by decide) 1 (by decide) (by decide) rfl [(.int xv), (.int (3 : Int32))] rfl pd_6 rfl rfl (Nat.le_of_eq rfl) 0 0 rfl rfl (by decide) (by decide) 13 rfl ?_
  rintro _ T1 _ X1 ⟨rfl, rfl⟩
  show OE p e ({ frames := 1, cells := 0, slots := 0, locals := 14 } : Room) below s n0 Q' T1 (mkF m 13 #[.val (.ref xa), .val (.int (3 : Int32)), .val (.int (6 : Int32)), .val (.int xv)] [(.int (f_bit xv (3 : Int32))), (.int (f_bit xv (3 : Int32)))])
  refine o_icmpNe X1 d5_13 20 16 (by decide) (by decide) rfl (fun q => by exfalso; exact q rfl) ?_
  intro hc13
  refine o_iconst (v := (1 : Int32)) X1 d5_16 rfl 17 rfl ?_
  refine o_goto X1 d5_17 21 (by decide) (by decide) ?_
  exact o_retZ X1 d5_21 (by decide) (by decide) (hQ _ _ ⟨rfl, rfl⟩)
set_option maxRecDepth 65536 in
set_option maxHeartbeats 40000000 in
theorem c_at_6_3 (l : Launch) (Z : State) (a0 : Array Value) (hw : ∀ d ∈ tables_1, d.before a0 Z = true) (ws : List Jvm.Cond) (n0 : Nat) (h0 : Heap) (hn0 : n0 ≤ h0.size) (xa : Addr) (xx xy : Int32) (L' : List (Addr × (Cell → Prop))) (H0 : OL n0 h0 ((xa, OA Z .boolean [(f_bit xx (0 : Int32)), (f_bit xx (1 : Int32)), (f_bit xx (2 : Int32)), (f_bit xy (3 : Int32)), (f_bit xy (4 : Int32)), (f_bit xy (5 : Int32))]) :: L')) :
    OC l Z (⟨"com/example/eratosthenes/eratosthenes/tune/GeneticSearchHalvesPinLaw", "at", "([ZIIII)Z"⟩ : MethodName) method_4_code 6 (some .boolean) ws ({ frames := 1, cells := 0, slots := 0, locals := 14 } : Room) n0 #[(.ref xa), (.int (3 : Int32)), (.int (6 : Int32)), (.int xx), (.int xy)] h0 (fun r h => r = some (.int 1) ∧ h0 = h) := by
  refine OC.of pn_0 hn0 #[.val (.ref xa), .val (.int (3 : Int32)), .val (.int (6 : Int32)), .val (.int xx), .val (.int xy), .unset] (fun m => by first | (simp [entryFrame, mkF, argsToLocals, Value.category, maxLocals]; done) | rfl) ?_
  intro p e s m below meth cd0 T0 X0 Q' hQ
  refine o_iloadN X0 d3_0 rfl 1 rfl ?_
  refine o_iloadN X0 d3_1 rfl 2 rfl ?_
  refine o_icmpLt X0 d3_2 7 5 (by decide) (by decide) rfl ?_ (fun q => by exfalso; exact absurd q (by decide))
  intro hc2
  refine o_iloadN X0 d3_7 rfl 8 rfl ?_
  refine o_iloadN X0 d3_8 rfl 9 rfl ?_
  refine o_iconst (v := (2 : Int32)) X0 d3_9 rfl 10 rfl ?_
  refine o_idiv X0 d3_10 (by decide) 11 rfl ?_
  refine o_icmpGe X0 d3_11 22 14 (by decide) (by decide) rfl ?_ (fun q => by exfalso; exact absurd q (by decide))
  intro hc11
  refine o_iload X0 d3_22 rfl 24 rfl ?_
  refine o_iloadN X0 d3_24 rfl 25 rfl ?_
  refine o_callS X0 d3_25 (rest := []) (c_bit l Z a0 hw [] n0 _ X0.size xy (3 : Int32) ) (hw _ (List.mem_of_getElem? (i := 31) rfl)) (hw _ (List.mem_of_getElem? (i := 32) rfl)) (hw _ (List.mem_of_getElem? (i := 2) rfl)) (hw _ (List.mem_of_getElem? (i := 33) rfl)) (by decide) 0 (by decide) (by decide) rfl [(.int xy), (.int (3 : Int32))] rfl pd_6 rfl rfl (Nat.le_of_eq rfl) 0 0 rfl rfl (by decide) (by decide) 28 rfl ?_
  rintro _ T1 _ X1 ⟨rfl, rfl⟩
  show OE p e ({ frames := 1, cells := 0, slots := 0, locals := 14 } : Room) below s n0 Q' T1 (mkF m 28 #[.val (.ref xa), .val (.int (3 : Int32)), .val (.int (6 : Int32)), .val (.int xx), .val (.int xy), .unset] [(.int (f_bit xy (3 : Int32)))])
  refine o_istore X1 d3_28 #[.val (.ref xa), .val (.int (3 : Int32)), .val (.int (6 : Int32)), .val (.int xx), .val (.int xy), .val (.int (f_bit xy (3 : Int32)))] rfl 30 rfl ?_
  refine o_aloadN X1 d3_30 rfl rfl 31 rfl ?_
  refine o_iloadN X1 d3_31 rfl 32 rfl ?_
  refine o_baloadZ X1 H0 0 rfl d3_32 3 rfl (f_bit xy (3 : Int32)) rfl 33 rfl ?_
  refine o_iload X1 d3_33 rfl 35 rfl ?_
  refine o_icmpNe X1 d3_35 42 38 (by decide) (by decide) rfl (fun q => by exfalso; exact q rfl) ?_
  intro hc35
  refine o_iconst (v := (1 : Int32)) X1 d3_38 rfl 39 rfl ?_
  refine o_goto X1 d3_39 43 (by decide) (by decide) ?_
  exact o_retZ X1 d3_43 (by decide) (by decide) (hQ _ _ ⟨rfl, rfl⟩)
set_option maxRecDepth 65536 in
set_option maxHeartbeats 40000000 in
theorem c_kept_6_4 (l : Launch) (Z : State) (a0 : Array Value) (hw : ∀ d ∈ tables_1, d.before a0 Z = true) (ws : List Jvm.Cond) (n0 : Nat) (h0 : Heap) (hn0 : n0 ≤ h0.size) (xa : Addr) (xv : Int32) (L' : List (Addr × (Cell → Prop))) (H0 : OL n0 h0 ((xa, OA Z .boolean [(f_bit xv (0 : Int32)), (f_bit xv (1 : Int32)), (f_bit xv (2 : Int32)), (f_bit xv (3 : Int32)), (f_bit xv (4 : Int32)), (f_bit xv (5 : Int32))]) :: L')) :
    OC l Z (⟨"com/example/eratosthenes/eratosthenes/tune/GeneticSearchHalvesPinLaw", "kept", "([ZIII)Z"⟩ : MethodName) method_5_code 4 (some .boolean) ws ({ frames := 1, cells := 0, slots := 0, locals := 14 } : Room) n0 #[(.ref xa), (.int (4 : Int32)), (.int (6 : Int32)), (.int xv)] h0 (fun r h => r = some (.int 1) ∧ h0 = h) := by
  refine OC.of pn_0 hn0 #[.val (.ref xa), .val (.int (4 : Int32)), .val (.int (6 : Int32)), .val (.int xv)] (fun m => by first | (simp [entryFrame, mkF, argsToLocals, Value.category, maxLocals]; done) | rfl) ?_
  intro p e s m below meth cd0 T0 X0 Q' hQ
  refine o_iloadN X0 d5_0 rfl 1 rfl ?_
  refine o_iloadN X0 d5_1 rfl 2 rfl ?_
  refine o_icmpGe X0 d5_2 16 5 (by decide) (by decide) rfl (fun q => by exfalso; exact absurd q (by decide)) ?_
  intro hc2
  refine o_aloadN X0 d5_5 rfl rfl 6 rfl ?_
  refine o_iloadN X0 d5_6 rfl 7 rfl ?_
  refine o_baloadZ X0 H0 0 rfl d5_7 4 rfl (f_bit xv (4 : Int32)) rfl 8 rfl ?_
  refine o_iloadN X0 d5_8 rfl 9 rfl ?_
  refine o_iloadN X0 d5_9 rfl 10 rfl ?_
  refine o_callS X0 d5_10 (rest := [(.int (f_bit xv (4 : Int32)))]) (c_bit l Z a0 hw [] n0 _ X0.size xv (4 : Int32) ) (hw _ (List.mem_of_getElem? (i := 31) rfl)) (hw _ (List.mem_of_getElem? (i := 32) rfl)) (hw _ (List.mem_of_getElem? (i := 2) rfl)) (hw _ (List.mem_of_getElem? (i := 33) rfl)) (by decide) 1 (by decide) (by decide) rfl [(.int xv), (.int (4 : Int32))] rfl pd_6 rfl rfl (Nat.le_of_eq rfl) 0 0 rfl rfl (by decide) (by decide) 13 rfl ?_
  rintro _ T1 _ X1 ⟨rfl, rfl⟩
  show OE p e ({ frames := 1, cells := 0, slots := 0, locals := 14 } : Room) below s n0 Q' T1 (mkF m 13 #[.val (.ref xa), .val (.int (4 : Int32)), .val (.int (6 : Int32)), .val (.int xv)] [(.int (f_bit xv (4 : Int32))), (.int (f_bit xv (4 : Int32)))])
  refine o_icmpNe X1 d5_13 20 16 (by decide) (by decide) rfl (fun q => by exfalso; exact q rfl) ?_
  intro hc13
  refine o_iconst (v := (1 : Int32)) X1 d5_16 rfl 17 rfl ?_
  refine o_goto X1 d5_17 21 (by decide) (by decide) ?_
  exact o_retZ X1 d5_21 (by decide) (by decide) (hQ _ _ ⟨rfl, rfl⟩)
set_option maxRecDepth 65536 in
set_option maxHeartbeats 40000000 in
theorem c_at_6_4 (l : Launch) (Z : State) (a0 : Array Value) (hw : ∀ d ∈ tables_1, d.before a0 Z = true) (ws : List Jvm.Cond) (n0 : Nat) (h0 : Heap) (hn0 : n0 ≤ h0.size) (xa : Addr) (xx xy : Int32) (L' : List (Addr × (Cell → Prop))) (H0 : OL n0 h0 ((xa, OA Z .boolean [(f_bit xx (0 : Int32)), (f_bit xx (1 : Int32)), (f_bit xx (2 : Int32)), (f_bit xy (3 : Int32)), (f_bit xy (4 : Int32)), (f_bit xy (5 : Int32))]) :: L')) :
    OC l Z (⟨"com/example/eratosthenes/eratosthenes/tune/GeneticSearchHalvesPinLaw", "at", "([ZIIII)Z"⟩ : MethodName) method_4_code 6 (some .boolean) ws ({ frames := 1, cells := 0, slots := 0, locals := 14 } : Room) n0 #[(.ref xa), (.int (4 : Int32)), (.int (6 : Int32)), (.int xx), (.int xy)] h0 (fun r h => r = some (.int 1) ∧ h0 = h) := by
  refine OC.of pn_0 hn0 #[.val (.ref xa), .val (.int (4 : Int32)), .val (.int (6 : Int32)), .val (.int xx), .val (.int xy), .unset] (fun m => by first | (simp [entryFrame, mkF, argsToLocals, Value.category, maxLocals]; done) | rfl) ?_
  intro p e s m below meth cd0 T0 X0 Q' hQ
  refine o_iloadN X0 d3_0 rfl 1 rfl ?_
  refine o_iloadN X0 d3_1 rfl 2 rfl ?_
  refine o_icmpLt X0 d3_2 7 5 (by decide) (by decide) rfl ?_ (fun q => by exfalso; exact absurd q (by decide))
  intro hc2
  refine o_iloadN X0 d3_7 rfl 8 rfl ?_
  refine o_iloadN X0 d3_8 rfl 9 rfl ?_
  refine o_iconst (v := (2 : Int32)) X0 d3_9 rfl 10 rfl ?_
  refine o_idiv X0 d3_10 (by decide) 11 rfl ?_
  refine o_icmpGe X0 d3_11 22 14 (by decide) (by decide) rfl ?_ (fun q => by exfalso; exact absurd q (by decide))
  intro hc11
  refine o_iload X0 d3_22 rfl 24 rfl ?_
  refine o_iloadN X0 d3_24 rfl 25 rfl ?_
  refine o_callS X0 d3_25 (rest := []) (c_bit l Z a0 hw [] n0 _ X0.size xy (4 : Int32) ) (hw _ (List.mem_of_getElem? (i := 31) rfl)) (hw _ (List.mem_of_getElem? (i := 32) rfl)) (hw _ (List.mem_of_getElem? (i := 2) rfl)) (hw _ (List.mem_of_getElem? (i := 33) rfl)) (by decide) 0 (by decide) (by decide) rfl [(.int xy), (.int (4 : Int32))] rfl pd_6 rfl rfl (Nat.le_of_eq rfl) 0 0 rfl rfl (by decide) (by decide) 28 rfl ?_
  rintro _ T1 _ X1 ⟨rfl, rfl⟩
  show OE p e ({ frames := 1, cells := 0, slots := 0, locals := 14 } : Room) below s n0 Q' T1 (mkF m 28 #[.val (.ref xa), .val (.int (4 : Int32)), .val (.int (6 : Int32)), .val (.int xx), .val (.int xy), .unset] [(.int (f_bit xy (4 : Int32)))])
  refine o_istore X1 d3_28 #[.val (.ref xa), .val (.int (4 : Int32)), .val (.int (6 : Int32)), .val (.int xx), .val (.int xy), .val (.int (f_bit xy (4 : Int32)))] rfl 30 rfl ?_
  refine o_aloadN X1 d3_30 rfl rfl 31 rfl ?_
  refine o_iloadN X1 d3_31 rfl 32 rfl ?_
  refine o_baloadZ X1 H0 0 rfl d3_32 4 rfl (f_bit xy (4 : Int32)) rfl 33 rfl ?_
  refine o_iload X1 d3_33 rfl 35 rfl ?_
  refine o_icmpNe X1 d3_35 42 38 (by decide) (by decide) rfl (fun q => by exfalso; exact q rfl) ?_
  intro hc35
  refine o_iconst (v := (1 : Int32)) X1 d3_38 rfl 39 rfl ?_
  refine o_goto X1 d3_39 43 (by decide) (by decide) ?_
  exact o_retZ X1 d3_43 (by decide) (by decide) (hQ _ _ ⟨rfl, rfl⟩)
set_option maxRecDepth 65536 in
set_option maxHeartbeats 40000000 in
theorem c_kept_6_5 (l : Launch) (Z : State) (a0 : Array Value) (hw : ∀ d ∈ tables_1, d.before a0 Z = true) (ws : List Jvm.Cond) (n0 : Nat) (h0 : Heap) (hn0 : n0 ≤ h0.size) (xa : Addr) (xv : Int32) (L' : List (Addr × (Cell → Prop))) (H0 : OL n0 h0 ((xa, OA Z .boolean [(f_bit xv (0 : Int32)), (f_bit xv (1 : Int32)), (f_bit xv (2 : Int32)), (f_bit xv (3 : Int32)), (f_bit xv (4 : Int32)), (f_bit xv (5 : Int32))]) :: L')) :
    OC l Z (⟨"com/example/eratosthenes/eratosthenes/tune/GeneticSearchHalvesPinLaw", "kept", "([ZIII)Z"⟩ : MethodName) method_5_code 4 (some .boolean) ws ({ frames := 1, cells := 0, slots := 0, locals := 14 } : Room) n0 #[(.ref xa), (.int (5 : Int32)), (.int (6 : Int32)), (.int xv)] h0 (fun r h => r = some (.int 1) ∧ h0 = h) := by
  refine OC.of pn_0 hn0 #[.val (.ref xa), .val (.int (5 : Int32)), .val (.int (6 : Int32)), .val (.int xv)] (fun m => by first | (simp [entryFrame, mkF, argsToLocals, Value.category, maxLocals]; done) | rfl) ?_
  intro p e s m below meth cd0 T0 X0 Q' hQ
  refine o_iloadN X0 d5_0 rfl 1 rfl ?_
  refine o_iloadN X0 d5_1 rfl 2 rfl ?_
  refine o_icmpGe X0 d5_2 16 5 (by decide) (by decide) rfl (fun q => by exfalso; exact absurd q (by decide)) ?_
  intro hc2
  refine o_aloadN X0 d5_5 rfl rfl 6 rfl ?_
  refine o_iloadN X0 d5_6 rfl 7 rfl ?_
  refine o_baloadZ X0 H0 0 rfl d5_7 5 rfl (f_bit xv (5 : Int32)) rfl 8 rfl ?_
  refine o_iloadN X0 d5_8 rfl 9 rfl ?_
  refine o_iloadN X0 d5_9 rfl 10 rfl ?_
  refine o_callS X0 d5_10 (rest := [(.int (f_bit xv (5 : Int32)))]) (c_bit l Z a0 hw [] n0 _ X0.size xv (5 : Int32) ) (hw _ (List.mem_of_getElem? (i := 31) rfl)) (hw _ (List.mem_of_getElem? (i := 32) rfl)) (hw _ (List.mem_of_getElem? (i := 2) rfl)) (hw _ (List.mem_of_getElem? (i := 33) rfl)) (by decide) 1 (by decide) (by decide) rfl [(.int xv), (.int (5 : Int32))] rfl pd_6 rfl rfl (Nat.le_of_eq rfl) 0 0 rfl rfl (by decide) (by decide) 13 rfl ?_
  rintro _ T1 _ X1 ⟨rfl, rfl⟩
  show OE p e ({ frames := 1, cells := 0, slots := 0, locals := 14 } : Room) below s n0 Q' T1 (mkF m 13 #[.val (.ref xa), .val (.int (5 : Int32)), .val (.int (6 : Int32)), .val (.int xv)] [(.int (f_bit xv (5 : Int32))), (.int (f_bit xv (5 : Int32)))])
  refine o_icmpNe X1 d5_13 20 16 (by decide) (by decide) rfl (fun q => by exfalso; exact q rfl) ?_
  intro hc13
  refine o_iconst (v := (1 : Int32)) X1 d5_16 rfl 17 rfl ?_
  refine o_goto X1 d5_17 21 (by decide) (by decide) ?_
  exact o_retZ X1 d5_21 (by decide) (by decide) (hQ _ _ ⟨rfl, rfl⟩)
set_option maxRecDepth 65536 in
set_option maxHeartbeats 40000000 in
theorem c_at_6_5 (l : Launch) (Z : State) (a0 : Array Value) (hw : ∀ d ∈ tables_1, d.before a0 Z = true) (ws : List Jvm.Cond) (n0 : Nat) (h0 : Heap) (hn0 : n0 ≤ h0.size) (xa : Addr) (xx xy : Int32) (L' : List (Addr × (Cell → Prop))) (H0 : OL n0 h0 ((xa, OA Z .boolean [(f_bit xx (0 : Int32)), (f_bit xx (1 : Int32)), (f_bit xx (2 : Int32)), (f_bit xy (3 : Int32)), (f_bit xy (4 : Int32)), (f_bit xy (5 : Int32))]) :: L')) :
    OC l Z (⟨"com/example/eratosthenes/eratosthenes/tune/GeneticSearchHalvesPinLaw", "at", "([ZIIII)Z"⟩ : MethodName) method_4_code 6 (some .boolean) ws ({ frames := 1, cells := 0, slots := 0, locals := 14 } : Room) n0 #[(.ref xa), (.int (5 : Int32)), (.int (6 : Int32)), (.int xx), (.int xy)] h0 (fun r h => r = some (.int 1) ∧ h0 = h) := by
  refine OC.of pn_0 hn0 #[.val (.ref xa), .val (.int (5 : Int32)), .val (.int (6 : Int32)), .val (.int xx), .val (.int xy), .unset] (fun m => by first | (simp [entryFrame, mkF, argsToLocals, Value.category, maxLocals]; done) | rfl) ?_
  intro p e s m below meth cd0 T0 X0 Q' hQ
  refine o_iloadN X0 d3_0 rfl 1 rfl ?_
  refine o_iloadN X0 d3_1 rfl 2 rfl ?_
  refine o_icmpLt X0 d3_2 7 5 (by decide) (by decide) rfl ?_ (fun q => by exfalso; exact absurd q (by decide))
  intro hc2
  refine o_iloadN X0 d3_7 rfl 8 rfl ?_
  refine o_iloadN X0 d3_8 rfl 9 rfl ?_
  refine o_iconst (v := (2 : Int32)) X0 d3_9 rfl 10 rfl ?_
  refine o_idiv X0 d3_10 (by decide) 11 rfl ?_
  refine o_icmpGe X0 d3_11 22 14 (by decide) (by decide) rfl ?_ (fun q => by exfalso; exact absurd q (by decide))
  intro hc11
  refine o_iload X0 d3_22 rfl 24 rfl ?_
  refine o_iloadN X0 d3_24 rfl 25 rfl ?_
  refine o_callS X0 d3_25 (rest := []) (c_bit l Z a0 hw [] n0 _ X0.size xy (5 : Int32) ) (hw _ (List.mem_of_getElem? (i := 31) rfl)) (hw _ (List.mem_of_getElem? (i := 32) rfl)) (hw _ (List.mem_of_getElem? (i := 2) rfl)) (hw _ (List.mem_of_getElem? (i := 33) rfl)) (by decide) 0 (by decide) (by decide) rfl [(.int xy), (.int (5 : Int32))] rfl pd_6 rfl rfl (Nat.le_of_eq rfl) 0 0 rfl rfl (by decide) (by decide) 28 rfl ?_
  rintro _ T1 _ X1 ⟨rfl, rfl⟩
  show OE p e ({ frames := 1, cells := 0, slots := 0, locals := 14 } : Room) below s n0 Q' T1 (mkF m 28 #[.val (.ref xa), .val (.int (5 : Int32)), .val (.int (6 : Int32)), .val (.int xx), .val (.int xy), .unset] [(.int (f_bit xy (5 : Int32)))])
  refine o_istore X1 d3_28 #[.val (.ref xa), .val (.int (5 : Int32)), .val (.int (6 : Int32)), .val (.int xx), .val (.int xy), .val (.int (f_bit xy (5 : Int32)))] rfl 30 rfl ?_
  refine o_aloadN X1 d3_30 rfl rfl 31 rfl ?_
  refine o_iloadN X1 d3_31 rfl 32 rfl ?_
  refine o_baloadZ X1 H0 0 rfl d3_32 5 rfl (f_bit xy (5 : Int32)) rfl 33 rfl ?_
  refine o_iload X1 d3_33 rfl 35 rfl ?_
  refine o_icmpNe X1 d3_35 42 38 (by decide) (by decide) rfl (fun q => by exfalso; exact q rfl) ?_
  intro hc35
  refine o_iconst (v := (1 : Int32)) X1 d3_38 rfl 39 rfl ?_
  refine o_goto X1 d3_39 43 (by decide) (by decide) ?_
  exact o_retZ X1 d3_43 (by decide) (by decide) (hQ _ _ ⟨rfl, rfl⟩)
set_option maxRecDepth 65536 in
set_option maxHeartbeats 40000000 in
theorem c_kept_6_6 (l : Launch) (Z : State) (a0 : Array Value) (hw : ∀ d ∈ tables_1, d.before a0 Z = true) (ws : List Jvm.Cond) (n0 : Nat) (h0 : Heap) (hn0 : n0 ≤ h0.size) (xa : Addr) (xv : Int32) (L' : List (Addr × (Cell → Prop))) (H0 : OL n0 h0 ((xa, OA Z .boolean [(f_bit xv (0 : Int32)), (f_bit xv (1 : Int32)), (f_bit xv (2 : Int32)), (f_bit xv (3 : Int32)), (f_bit xv (4 : Int32)), (f_bit xv (5 : Int32))]) :: L')) :
    OC l Z (⟨"com/example/eratosthenes/eratosthenes/tune/GeneticSearchHalvesPinLaw", "kept", "([ZIII)Z"⟩ : MethodName) method_5_code 4 (some .boolean) ws ({ frames := 1, cells := 0, slots := 0, locals := 14 } : Room) n0 #[(.ref xa), (.int (6 : Int32)), (.int (6 : Int32)), (.int xv)] h0 (fun r h => r = some (.int 1) ∧ h0 = h) := by
  refine OC.of pn_0 hn0 #[.val (.ref xa), .val (.int (6 : Int32)), .val (.int (6 : Int32)), .val (.int xv)] (fun m => by first | (simp [entryFrame, mkF, argsToLocals, Value.category, maxLocals]; done) | rfl) ?_
  intro p e s m below meth cd0 T0 X0 Q' hQ
  refine o_iloadN X0 d5_0 rfl 1 rfl ?_
  refine o_iloadN X0 d5_1 rfl 2 rfl ?_
  refine o_icmpGe X0 d5_2 16 5 (by decide) (by decide) rfl ?_ (fun q => by exfalso; exact absurd q (by decide))
  intro hc2
  refine o_iconst (v := (1 : Int32)) X0 d5_16 rfl 17 rfl ?_
  refine o_goto X0 d5_17 21 (by decide) (by decide) ?_
  exact o_retZ X0 d5_21 (by decide) (by decide) (hQ _ _ ⟨rfl, rfl⟩)
set_option maxRecDepth 65536 in
set_option maxHeartbeats 40000000 in
theorem c_at_6_6 (l : Launch) (Z : State) (a0 : Array Value) (hw : ∀ d ∈ tables_1, d.before a0 Z = true) (ws : List Jvm.Cond) (n0 : Nat) (h0 : Heap) (hn0 : n0 ≤ h0.size) (xa : Addr) (xx xy : Int32) (L' : List (Addr × (Cell → Prop))) (H0 : OL n0 h0 ((xa, OA Z .boolean [(f_bit xx (0 : Int32)), (f_bit xx (1 : Int32)), (f_bit xx (2 : Int32)), (f_bit xy (3 : Int32)), (f_bit xy (4 : Int32)), (f_bit xy (5 : Int32))]) :: L')) :
    OC l Z (⟨"com/example/eratosthenes/eratosthenes/tune/GeneticSearchHalvesPinLaw", "at", "([ZIIII)Z"⟩ : MethodName) method_4_code 6 (some .boolean) ws ({ frames := 1, cells := 0, slots := 0, locals := 14 } : Room) n0 #[(.ref xa), (.int (6 : Int32)), (.int (6 : Int32)), (.int xx), (.int xy)] h0 (fun r h => r = some (.int 1) ∧ h0 = h) := by
  refine OC.of pn_0 hn0 #[.val (.ref xa), .val (.int (6 : Int32)), .val (.int (6 : Int32)), .val (.int xx), .val (.int xy), .unset] (fun m => by first | (simp [entryFrame, mkF, argsToLocals, Value.category, maxLocals]; done) | rfl) ?_
  intro p e s m below meth cd0 T0 X0 Q' hQ
  refine o_iloadN X0 d3_0 rfl 1 rfl ?_
  refine o_iloadN X0 d3_1 rfl 2 rfl ?_
  refine o_icmpLt X0 d3_2 7 5 (by decide) (by decide) rfl (fun q => by exfalso; exact absurd q (by decide)) ?_
  intro hc2
  refine o_iconst (v := (1 : Int32)) X0 d3_5 rfl 6 rfl ?_
  exact o_retZ X0 d3_6 (by decide) (by decide) (hQ _ _ ⟨rfl, rfl⟩)
set_option maxRecDepth 65536 in
set_option maxHeartbeats 40000000 in
theorem c_kept_7_0 (l : Launch) (Z : State) (a0 : Array Value) (hw : ∀ d ∈ tables_1, d.before a0 Z = true) (ws : List Jvm.Cond) (n0 : Nat) (h0 : Heap) (hn0 : n0 ≤ h0.size) (xa : Addr) (xv : Int32) (L' : List (Addr × (Cell → Prop))) (H0 : OL n0 h0 ((xa, OA Z .boolean [(f_bit xv (0 : Int32)), (f_bit xv (1 : Int32)), (f_bit xv (2 : Int32)), (f_bit xv (3 : Int32)), (f_bit xv (4 : Int32)), (f_bit xv (5 : Int32)), (f_bit xv (6 : Int32))]) :: L')) :
    OC l Z (⟨"com/example/eratosthenes/eratosthenes/tune/GeneticSearchHalvesPinLaw", "kept", "([ZIII)Z"⟩ : MethodName) method_5_code 4 (some .boolean) ws ({ frames := 1, cells := 0, slots := 0, locals := 14 } : Room) n0 #[(.ref xa), (.int (0 : Int32)), (.int (7 : Int32)), (.int xv)] h0 (fun r h => r = some (.int 1) ∧ h0 = h) := by
  refine OC.of pn_0 hn0 #[.val (.ref xa), .val (.int (0 : Int32)), .val (.int (7 : Int32)), .val (.int xv)] (fun m => by first | (simp [entryFrame, mkF, argsToLocals, Value.category, maxLocals]; done) | rfl) ?_
  intro p e s m below meth cd0 T0 X0 Q' hQ
  refine o_iloadN X0 d5_0 rfl 1 rfl ?_
  refine o_iloadN X0 d5_1 rfl 2 rfl ?_
  refine o_icmpGe X0 d5_2 16 5 (by decide) (by decide) rfl (fun q => by exfalso; exact absurd q (by decide)) ?_
  intro hc2
  refine o_aloadN X0 d5_5 rfl rfl 6 rfl ?_
  refine o_iloadN X0 d5_6 rfl 7 rfl ?_
  refine o_baloadZ X0 H0 0 rfl d5_7 0 rfl (f_bit xv (0 : Int32)) rfl 8 rfl ?_
  refine o_iloadN X0 d5_8 rfl 9 rfl ?_
  refine o_iloadN X0 d5_9 rfl 10 rfl ?_
  refine o_callS X0 d5_10 (rest := [(.int (f_bit xv (0 : Int32)))]) (c_bit l Z a0 hw [] n0 _ X0.size xv (0 : Int32) ) (hw _ (List.mem_of_getElem? (i := 31) rfl)) (hw _ (List.mem_of_getElem? (i := 32) rfl)) (hw _ (List.mem_of_getElem? (i := 2) rfl)) (hw _ (List.mem_of_getElem? (i := 33) rfl)) (by decide) 1 (by decide) (by decide) rfl [(.int xv), (.int (0 : Int32))] rfl pd_6 rfl rfl (Nat.le_of_eq rfl) 0 0 rfl rfl (by decide) (by decide) 13 rfl ?_
  rintro _ T1 _ X1 ⟨rfl, rfl⟩
  show OE p e ({ frames := 1, cells := 0, slots := 0, locals := 14 } : Room) below s n0 Q' T1 (mkF m 13 #[.val (.ref xa), .val (.int (0 : Int32)), .val (.int (7 : Int32)), .val (.int xv)] [(.int (f_bit xv (0 : Int32))), (.int (f_bit xv (0 : Int32)))])
  refine o_icmpNe X1 d5_13 20 16 (by decide) (by decide) rfl (fun q => by exfalso; exact q rfl) ?_
  intro hc13
  refine o_iconst (v := (1 : Int32)) X1 d5_16 rfl 17 rfl ?_
  refine o_goto X1 d5_17 21 (by decide) (by decide) ?_
  exact o_retZ X1 d5_21 (by decide) (by decide) (hQ _ _ ⟨rfl, rfl⟩)
set_option maxRecDepth 65536 in
set_option maxHeartbeats 40000000 in
theorem c_at_7_0 (l : Launch) (Z : State) (a0 : Array Value) (hw : ∀ d ∈ tables_1, d.before a0 Z = true) (ws : List Jvm.Cond) (n0 : Nat) (h0 : Heap) (hn0 : n0 ≤ h0.size) (xa : Addr) (xx xy : Int32) (L' : List (Addr × (Cell → Prop))) (H0 : OL n0 h0 ((xa, OA Z .boolean [(f_bit xx (0 : Int32)), (f_bit xx (1 : Int32)), (f_bit xx (2 : Int32)), (f_bit xy (3 : Int32)), (f_bit xy (4 : Int32)), (f_bit xy (5 : Int32)), (f_bit xy (6 : Int32))]) :: L')) :
    OC l Z (⟨"com/example/eratosthenes/eratosthenes/tune/GeneticSearchHalvesPinLaw", "at", "([ZIIII)Z"⟩ : MethodName) method_4_code 6 (some .boolean) ws ({ frames := 1, cells := 0, slots := 0, locals := 14 } : Room) n0 #[(.ref xa), (.int (0 : Int32)), (.int (7 : Int32)), (.int xx), (.int xy)] h0 (fun r h => r = some (.int 1) ∧ h0 = h) := by
  refine OC.of pn_0 hn0 #[.val (.ref xa), .val (.int (0 : Int32)), .val (.int (7 : Int32)), .val (.int xx), .val (.int xy), .unset] (fun m => by first | (simp [entryFrame, mkF, argsToLocals, Value.category, maxLocals]; done) | rfl) ?_
  intro p e s m below meth cd0 T0 X0 Q' hQ
  refine o_iloadN X0 d3_0 rfl 1 rfl ?_
  refine o_iloadN X0 d3_1 rfl 2 rfl ?_
  refine o_icmpLt X0 d3_2 7 5 (by decide) (by decide) rfl ?_ (fun q => by exfalso; exact absurd q (by decide))
  intro hc2
  refine o_iloadN X0 d3_7 rfl 8 rfl ?_
  refine o_iloadN X0 d3_8 rfl 9 rfl ?_
  refine o_iconst (v := (2 : Int32)) X0 d3_9 rfl 10 rfl ?_
  refine o_idiv X0 d3_10 (by decide) 11 rfl ?_
  refine o_icmpGe X0 d3_11 22 14 (by decide) (by decide) rfl (fun q => by exfalso; exact absurd q (by decide)) ?_
  intro hc11
  refine o_iloadN X0 d3_14 rfl 15 rfl ?_
  refine o_iloadN X0 d3_15 rfl 16 rfl ?_
  refine o_callS X0 d3_16 (rest := []) (c_bit l Z a0 hw [] n0 _ X0.size xx (0 : Int32) ) (hw _ (List.mem_of_getElem? (i := 31) rfl)) (hw _ (List.mem_of_getElem? (i := 32) rfl)) (hw _ (List.mem_of_getElem? (i := 2) rfl)) (hw _ (List.mem_of_getElem? (i := 33) rfl)) (by decide) 0 (by decide) (by decide) rfl [(.int xx), (.int (0 : Int32))] rfl pd_6 rfl rfl (Nat.le_of_eq rfl) 0 0 rfl rfl (by decide) (by decide) 19 rfl ?_
  rintro _ T1 _ X1 ⟨rfl, rfl⟩
  show OE p e ({ frames := 1, cells := 0, slots := 0, locals := 14 } : Room) below s n0 Q' T1 (mkF m 19 #[.val (.ref xa), .val (.int (0 : Int32)), .val (.int (7 : Int32)), .val (.int xx), .val (.int xy), .unset] [(.int (f_bit xx (0 : Int32)))])
  refine o_goto X1 d3_19 28 (by decide) (by decide) ?_
  refine o_istore X1 d3_28 #[.val (.ref xa), .val (.int (0 : Int32)), .val (.int (7 : Int32)), .val (.int xx), .val (.int xy), .val (.int (f_bit xx (0 : Int32)))] rfl 30 rfl ?_
  refine o_aloadN X1 d3_30 rfl rfl 31 rfl ?_
  refine o_iloadN X1 d3_31 rfl 32 rfl ?_
  refine o_baloadZ X1 H0 0 rfl d3_32 0 rfl (f_bit xx (0 : Int32)) rfl 33 rfl ?_
  refine o_iload X1 d3_33 rfl 35 rfl ?_
  refine o_icmpNe X1 d3_35 42 38 (by decide) (by decide) rfl (fun q => by exfalso; exact q rfl) ?_
  intro hc35
  refine o_iconst (v := (1 : Int32)) X1 d3_38 rfl 39 rfl ?_
  refine o_goto X1 d3_39 43 (by decide) (by decide) ?_
  exact o_retZ X1 d3_43 (by decide) (by decide) (hQ _ _ ⟨rfl, rfl⟩)
set_option maxRecDepth 65536 in
set_option maxHeartbeats 40000000 in
theorem c_kept_7_1 (l : Launch) (Z : State) (a0 : Array Value) (hw : ∀ d ∈ tables_1, d.before a0 Z = true) (ws : List Jvm.Cond) (n0 : Nat) (h0 : Heap) (hn0 : n0 ≤ h0.size) (xa : Addr) (xv : Int32) (L' : List (Addr × (Cell → Prop))) (H0 : OL n0 h0 ((xa, OA Z .boolean [(f_bit xv (0 : Int32)), (f_bit xv (1 : Int32)), (f_bit xv (2 : Int32)), (f_bit xv (3 : Int32)), (f_bit xv (4 : Int32)), (f_bit xv (5 : Int32)), (f_bit xv (6 : Int32))]) :: L')) :
    OC l Z (⟨"com/example/eratosthenes/eratosthenes/tune/GeneticSearchHalvesPinLaw", "kept", "([ZIII)Z"⟩ : MethodName) method_5_code 4 (some .boolean) ws ({ frames := 1, cells := 0, slots := 0, locals := 14 } : Room) n0 #[(.ref xa), (.int (1 : Int32)), (.int (7 : Int32)), (.int xv)] h0 (fun r h => r = some (.int 1) ∧ h0 = h) := by
  refine OC.of pn_0 hn0 #[.val (.ref xa), .val (.int (1 : Int32)), .val (.int (7 : Int32)), .val (.int xv)] (fun m => by first | (simp [entryFrame, mkF, argsToLocals, Value.category, maxLocals]; done) | rfl) ?_
  intro p e s m below meth cd0 T0 X0 Q' hQ
  refine o_iloadN X0 d5_0 rfl 1 rfl ?_
  refine o_iloadN X0 d5_1 rfl 2 rfl ?_
  refine o_icmpGe X0 d5_2 16 5 (by decide) (by decide) rfl (fun q => by exfalso; exact absurd q (by decide)) ?_
  intro hc2
  refine o_aloadN X0 d5_5 rfl rfl 6 rfl ?_
  refine o_iloadN X0 d5_6 rfl 7 rfl ?_
  refine o_baloadZ X0 H0 0 rfl d5_7 1 rfl (f_bit xv (1 : Int32)) rfl 8 rfl ?_
  refine o_iloadN X0 d5_8 rfl 9 rfl ?_
  refine o_iloadN X0 d5_9 rfl 10 rfl ?_
  refine o_callS X0 d5_10 (rest := [(.int (f_bit xv (1 : Int32)))]) (c_bit l Z a0 hw [] n0 _ X0.size xv (1 : Int32) ) (hw _ (List.mem_of_getElem? (i := 31) rfl)) (hw _ (List.mem_of_getElem? (i := 32) rfl)) (hw _ (List.mem_of_getElem? (i := 2) rfl)) (hw _ (List.mem_of_getElem? (i := 33) rfl)) (by decide) 1 (by decide) (by decide) rfl [(.int xv), (.int (1 : Int32))] rfl pd_6 rfl rfl (Nat.le_of_eq rfl) 0 0 rfl rfl (by decide) (by decide) 13 rfl ?_
  rintro _ T1 _ X1 ⟨rfl, rfl⟩
  show OE p e ({ frames := 1, cells := 0, slots := 0, locals := 14 } : Room) below s n0 Q' T1 (mkF m 13 #[.val (.ref xa), .val (.int (1 : Int32)), .val (.int (7 : Int32)), .val (.int xv)] [(.int (f_bit xv (1 : Int32))), (.int (f_bit xv (1 : Int32)))])
  refine o_icmpNe X1 d5_13 20 16 (by decide) (by decide) rfl (fun q => by exfalso; exact q rfl) ?_
  intro hc13
  refine o_iconst (v := (1 : Int32)) X1 d5_16 rfl 17 rfl ?_
  refine o_goto X1 d5_17 21 (by decide) (by decide) ?_
  exact o_retZ X1 d5_21 (by decide) (by decide) (hQ _ _ ⟨rfl, rfl⟩)
set_option maxRecDepth 65536 in
set_option maxHeartbeats 40000000 in
theorem c_at_7_1 (l : Launch) (Z : State) (a0 : Array Value) (hw : ∀ d ∈ tables_1, d.before a0 Z = true) (ws : List Jvm.Cond) (n0 : Nat) (h0 : Heap) (hn0 : n0 ≤ h0.size) (xa : Addr) (xx xy : Int32) (L' : List (Addr × (Cell → Prop))) (H0 : OL n0 h0 ((xa, OA Z .boolean [(f_bit xx (0 : Int32)), (f_bit xx (1 : Int32)), (f_bit xx (2 : Int32)), (f_bit xy (3 : Int32)), (f_bit xy (4 : Int32)), (f_bit xy (5 : Int32)), (f_bit xy (6 : Int32))]) :: L')) :
    OC l Z (⟨"com/example/eratosthenes/eratosthenes/tune/GeneticSearchHalvesPinLaw", "at", "([ZIIII)Z"⟩ : MethodName) method_4_code 6 (some .boolean) ws ({ frames := 1, cells := 0, slots := 0, locals := 14 } : Room) n0 #[(.ref xa), (.int (1 : Int32)), (.int (7 : Int32)), (.int xx), (.int xy)] h0 (fun r h => r = some (.int 1) ∧ h0 = h) := by
  refine OC.of pn_0 hn0 #[.val (.ref xa), .val (.int (1 : Int32)), .val (.int (7 : Int32)), .val (.int xx), .val (.int xy), .unset] (fun m => by first | (simp [entryFrame, mkF, argsToLocals, Value.category, maxLocals]; done) | rfl) ?_
  intro p e s m below meth cd0 T0 X0 Q' hQ
  refine o_iloadN X0 d3_0 rfl 1 rfl ?_
  refine o_iloadN X0 d3_1 rfl 2 rfl ?_
  refine o_icmpLt X0 d3_2 7 5 (by decide) (by decide) rfl ?_ (fun q => by exfalso; exact absurd q (by decide))
  intro hc2
  refine o_iloadN X0 d3_7 rfl 8 rfl ?_
  refine o_iloadN X0 d3_8 rfl 9 rfl ?_
  refine o_iconst (v := (2 : Int32)) X0 d3_9 rfl 10 rfl ?_
  refine o_idiv X0 d3_10 (by decide) 11 rfl ?_
  refine o_icmpGe X0 d3_11 22 14 (by decide) (by decide) rfl (fun q => by exfalso; exact absurd q (by decide)) ?_
  intro hc11
  refine o_iloadN X0 d3_14 rfl 15 rfl ?_
  refine o_iloadN X0 d3_15 rfl 16 rfl ?_
  refine o_callS X0 d3_16 (rest := []) (c_bit l Z a0 hw [] n0 _ X0.size xx (1 : Int32) ) (hw _ (List.mem_of_getElem? (i := 31) rfl)) (hw _ (List.mem_of_getElem? (i := 32) rfl)) (hw _ (List.mem_of_getElem? (i := 2) rfl)) (hw _ (List.mem_of_getElem? (i := 33) rfl)) (by decide) 0 (by decide) (by decide) rfl [(.int xx), (.int (1 : Int32))] rfl pd_6 rfl rfl (Nat.le_of_eq rfl) 0 0 rfl rfl (by decide) (by decide) 19 rfl ?_
  rintro _ T1 _ X1 ⟨rfl, rfl⟩
  show OE p e ({ frames := 1, cells := 0, slots := 0, locals := 14 } : Room) below s n0 Q' T1 (mkF m 19 #[.val (.ref xa), .val (.int (1 : Int32)), .val (.int (7 : Int32)), .val (.int xx), .val (.int xy), .unset] [(.int (f_bit xx (1 : Int32)))])
  refine o_goto X1 d3_19 28 (by decide) (by decide) ?_
  refine o_istore X1 d3_28 #[.val (.ref xa), .val (.int (1 : Int32)), .val (.int (7 : Int32)), .val (.int xx), .val (.int xy), .val (.int (f_bit xx (1 : Int32)))] rfl 30 rfl ?_
  refine o_aloadN X1 d3_30 rfl rfl 31 rfl ?_
  refine o_iloadN X1 d3_31 rfl 32 rfl ?_
  refine o_baloadZ X1 H0 0 rfl d3_32 1 rfl (f_bit xx (1 : Int32)) rfl 33 rfl ?_
  refine o_iload X1 d3_33 rfl 35 rfl ?_
  refine o_icmpNe X1 d3_35 42 38 (by decide) (by decide) rfl (fun q => by exfalso; exact q rfl) ?_
  intro hc35
  refine o_iconst (v := (1 : Int32)) X1 d3_38 rfl 39 rfl ?_
  refine o_goto X1 d3_39 43 (by decide) (by decide) ?_
  exact o_retZ X1 d3_43 (by decide) (by decide) (hQ _ _ ⟨rfl, rfl⟩)
set_option maxRecDepth 65536 in
set_option maxHeartbeats 40000000 in
theorem c_kept_7_2 (l : Launch) (Z : State) (a0 : Array Value) (hw : ∀ d ∈ tables_1, d.before a0 Z = true) (ws : List Jvm.Cond) (n0 : Nat) (h0 : Heap) (hn0 : n0 ≤ h0.size) (xa : Addr) (xv : Int32) (L' : List (Addr × (Cell → Prop))) (H0 : OL n0 h0 ((xa, OA Z .boolean [(f_bit xv (0 : Int32)), (f_bit xv (1 : Int32)), (f_bit xv (2 : Int32)), (f_bit xv (3 : Int32)), (f_bit xv (4 : Int32)), (f_bit xv (5 : Int32)), (f_bit xv (6 : Int32))]) :: L')) :
    OC l Z (⟨"com/example/eratosthenes/eratosthenes/tune/GeneticSearchHalvesPinLaw", "kept", "([ZIII)Z"⟩ : MethodName) method_5_code 4 (some .boolean) ws ({ frames := 1, cells := 0, slots := 0, locals := 14 } : Room) n0 #[(.ref xa), (.int (2 : Int32)), (.int (7 : Int32)), (.int xv)] h0 (fun r h => r = some (.int 1) ∧ h0 = h) := by
  refine OC.of pn_0 hn0 #[.val (.ref xa), .val (.int (2 : Int32)), .val (.int (7 : Int32)), .val (.int xv)] (fun m => by first | (simp [entryFrame, mkF, argsToLocals, Value.category, maxLocals]; done) | rfl) ?_
  intro p e s m below meth cd0 T0 X0 Q' hQ
  refine o_iloadN X0 d5_0 rfl 1 rfl ?_
  refine o_iloadN X0 d5_1 rfl 2 rfl ?_
  refine o_icmpGe X0 d5_2 16 5 (by decide) (by decide) rfl (fun q => by exfalso; exact absurd q (by decide)) ?_
  intro hc2
  refine o_aloadN X0 d5_5 rfl rfl 6 rfl ?_
  refine o_iloadN X0 d5_6 rfl 7 rfl ?_
  refine o_baloadZ X0 H0 0 rfl d5_7 2 rfl (f_bit xv (2 : Int32)) rfl 8 rfl ?_
  refine o_iloadN X0 d5_8 rfl 9 rfl ?_
  refine o_iloadN X0 d5_9 rfl 10 rfl ?_
  refine o_callS X0 d5_10 (rest := [(.int (f_bit xv (2 : Int32)))]) (c_bit l Z a0 hw [] n0 _ X0.size xv (2 : Int32) ) (hw _ (List.mem_of_getElem? (i := 31) rfl)) (hw _ (List.mem_of_getElem? (i := 32) rfl)) (hw _ (List.mem_of_getElem? (i := 2) rfl)) (hw _ (List.mem_of_getElem? (i := 33) rfl)) (by decide) 1 (by decide) (by decide) rfl [(.int xv), (.int (2 : Int32))] rfl pd_6 rfl rfl (Nat.le_of_eq rfl) 0 0 rfl rfl (by decide) (by decide) 13 rfl ?_
  rintro _ T1 _ X1 ⟨rfl, rfl⟩
  show OE p e ({ frames := 1, cells := 0, slots := 0, locals := 14 } : Room) below s n0 Q' T1 (mkF m 13 #[.val (.ref xa), .val (.int (2 : Int32)), .val (.int (7 : Int32)), .val (.int xv)] [(.int (f_bit xv (2 : Int32))), (.int (f_bit xv (2 : Int32)))])
  refine o_icmpNe X1 d5_13 20 16 (by decide) (by decide) rfl (fun q => by exfalso; exact q rfl) ?_
  intro hc13
  refine o_iconst (v := (1 : Int32)) X1 d5_16 rfl 17 rfl ?_
  refine o_goto X1 d5_17 21 (by decide) (by decide) ?_
  exact o_retZ X1 d5_21 (by decide) (by decide) (hQ _ _ ⟨rfl, rfl⟩)
set_option maxRecDepth 65536 in
set_option maxHeartbeats 40000000 in
theorem c_at_7_2 (l : Launch) (Z : State) (a0 : Array Value) (hw : ∀ d ∈ tables_1, d.before a0 Z = true) (ws : List Jvm.Cond) (n0 : Nat) (h0 : Heap) (hn0 : n0 ≤ h0.size) (xa : Addr) (xx xy : Int32) (L' : List (Addr × (Cell → Prop))) (H0 : OL n0 h0 ((xa, OA Z .boolean [(f_bit xx (0 : Int32)), (f_bit xx (1 : Int32)), (f_bit xx (2 : Int32)), (f_bit xy (3 : Int32)), (f_bit xy (4 : Int32)), (f_bit xy (5 : Int32)), (f_bit xy (6 : Int32))]) :: L')) :
    OC l Z (⟨"com/example/eratosthenes/eratosthenes/tune/GeneticSearchHalvesPinLaw", "at", "([ZIIII)Z"⟩ : MethodName) method_4_code 6 (some .boolean) ws ({ frames := 1, cells := 0, slots := 0, locals := 14 } : Room) n0 #[(.ref xa), (.int (2 : Int32)), (.int (7 : Int32)), (.int xx), (.int xy)] h0 (fun r h => r = some (.int 1) ∧ h0 = h) := by
  refine OC.of pn_0 hn0 #[.val (.ref xa), .val (.int (2 : Int32)), .val (.int (7 : Int32)), .val (.int xx), .val (.int xy), .unset] (fun m => by first | (simp [entryFrame, mkF, argsToLocals, Value.category, maxLocals]; done) | rfl) ?_
  intro p e s m below meth cd0 T0 X0 Q' hQ
  refine o_iloadN X0 d3_0 rfl 1 rfl ?_
  refine o_iloadN X0 d3_1 rfl 2 rfl ?_
  refine o_icmpLt X0 d3_2 7 5 (by decide) (by decide) rfl ?_ (fun q => by exfalso; exact absurd q (by decide))
  intro hc2
  refine o_iloadN X0 d3_7 rfl 8 rfl ?_
  refine o_iloadN X0 d3_8 rfl 9 rfl ?_
  refine o_iconst (v := (2 : Int32)) X0 d3_9 rfl 10 rfl ?_
  refine o_idiv X0 d3_10 (by decide) 11 rfl ?_
  refine o_icmpGe X0 d3_11 22 14 (by decide) (by decide) rfl (fun q => by exfalso; exact absurd q (by decide)) ?_
  intro hc11
  refine o_iloadN X0 d3_14 rfl 15 rfl ?_
  refine o_iloadN X0 d3_15 rfl 16 rfl ?_
  refine o_callS X0 d3_16 (rest := []) (c_bit l Z a0 hw [] n0 _ X0.size xx (2 : Int32) ) (hw _ (List.mem_of_getElem? (i := 31) rfl)) (hw _ (List.mem_of_getElem? (i := 32) rfl)) (hw _ (List.mem_of_getElem? (i := 2) rfl)) (hw _ (List.mem_of_getElem? (i := 33) rfl)) (by decide) 0 (by decide) (by decide) rfl [(.int xx), (.int (2 : Int32))] rfl pd_6 rfl rfl (Nat.le_of_eq rfl) 0 0 rfl rfl (by decide) (by decide) 19 rfl ?_
  rintro _ T1 _ X1 ⟨rfl, rfl⟩
  show OE p e ({ frames := 1, cells := 0, slots := 0, locals := 14 } : Room) below s n0 Q' T1 (mkF m 19 #[.val (.ref xa), .val (.int (2 : Int32)), .val (.int (7 : Int32)), .val (.int xx), .val (.int xy), .unset] [(.int (f_bit xx (2 : Int32)))])
  refine o_goto X1 d3_19 28 (by decide) (by decide) ?_
  refine o_istore X1 d3_28 #[.val (.ref xa), .val (.int (2 : Int32)), .val (.int (7 : Int32)), .val (.int xx), .val (.int xy), .val (.int (f_bit xx (2 : Int32)))] rfl 30 rfl ?_
  refine o_aloadN X1 d3_30 rfl rfl 31 rfl ?_
  refine o_iloadN X1 d3_31 rfl 32 rfl ?_
  refine o_baloadZ X1 H0 0 rfl d3_32 2 rfl (f_bit xx (2 : Int32)) rfl 33 rfl ?_
  refine o_iload X1 d3_33 rfl 35 rfl ?_
  refine o_icmpNe X1 d3_35 42 38 (by decide) (by decide) rfl (fun q => by exfalso; exact q rfl) ?_
  intro hc35
  refine o_iconst (v := (1 : Int32)) X1 d3_38 rfl 39 rfl ?_
  refine o_goto X1 d3_39 43 (by decide) (by decide) ?_
  exact o_retZ X1 d3_43 (by decide) (by decide) (hQ _ _ ⟨rfl, rfl⟩)
set_option maxRecDepth 65536 in
set_option maxHeartbeats 40000000 in
theorem c_kept_7_3 (l : Launch) (Z : State) (a0 : Array Value) (hw : ∀ d ∈ tables_1, d.before a0 Z = true) (ws : List Jvm.Cond) (n0 : Nat) (h0 : Heap) (hn0 : n0 ≤ h0.size) (xa : Addr) (xv : Int32) (L' : List (Addr × (Cell → Prop))) (H0 : OL n0 h0 ((xa, OA Z .boolean [(f_bit xv (0 : Int32)), (f_bit xv (1 : Int32)), (f_bit xv (2 : Int32)), (f_bit xv (3 : Int32)), (f_bit xv (4 : Int32)), (f_bit xv (5 : Int32)), (f_bit xv (6 : Int32))]) :: L')) :
    OC l Z (⟨"com/example/eratosthenes/eratosthenes/tune/GeneticSearchHalvesPinLaw", "kept", "([ZIII)Z"⟩ : MethodName) method_5_code 4 (some .boolean) ws ({ frames := 1, cells := 0, slots := 0, locals := 14 } : Room) n0 #[(.ref xa), (.int (3 : Int32)), (.int (7 : Int32)), (.int xv)] h0 (fun r h => r = some (.int 1) ∧ h0 = h) := by
  refine OC.of pn_0 hn0 #[.val (.ref xa), .val (.int (3 : Int32)), .val (.int (7 : Int32)), .val (.int xv)] (fun m => by first | (simp [entryFrame, mkF, argsToLocals, Value.category, maxLocals]; done) | rfl) ?_
  intro p e s m below meth cd0 T0 X0 Q' hQ
  refine o_iloadN X0 d5_0 rfl 1 rfl ?_
  refine o_iloadN X0 d5_1 rfl 2 rfl ?_
  refine o_icmpGe X0 d5_2 16 5 (by decide) (by decide) rfl (fun q => by exfalso; exact absurd q (by decide)) ?_
  intro hc2
  refine o_aloadN X0 d5_5 rfl rfl 6 rfl ?_
  refine o_iloadN X0 d5_6 rfl 7 rfl ?_
  refine o_baloadZ X0 H0 0 rfl d5_7 3 rfl (f_bit xv (3 : Int32)) rfl 8 rfl ?_
  refine o_iloadN X0 d5_8 rfl 9 rfl ?_
  refine o_iloadN X0 d5_9 rfl 10 rfl ?_
  refine o_callS X0 d5_10 (rest := [(.int (f_bit xv (3 : Int32)))]) (c_bit l Z a0 hw [] n0 _ X0.size xv (3 : Int32) ) (hw _ (List.mem_of_getElem? (i := 31) rfl)) (hw _ (List.mem_of_getElem? (i := 32) rfl)) (hw _ (List.mem_of_getElem? (i := 2) rfl)) (hw _ (List.mem_of_getElem? (i := 33) rfl)) (by decide) 1 (by decide) (by decide) rfl [(.int xv), (.int (3 : Int32))] rfl pd_6 rfl rfl (Nat.le_of_eq rfl) 0 0 rfl rfl (by decide) (by decide) 13 rfl ?_
  rintro _ T1 _ X1 ⟨rfl, rfl⟩
  show OE p e ({ frames := 1, cells := 0, slots := 0, locals := 14 } : Room) below s n0 Q' T1 (mkF m 13 #[.val (.ref xa), .val (.int (3 : Int32)), .val (.int (7 : Int32)), .val (.int xv)] [(.int (f_bit xv (3 : Int32))), (.int (f_bit xv (3 : Int32)))])
  refine o_icmpNe X1 d5_13 20 16 (by decide) (by decide) rfl (fun q => by exfalso; exact q rfl) ?_
  intro hc13
  refine o_iconst (v := (1 : Int32)) X1 d5_16 rfl 17 rfl ?_
  refine o_goto X1 d5_17 21 (by decide) (by decide) ?_
  exact o_retZ X1 d5_21 (by decide) (by decide) (hQ _ _ ⟨rfl, rfl⟩)
set_option maxRecDepth 65536 in
set_option maxHeartbeats 40000000 in
theorem c_at_7_3 (l : Launch) (Z : State) (a0 : Array Value) (hw : ∀ d ∈ tables_1, d.before a0 Z = true) (ws : List Jvm.Cond) (n0 : Nat) (h0 : Heap) (hn0 : n0 ≤ h0.size) (xa : Addr) (xx xy : Int32) (L' : List (Addr × (Cell → Prop))) (H0 : OL n0 h0 ((xa, OA Z .boolean [(f_bit xx (0 : Int32)), (f_bit xx (1 : Int32)), (f_bit xx (2 : Int32)), (f_bit xy (3 : Int32)), (f_bit xy (4 : Int32)), (f_bit xy (5 : Int32)), (f_bit xy (6 : Int32))]) :: L')) :
    OC l Z (⟨"com/example/eratosthenes/eratosthenes/tune/GeneticSearchHalvesPinLaw", "at", "([ZIIII)Z"⟩ : MethodName) method_4_code 6 (some .boolean) ws ({ frames := 1, cells := 0, slots := 0, locals := 14 } : Room) n0 #[(.ref xa), (.int (3 : Int32)), (.int (7 : Int32)), (.int xx), (.int xy)] h0 (fun r h => r = some (.int 1) ∧ h0 = h) := by
  refine OC.of pn_0 hn0 #[.val (.ref xa), .val (.int (3 : Int32)), .val (.int (7 : Int32)), .val (.int xx), .val (.int xy), .unset] (fun m => by first | (simp [entryFrame, mkF, argsToLocals, Value.category, maxLocals]; done) | rfl) ?_
  intro p e s m below meth cd0 T0 X0 Q' hQ
  refine o_iloadN X0 d3_0 rfl 1 rfl ?_
  refine o_iloadN X0 d3_1 rfl 2 rfl ?_
  refine o_icmpLt X0 d3_2 7 5 (by decide) (by decide) rfl ?_ (fun q => by exfalso; exact absurd q (by decide))
  intro hc2
  refine o_iloadN X0 d3_7 rfl 8 rfl ?_
  refine o_iloadN X0 d3_8 rfl 9 rfl ?_
  refine o_iconst (v := (2 : Int32)) X0 d3_9 rfl 10 rfl ?_
  refine o_idiv X0 d3_10 (by decide) 11 rfl ?_
  refine o_icmpGe X0 d3_11 22 14 (by decide) (by decide) rfl ?_ (fun q => by exfalso; exact absurd q (by decide))
  intro hc11
  refine o_iload X0 d3_22 rfl 24 rfl ?_
  refine o_iloadN X0 d3_24 rfl 25 rfl ?_
  refine o_callS X0 d3_25 (rest := []) (c_bit l Z a0 hw [] n0 _ X0.size xy (3 : Int32) ) (hw _ (List.mem_of_getElem? (i := 31) rfl)) (hw _ (List.mem_of_getElem? (i := 32) rfl)) (hw _ (List.mem_of_getElem? (i := 2) rfl)) (hw _ (List.mem_of_getElem? (i := 33) rfl)) (by decide) 0 (by decide) (by decide) rfl [(.int xy), (.int (3 : Int32))] rfl pd_6 rfl rfl (Nat.le_of_eq rfl) 0 0 rfl rfl (by decide) (by decide) 28 rfl ?_
  rintro _ T1 _ X1 ⟨rfl, rfl⟩
  show OE p e ({ frames := 1, cells := 0, slots := 0, locals := 14 } : Room) below s n0 Q' T1 (mkF m 28 #[.val (.ref xa), .val (.int (3 : Int32)), .val (.int (7 : Int32)), .val (.int xx), .val (.int xy), .unset] [(.int (f_bit xy (3 : Int32)))])
  refine o_istore X1 d3_28 #[.val (.ref xa), .val (.int (3 : Int32)), .val (.int (7 : Int32)), .val (.int xx), .val (.int xy), .val (.int (f_bit xy (3 : Int32)))] rfl 30 rfl ?_
  refine o_aloadN X1 d3_30 rfl rfl 31 rfl ?_
  refine o_iloadN X1 d3_31 rfl 32 rfl ?_
  refine o_baloadZ X1 H0 0 rfl d3_32 3 rfl (f_bit xy (3 : Int32)) rfl 33 rfl ?_
  refine o_iload X1 d3_33 rfl 35 rfl ?_
  refine o_icmpNe X1 d3_35 42 38 (by decide) (by decide) rfl (fun q => by exfalso; exact q rfl) ?_
  intro hc35
  refine o_iconst (v := (1 : Int32)) X1 d3_38 rfl 39 rfl ?_
  refine o_goto X1 d3_39 43 (by decide) (by decide) ?_
  exact o_retZ X1 d3_43 (by decide) (by decide) (hQ _ _ ⟨rfl, rfl⟩)
set_option maxRecDepth 65536 in
set_option maxHeartbeats 40000000 in
theorem c_kept_7_4 (l : Launch) (Z : State) (a0 : Array Value) (hw : ∀ d ∈ tables_1, d.before a0 Z = true) (ws : List Jvm.Cond) (n0 : Nat) (h0 : Heap) (hn0 : n0 ≤ h0.size) (xa : Addr) (xv : Int32) (L' : List (Addr × (Cell → Prop))) (H0 : OL n0 h0 ((xa, OA Z .boolean [(f_bit xv (0 : Int32)), (f_bit xv (1 : Int32)), (f_bit xv (2 : Int32)), (f_bit xv (3 : Int32)), (f_bit xv (4 : Int32)), (f_bit xv (5 : Int32)), (f_bit xv (6 : Int32))]) :: L')) :
    OC l Z (⟨"com/example/eratosthenes/eratosthenes/tune/GeneticSearchHalvesPinLaw", "kept", "([ZIII)Z"⟩ : MethodName) method_5_code 4 (some .boolean) ws ({ frames := 1, cells := 0, slots := 0, locals := 14 } : Room) n0 #[(.ref xa), (.int (4 : Int32)), (.int (7 : Int32)), (.int xv)] h0 (fun r h => r = some (.int 1) ∧ h0 = h) := by
  refine OC.of pn_0 hn0 #[.val (.ref xa), .val (.int (4 : Int32)), .val (.int (7 : Int32)), .val (.int xv)] (fun m => by first | (simp [entryFrame, mkF, argsToLocals, Value.category, maxLocals]; done) | rfl) ?_
  intro p e s m below meth cd0 T0 X0 Q' hQ
  refine o_iloadN X0 d5_0 rfl 1 rfl ?_
  refine o_iloadN X0 d5_1 rfl 2 rfl ?_
  refine o_icmpGe X0 d5_2 16 5 (by decide) (by decide) rfl (fun q => by exfalso; exact absurd q (by decide)) ?_
  intro hc2
  refine o_aloadN X0 d5_5 rfl rfl 6 rfl ?_
  refine o_iloadN X0 d5_6 rfl 7 rfl ?_
  refine o_baloadZ X0 H0 0 rfl d5_7 4 rfl (f_bit xv (4 : Int32)) rfl 8 rfl ?_
  refine o_iloadN X0 d5_8 rfl 9 rfl ?_
  refine o_iloadN X0 d5_9 rfl 10 rfl ?_
  refine o_callS X0 d5_10 (rest := [(.int (f_bit xv (4 : Int32)))]) (c_bit l Z a0 hw [] n0 _ X0.size xv (4 : Int32) ) (hw _ (List.mem_of_getElem? (i := 31) rfl)) (hw _ (List.mem_of_getElem? (i := 32) rfl)) (hw _ (List.mem_of_getElem? (i := 2) rfl)) (hw _ (List.mem_of_getElem? (i := 33) rfl)) (by decide) 1 (by decide) (by decide) rfl [(.int xv), (.int (4 : Int32))] rfl pd_6 rfl rfl (Nat.le_of_eq rfl) 0 0 rfl rfl (by decide) (by decide) 13 rfl ?_
  rintro _ T1 _ X1 ⟨rfl, rfl⟩
  show OE p e ({ frames := 1, cells := 0, slots := 0, locals := 14 } : Room) below s n0 Q' T1 (mkF m 13 #[.val (.ref xa), .val (.int (4 : Int32)), .val (.int (7 : Int32)), .val (.int xv)] [(.int (f_bit xv (4 : Int32))), (.int (f_bit xv (4 : Int32)))])
  refine o_icmpNe X1 d5_13 20 16 (by decide) (by decide) rfl (fun q => by exfalso; exact q rfl) ?_
  intro hc13
  refine o_iconst (v := (1 : Int32)) X1 d5_16 rfl 17 rfl ?_
  refine o_goto X1 d5_17 21 (by decide) (by decide) ?_
  exact o_retZ X1 d5_21 (by decide) (by decide) (hQ _ _ ⟨rfl, rfl⟩)
set_option maxRecDepth 65536 in
set_option maxHeartbeats 40000000 in
theorem c_at_7_4 (l : Launch) (Z : State) (a0 : Array Value) (hw : ∀ d ∈ tables_1, d.before a0 Z = true) (ws : List Jvm.Cond) (n0 : Nat) (h0 : Heap) (hn0 : n0 ≤ h0.size) (xa : Addr) (xx xy : Int32) (L' : List (Addr × (Cell → Prop))) (H0 : OL n0 h0 ((xa, OA Z .boolean [(f_bit xx (0 : Int32)), (f_bit xx (1 : Int32)), (f_bit xx (2 : Int32)), (f_bit xy (3 : Int32)), (f_bit xy (4 : Int32)), (f_bit xy (5 : Int32)), (f_bit xy (6 : Int32))]) :: L')) :
    OC l Z (⟨"com/example/eratosthenes/eratosthenes/tune/GeneticSearchHalvesPinLaw", "at", "([ZIIII)Z"⟩ : MethodName) method_4_code 6 (some .boolean) ws ({ frames := 1, cells := 0, slots := 0, locals := 14 } : Room) n0 #[(.ref xa), (.int (4 : Int32)), (.int (7 : Int32)), (.int xx), (.int xy)] h0 (fun r h => r = some (.int 1) ∧ h0 = h) := by
  refine OC.of pn_0 hn0 #[.val (.ref xa), .val (.int (4 : Int32)), .val (.int (7 : Int32)), .val (.int xx), .val (.int xy), .unset] (fun m => by first | (simp [entryFrame, mkF, argsToLocals, Value.category, maxLocals]; done) | rfl) ?_
  intro p e s m below meth cd0 T0 X0 Q' hQ
  refine o_iloadN X0 d3_0 rfl 1 rfl ?_
  refine o_iloadN X0 d3_1 rfl 2 rfl ?_
  refine o_icmpLt X0 d3_2 7 5 (by decide) (by decide) rfl ?_ (fun q => by exfalso; exact absurd q (by decide))
  intro hc2
  refine o_iloadN X0 d3_7 rfl 8 rfl ?_
  refine o_iloadN X0 d3_8 rfl 9 rfl ?_
  refine o_iconst (v := (2 : Int32)) X0 d3_9 rfl 10 rfl ?_
  refine o_idiv X0 d3_10 (by decide) 11 rfl ?_
  refine o_icmpGe X0 d3_11 22 14 (by decide) (by decide) rfl ?_ (fun q => by exfalso; exact absurd q (by decide))
  intro hc11
  refine o_iload X0 d3_22 rfl 24 rfl ?_
  refine o_iloadN X0 d3_24 rfl 25 rfl ?_
  refine o_callS X0 d3_25 (rest := []) (c_bit l Z a0 hw [] n0 _ X0.size xy (4 : Int32) ) (hw _ (List.mem_of_getElem? (i := 31) rfl)) (hw _ (List.mem_of_getElem? (i := 32) rfl)) (hw _ (List.mem_of_getElem? (i := 2) rfl)) (hw _ (List.mem_of_getElem? (i := 33) rfl)) (by decide) 0 (by decide) (by decide) rfl [(.int xy), (.int (4 : Int32))] rfl pd_6 rfl rfl (Nat.le_of_eq rfl) 0 0 rfl rfl (by decide) (by decide) 28 rfl ?_
  rintro _ T1 _ X1 ⟨rfl, rfl⟩
  show OE p e ({ frames := 1, cells := 0, slots := 0, locals := 14 } : Room) below s n0 Q' T1 (mkF m 28 #[.val (.ref xa), .val (.int (4 : Int32)), .val (.int (7 : Int32)), .val (.int xx), .val (.int xy), .unset] [(.int (f_bit xy (4 : Int32)))])
  refine o_istore X1 d3_28 #[.val (.ref xa), .val (.int (4 : Int32)), .val (.int (7 : Int32)), .val (.int xx), .val (.int xy), .val (.int (f_bit xy (4 : Int32)))] rfl 30 rfl ?_
  refine o_aloadN X1 d3_30 rfl rfl 31 rfl ?_
  refine o_iloadN X1 d3_31 rfl 32 rfl ?_
  refine o_baloadZ X1 H0 0 rfl d3_32 4 rfl (f_bit xy (4 : Int32)) rfl 33 rfl ?_
  refine o_iload X1 d3_33 rfl 35 rfl ?_
  refine o_icmpNe X1 d3_35 42 38 (by decide) (by decide) rfl (fun q => by exfalso; exact q rfl) ?_
  intro hc35
  refine o_iconst (v := (1 : Int32)) X1 d3_38 rfl 39 rfl ?_
  refine o_goto X1 d3_39 43 (by decide) (by decide) ?_
  exact o_retZ X1 d3_43 (by decide) (by decide) (hQ _ _ ⟨rfl, rfl⟩)
set_option maxRecDepth 65536 in
set_option maxHeartbeats 40000000 in
theorem c_kept_7_5 (l : Launch) (Z : State) (a0 : Array Value) (hw : ∀ d ∈ tables_1, d.before a0 Z = true) (ws : List Jvm.Cond) (n0 : Nat) (h0 : Heap) (hn0 : n0 ≤ h0.size) (xa : Addr) (xv : Int32) (L' : List (Addr × (Cell → Prop))) (H0 : OL n0 h0 ((xa, OA Z .boolean [(f_bit xv (0 : Int32)), (f_bit xv (1 : Int32)), (f_bit xv (2 : Int32)), (f_bit xv (3 : Int32)), (f_bit xv (4 : Int32)), (f_bit xv (5 : Int32)), (f_bit xv (6 : Int32))]) :: L')) :
    OC l Z (⟨"com/example/eratosthenes/eratosthenes/tune/GeneticSearchHalvesPinLaw", "kept", "([ZIII)Z"⟩ : MethodName) method_5_code 4 (some .boolean) ws ({ frames := 1, cells := 0, slots := 0, locals := 14 } : Room) n0 #[(.ref xa), (.int (5 : Int32)), (.int (7 : Int32)), (.int xv)] h0 (fun r h => r = some (.int 1) ∧ h0 = h) := by
  refine OC.of pn_0 hn0 #[.val (.ref xa), .val (.int (5 : Int32)), .val (.int (7 : Int32)), .val (.int xv)] (fun m => by first | (simp [entryFrame, mkF, argsToLocals, Value.category, maxLocals]; done) | rfl) ?_
  intro p e s m below meth cd0 T0 X0 Q' hQ
  refine o_iloadN X0 d5_0 rfl 1 rfl ?_
  refine o_iloadN X0 d5_1 rfl 2 rfl ?_
  refine o_icmpGe X0 d5_2 16 5 (by decide) (by decide) rfl (fun q => by exfalso; exact absurd q (by decide)) ?_
  intro hc2
  refine o_aloadN X0 d5_5 rfl rfl 6 rfl ?_
  refine o_iloadN X0 d5_6 rfl 7 rfl ?_
  refine o_baloadZ X0 H0 0 rfl d5_7 5 rfl (f_bit xv (5 : Int32)) rfl 8 rfl ?_
  refine o_iloadN X0 d5_8 rfl 9 rfl ?_
  refine o_iloadN X0 d5_9 rfl 10 rfl ?_
  refine o_callS X0 d5_10 (rest := [(.int (f_bit xv (5 : Int32)))]) (c_bit l Z a0 hw [] n0 _ X0.size xv (5 : Int32) ) (hw _ (List.mem_of_getElem? (i := 31) rfl)) (hw _ (List.mem_of_getElem? (i := 32) rfl)) (hw _ (List.mem_of_getElem? (i := 2) rfl)) (hw _ (List.mem_of_getElem? (i := 33) rfl)) (by decide) 1 (by decide) (by decide) rfl [(.int xv), (.int (5 : Int32))] rfl pd_6 rfl rfl (Nat.le_of_eq rfl) 0 0 rfl rfl (by decide) (by decide) 13 rfl ?_
  rintro _ T1 _ X1 ⟨rfl, rfl⟩
  show OE p e ({ frames := 1, cells := 0, slots := 0, locals := 14 } : Room) below s n0 Q' T1 (mkF m 13 #[.val (.ref xa), .val (.int (5 : Int32)), .val (.int (7 : Int32)), .val (.int xv)] [(.int (f_bit xv (5 : Int32))), (.int (f_bit xv (5 : Int32)))])
  refine o_icmpNe X1 d5_13 20 16 (by decide) (by decide) rfl (fun q => by exfalso; exact q rfl) ?_
  intro hc13
  refine o_iconst (v := (1 : Int32)) X1 d5_16 rfl 17 rfl ?_
  refine o_goto X1 d5_17 21 (by decide) (by decide) ?_
  exact o_retZ X1 d5_21 (by decide) (by decide) (hQ _ _ ⟨rfl, rfl⟩)
set_option maxRecDepth 65536 in
set_option maxHeartbeats 40000000 in
theorem c_at_7_5 (l : Launch) (Z : State) (a0 : Array Value) (hw : ∀ d ∈ tables_1, d.before a0 Z = true) (ws : List Jvm.Cond) (n0 : Nat) (h0 : Heap) (hn0 : n0 ≤ h0.size) (xa : Addr) (xx xy : Int32) (L' : List (Addr × (Cell → Prop))) (H0 : OL n0 h0 ((xa, OA Z .boolean [(f_bit xx (0 : Int32)), (f_bit xx (1 : Int32)), (f_bit xx (2 : Int32)), (f_bit xy (3 : Int32)), (f_bit xy (4 : Int32)), (f_bit xy (5 : Int32)), (f_bit xy (6 : Int32))]) :: L')) :
    OC l Z (⟨"com/example/eratosthenes/eratosthenes/tune/GeneticSearchHalvesPinLaw", "at", "([ZIIII)Z"⟩ : MethodName) method_4_code 6 (some .boolean) ws ({ frames := 1, cells := 0, slots := 0, locals := 14 } : Room) n0 #[(.ref xa), (.int (5 : Int32)), (.int (7 : Int32)), (.int xx), (.int xy)] h0 (fun r h => r = some (.int 1) ∧ h0 = h) := by
  refine OC.of pn_0 hn0 #[.val (.ref xa), .val (.int (5 : Int32)), .val (.int (7 : Int32)), .val (.int xx), .val (.int xy), .unset] (fun m => by first | (simp [entryFrame, mkF, argsToLocals, Value.category, maxLocals]; done) | rfl) ?_
  intro p e s m below meth cd0 T0 X0 Q' hQ
  refine o_iloadN X0 d3_0 rfl 1 rfl ?_
  refine o_iloadN X0 d3_1 rfl 2 rfl ?_
  refine o_icmpLt X0 d3_2 7 5 (by decide) (by decide) rfl ?_ (fun q => by exfalso; exact absurd q (by decide))
  intro hc2
  refine o_iloadN X0 d3_7 rfl 8 rfl ?_
  refine o_iloadN X0 d3_8 rfl 9 rfl ?_
  refine o_iconst (v := (2 : Int32)) X0 d3_9 rfl 10 rfl ?_
  refine o_idiv X0 d3_10 (by decide) 11 rfl ?_
  refine o_icmpGe X0 d3_11 22 14 (by decide) (by decide) rfl ?_ (fun q => by exfalso; exact absurd q (by decide))
  intro hc11
  refine o_iload X0 d3_22 rfl 24 rfl ?_
  refine o_iloadN X0 d3_24 rfl 25 rfl ?_
  refine o_callS X0 d3_25 (rest := []) (c_bit l Z a0 hw [] n0 _ X0.size xy (5 : Int32) ) (hw _ (List.mem_of_getElem? (i := 31) rfl)) (hw _ (List.mem_of_getElem? (i := 32) rfl)) (hw _ (List.mem_of_getElem? (i := 2) rfl)) (hw _ (List.mem_of_getElem? (i := 33) rfl)) (by decide) 0 (by decide) (by decide) rfl [(.int xy), (.int (5 : Int32))] rfl pd_6 rfl rfl (Nat.le_of_eq rfl) 0 0 rfl rfl (by decide) (by decide) 28 rfl ?_
  rintro _ T1 _ X1 ⟨rfl, rfl⟩
  show OE p e ({ frames := 1, cells := 0, slots := 0, locals := 14 } : Room) below s n0 Q' T1 (mkF m 28 #[.val (.ref xa), .val (.int (5 : Int32)), .val (.int (7 : Int32)), .val (.int xx), .val (.int xy), .unset] [(.int (f_bit xy (5 : Int32)))])
  refine o_istore X1 d3_28 #[.val (.ref xa), .val (.int (5 : Int32)), .val (.int (7 : Int32)), .val (.int xx), .val (.int xy), .val (.int (f_bit xy (5 : Int32)))] rfl 30 rfl ?_
  refine o_aloadN X1 d3_30 rfl rfl 31 rfl ?_
  refine o_iloadN X1 d3_31 rfl 32 rfl ?_
  refine o_baloadZ X1 H0 0 rfl d3_32 5 rfl (f_bit xy (5 : Int32)) rfl 33 rfl ?_
  refine o_iload X1 d3_33 rfl 35 rfl ?_
  refine o_icmpNe X1 d3_35 42 38 (by decide) (by decide) rfl (fun q => by exfalso; exact q rfl) ?_
  intro hc35
  refine o_iconst (v := (1 : Int32)) X1 d3_38 rfl 39 rfl ?_
  refine o_goto X1 d3_39 43 (by decide) (by decide) ?_
  exact o_retZ X1 d3_43 (by decide) (by decide) (hQ _ _ ⟨rfl, rfl⟩)
set_option maxRecDepth 65536 in
set_option maxHeartbeats 40000000 in
theorem c_kept_7_6 (l : Launch) (Z : State) (a0 : Array Value) (hw : ∀ d ∈ tables_1, d.before a0 Z = true) (ws : List Jvm.Cond) (n0 : Nat) (h0 : Heap) (hn0 : n0 ≤ h0.size) (xa : Addr) (xv : Int32) (L' : List (Addr × (Cell → Prop))) (H0 : OL n0 h0 ((xa, OA Z .boolean [(f_bit xv (0 : Int32)), (f_bit xv (1 : Int32)), (f_bit xv (2 : Int32)), (f_bit xv (3 : Int32)), (f_bit xv (4 : Int32)), (f_bit xv (5 : Int32)), (f_bit xv (6 : Int32))]) :: L')) :
    OC l Z (⟨"com/example/eratosthenes/eratosthenes/tune/GeneticSearchHalvesPinLaw", "kept", "([ZIII)Z"⟩ : MethodName) method_5_code 4 (some .boolean) ws ({ frames := 1, cells := 0, slots := 0, locals := 14 } : Room) n0 #[(.ref xa), (.int (6 : Int32)), (.int (7 : Int32)), (.int xv)] h0 (fun r h => r = some (.int 1) ∧ h0 = h) := by
  refine OC.of pn_0 hn0 #[.val (.ref xa), .val (.int (6 : Int32)), .val (.int (7 : Int32)), .val (.int xv)] (fun m => by first | (simp [entryFrame, mkF, argsToLocals, Value.category, maxLocals]; done) | rfl) ?_
  intro p e s m below meth cd0 T0 X0 Q' hQ
  refine o_iloadN X0 d5_0 rfl 1 rfl ?_
  refine o_iloadN X0 d5_1 rfl 2 rfl ?_
  refine o_icmpGe X0 d5_2 16 5 (by decide) (by decide) rfl (fun q => by exfalso; exact absurd q (by decide)) ?_
  intro hc2
  refine o_aloadN X0 d5_5 rfl rfl 6 rfl ?_
  refine o_iloadN X0 d5_6 rfl 7 rfl ?_
  refine o_baloadZ X0 H0 0 rfl d5_7 6 rfl (f_bit xv (6 : Int32)) rfl 8 rfl ?_
  refine o_iloadN X0 d5_8 rfl 9 rfl ?_
  refine o_iloadN X0 d5_9 rfl 10 rfl ?_
  refine o_callS X0 d5_10 (rest := [(.int (f_bit xv (6 : Int32)))]) (c_bit l Z a0 hw [] n0 _ X0.size xv (6 : Int32) ) (hw _ (List.mem_of_getElem? (i := 31) rfl)) (hw _ (List.mem_of_getElem? (i := 32) rfl)) (hw _ (List.mem_of_getElem? (i := 2) rfl)) (hw _ (List.mem_of_getElem? (i := 33) rfl)) (by decide) 1 (by decide) (by decide) rfl [(.int xv), (.int (6 : Int32))] rfl pd_6 rfl rfl (Nat.le_of_eq rfl) 0 0 rfl rfl (by decide) (by decide) 13 rfl ?_
  rintro _ T1 _ X1 ⟨rfl, rfl⟩
  show OE p e ({ frames := 1, cells := 0, slots := 0, locals := 14 } : Room) below s n0 Q' T1 (mkF m 13 #[.val (.ref xa), .val (.int (6 : Int32)), .val (.int (7 : Int32)), .val (.int xv)] [(.int (f_bit xv (6 : Int32))), (.int (f_bit xv (6 : Int32)))])
  refine o_icmpNe X1 d5_13 20 16 (by decide) (by decide) rfl (fun q => by exfalso; exact q rfl) ?_
  intro hc13
  refine o_iconst (v := (1 : Int32)) X1 d5_16 rfl 17 rfl ?_
  refine o_goto X1 d5_17 21 (by decide) (by decide) ?_
  exact o_retZ X1 d5_21 (by decide) (by decide) (hQ _ _ ⟨rfl, rfl⟩)
set_option maxRecDepth 65536 in
set_option maxHeartbeats 40000000 in
theorem c_at_7_6 (l : Launch) (Z : State) (a0 : Array Value) (hw : ∀ d ∈ tables_1, d.before a0 Z = true) (ws : List Jvm.Cond) (n0 : Nat) (h0 : Heap) (hn0 : n0 ≤ h0.size) (xa : Addr) (xx xy : Int32) (L' : List (Addr × (Cell → Prop))) (H0 : OL n0 h0 ((xa, OA Z .boolean [(f_bit xx (0 : Int32)), (f_bit xx (1 : Int32)), (f_bit xx (2 : Int32)), (f_bit xy (3 : Int32)), (f_bit xy (4 : Int32)), (f_bit xy (5 : Int32)), (f_bit xy (6 : Int32))]) :: L')) :
    OC l Z (⟨"com/example/eratosthenes/eratosthenes/tune/GeneticSearchHalvesPinLaw", "at", "([ZIIII)Z"⟩ : MethodName) method_4_code 6 (some .boolean) ws ({ frames := 1, cells := 0, slots := 0, locals := 14 } : Room) n0 #[(.ref xa), (.int (6 : Int32)), (.int (7 : Int32)), (.int xx), (.int xy)] h0 (fun r h => r = some (.int 1) ∧ h0 = h) := by
  refine OC.of pn_0 hn0 #[.val (.ref xa), .val (.int (6 : Int32)), .val (.int (7 : Int32)), .val (.int xx), .val (.int xy), .unset] (fun m => by first | (simp [entryFrame, mkF, argsToLocals, Value.category, maxLocals]; done) | rfl) ?_
  intro p e s m below meth cd0 T0 X0 Q' hQ
  refine o_iloadN X0 d3_0 rfl 1 rfl ?_
  refine o_iloadN X0 d3_1 rfl 2 rfl ?_
  refine o_icmpLt X0 d3_2 7 5 (by decide) (by decide) rfl ?_ (fun q => by exfalso; exact absurd q (by decide))
  intro hc2
  refine o_iloadN X0 d3_7 rfl 8 rfl ?_
  refine o_iloadN X0 d3_8 rfl 9 rfl ?_
  refine o_iconst (v := (2 : Int32)) X0 d3_9 rfl 10 rfl ?_
  refine o_idiv X0 d3_10 (by decide) 11 rfl ?_
  refine o_icmpGe X0 d3_11 22 14 (by decide) (by decide) rfl ?_ (fun q => by exfalso; exact absurd q (by decide))
  intro hc11
  refine o_iload X0 d3_22 rfl 24 rfl ?_
  refine o_iloadN X0 d3_24 rfl 25 rfl ?_
  refine o_callS X0 d3_25 (rest := []) (c_bit l Z a0 hw [] n0 _ X0.size xy (6 : Int32) ) (hw _ (List.mem_of_getElem? (i := 31) rfl)) (hw _ (List.mem_of_getElem? (i := 32) rfl)) (hw _ (List.mem_of_getElem? (i := 2) rfl)) (hw _ (List.mem_of_getElem? (i := 33) rfl)) (by decide) 0 (by decide) (by decide) rfl [(.int xy), (.int (6 : Int32))] rfl pd_6 rfl rfl (Nat.le_of_eq rfl) 0 0 rfl rfl (by decide) (by decide) 28 rfl ?_
  rintro _ T1 _ X1 ⟨rfl, rfl⟩
  show OE p e ({ frames := 1, cells := 0, slots := 0, locals := 14 } : Room) below s n0 Q' T1 (mkF m 28 #[.val (.ref xa), .val (.int (6 : Int32)), .val (.int (7 : Int32)), .val (.int xx), .val (.int xy), .unset] [(.int (f_bit xy (6 : Int32)))])
  refine o_istore X1 d3_28 #[.val (.ref xa), .val (.int (6 : Int32)), .val (.int (7 : Int32)), .val (.int xx), .val (.int xy), .val (.int (f_bit xy (6 : Int32)))] rfl 30 rfl ?_
  refine o_aloadN X1 d3_30 rfl rfl 31 rfl ?_
  refine o_iloadN X1 d3_31 rfl 32 rfl ?_
  refine o_baloadZ X1 H0 0 rfl d3_32 6 rfl (f_bit xy (6 : Int32)) rfl 33 rfl ?_
  refine o_iload X1 d3_33 rfl 35 rfl ?_
  refine o_icmpNe X1 d3_35 42 38 (by decide) (by decide) rfl (fun q => by exfalso; exact q rfl) ?_
  intro hc35
  refine o_iconst (v := (1 : Int32)) X1 d3_38 rfl 39 rfl ?_
  refine o_goto X1 d3_39 43 (by decide) (by decide) ?_
  exact o_retZ X1 d3_43 (by decide) (by decide) (hQ _ _ ⟨rfl, rfl⟩)
set_option maxRecDepth 65536 in
set_option maxHeartbeats 40000000 in
theorem c_make_0 (l : Launch) (Z : State) (a0 : Array Value) (hw : ∀ d ∈ tables_1, d.before a0 Z = true) (ws : List Jvm.Cond) (n0 : Nat) (h0 : Heap) (hn0 : n0 ≤ h0.size) (xv : Int32) (L' : List (Addr × (Cell → Prop))) (H0 : OL n0 h0 L') :
    OC l Z (⟨"com/example/eratosthenes/eratosthenes/tune/GeneticSearchHalvesPinLaw", "make", "(II)[Z"⟩ : MethodName) method_3_code 3 (some (.array .boolean)) ws ({ frames := 1, cells := 1, slots := 0, locals := 15 } : Room) n0 #[(.int xv), (.int (0 : Int32))] h0 (fun r h => ∃ a, r = some (.ref a) ∧ OL n0 h ((a, OA Z .boolean []) :: L')) := by
  refine OC.of pn_0 hn0 #[.val (.int xv), .val (.int (0 : Int32)), .unset] (fun m => by first | (simp [entryFrame, mkF, argsToLocals, Value.category, maxLocals]; done) | rfl) ?_
  intro p e s m below meth cd0 T0 X0 Q' hQ
  refine o_iloadN X0 d1_0 rfl 1 rfl ?_
  refine o_newarray (L := L') X0 H0 d1_1 (hw _ (List.mem_of_getElem? (i := 4) rfl)) rfl rfl 0 0 rfl (by decide) (by decide) 1 0 rfl rfl (by decide) (by decide) 3 rfl ?_
  intro T1 h1 b1 X1 H1
  replace H1 : OL n0 h1 ((b1, OA Z .boolean []) :: L') := H1
  refine o_astoreN X1 d1_3 rfl #[.val (.int xv), .val (.int (0 : Int32)), .val (.ref b1)] rfl 4 rfl ?_
  refine o_iloadN X1 d1_4 rfl 5 rfl ?_
  refine o_ifLe X1 d1_5 16 8 (by decide) (by decide) rfl ?_ (fun q => by exfalso; exact absurd q (by decide))
  intro hc5
  refine o_iloadN X1 d1_16 rfl 17 rfl ?_
  refine o_iconst (v := (1 : Int32)) X1 d1_17 rfl 18 rfl ?_
  refine o_icmpLe X1 d1_18 29 21 (by decide) (by decide) rfl ?_ (fun q => by exfalso; exact absurd q (by decide))
  intro hc18
  refine o_iloadN X1 d1_29 rfl 30 rfl ?_
  refine o_iconst (v := (2 : Int32)) X1 d1_30 rfl 31 rfl ?_
  refine o_icmpLe X1 d1_31 42 34 (by decide) (by decide) rfl ?_ (fun q => by exfalso; exact absurd q (by decide))
  intro hc31
  refine o_iloadN X1 d1_42 rfl 43 rfl ?_
  refine o_iconst (v := (3 : Int32)) X1 d1_43 rfl 44 rfl ?_
  refine o_icmpLe X1 d1_44 55 47 (by decide) (by decide) rfl ?_ (fun q => by exfalso; exact absurd q (by decide))
  intro hc44
  refine o_iloadN X1 d1_55 rfl 56 rfl ?_
  refine o_iconst (v := (4 : Int32)) X1 d1_56 rfl 57 rfl ?_
  refine o_icmpLe X1 d1_57 68 60 (by decide) (by decide) rfl ?_ (fun q => by exfalso; exact absurd q (by decide))
  intro hc57
  refine o_iloadN X1 d1_68 rfl 69 rfl ?_
  refine o_iconst (v := (5 : Int32)) X1 d1_69 rfl 70 rfl ?_
  refine o_icmpLe X1 d1_70 81 73 (by decide) (by decide) rfl ?_ (fun q => by exfalso; exact absurd q (by decide))
  intro hc70
  refine o_iloadN X1 d1_81 rfl 82 rfl ?_
  refine o_bipush (v := (6 : Int32)) X1 d1_82 rfl 84 rfl ?_
  refine o_icmpLe X1 d1_84 97 87 (by decide) (by decide) rfl ?_ (fun q => by exfalso; exact absurd q (by decide))
  intro hc84
  refine o_aloadN X1 d1_97 rfl rfl 98 rfl ?_
  exact o_retA X1 rfl rfl d1_98 (by decide) (by decide) (hQ _ _ ⟨_, rfl, H1⟩)
set_option maxRecDepth 65536 in
set_option maxHeartbeats 40000000 in
theorem c_halves_0 (l : Launch) (Z : State) (a0 : Array Value) (hw : ∀ d ∈ tables_1, d.before a0 Z = true) (ws : List Jvm.Cond) (n0 : Nat) (h0 : Heap) (hn0 : n0 ≤ h0.size) (xa xb : Addr) (xx xy : Int32) (L' : List (Addr × (Cell → Prop))) (H0 : OL n0 h0 ((xa, OA Z .boolean []) :: (xb, OA Z .boolean []) :: L')) :
    OC l Z (⟨"com/example/eratosthenes/eratosthenes/tune/GeneticSearch", "halves", "([Z[Z)[Z"⟩ : MethodName) prog_27_method_4_code 3 (some (.array .boolean)) ws ({ frames := 1, cells := 1, slots := 0, locals := 32 } : Room) n0 #[(.ref xa), (.ref xb)] h0 (fun r h => ∃ a, r = some (.ref a) ∧ OL n0 h ((a, OA Z .boolean []) :: (xa, OA Z .boolean []) :: (xb, OA Z .boolean []) :: L')) := by
  refine OC.of pn_1 hn0 #[.val (.ref xa), .val (.ref xb), .unset] (fun m => by first | (simp [entryFrame, mkF, argsToLocals, Value.category, maxLocals]; done) | rfl) ?_
  intro p e s m below meth cd0 T0 X0 Q' hQ
  refine o_aloadN X0 d2_0 rfl rfl 1 rfl ?_
  refine o_clone X0 H0 1 rfl d2_1 (by decide) (hw _ (List.mem_of_getElem? (i := 9) rfl)) (hw _ (List.mem_of_getElem? (i := 10) rfl)) (hw _ (List.mem_of_getElem? (i := 14) rfl)) (hw _ (List.mem_of_getElem? (i := 12) rfl)) (hw _ (List.mem_of_getElem? (i := 13) rfl)) (hw _ (List.mem_of_getElem? (i := 15) rfl)) (by show 0 < 2 ^ 31; decide) 0 (by show 0 ≤ 0; decide) rfl (by decide) 0 (Nat.le_of_eq rfl) (by decide) 1 0 rfl rfl (by decide) (by decide) 4 rfl ?_
  intro T1 h1 b1 X1 H1
  refine o_checkcast X1 H1 0 rfl d2_4 (by decide) (hw _ (List.mem_of_getElem? (i := 16) rfl)) 7 rfl ?_
  intro T2 X2
  refine o_astoreN X2 d2_7 rfl #[.val (.ref xa), .val (.ref xb), .val (.ref b1)] rfl 8 rfl ?_
  refine o_aloadN X2 d2_8 rfl rfl 9 rfl ?_
  refine o_iconst (v := (0 : Int32)) X2 d2_9 rfl 10 rfl ?_
  refine o_aloadN X2 d2_10 rfl rfl 11 rfl ?_
  refine o_iconst (v := (0 : Int32)) X2 d2_11 rfl 12 rfl ?_
  refine o_aloadN X2 d2_12 rfl rfl 13 rfl ?_
  refine o_arraylength X2 H1 1 rfl d2_13 (0 : Int32) rfl 14 rfl ?_
  refine o_iconst (v := (2 : Int32)) X2 d2_14 rfl 15 rfl ?_
  refine o_idiv X2 d2_15 (by decide) 16 rfl ?_
  refine o_arraycopy X2 H1 1 0 rfl rfl d2_16 (hw _ (List.mem_of_getElem? (i := 18) rfl)) (hw _ (List.mem_of_getElem? (i := 21) rfl)) (hw _ (List.mem_of_getElem? (i := 19) rfl)) (hw _ (List.mem_of_getElem? (i := 20) rfl)) rfl (by show 0 < 2 ^ 31; decide) (by show 0 < 2 ^ 31; decide) 0 0 0 rfl rfl rfl (by show 0 ≤ 0; decide) (by show 0 ≤ 0; decide) rfl (by decide) 0 (Nat.le_of_eq rfl) (by decide) 19 rfl ?_
  intro T3 h3 X3 H3
  replace H3 : OL n0 h3 ((b1, OA Z .boolean []) :: (xa, OA Z .boolean []) :: (xb, OA Z .boolean []) :: L') := H3
  refine o_aloadN X3 d2_19 rfl rfl 20 rfl ?_
  exact o_retA X3 rfl rfl d2_20 (by decide) (by decide) (hQ _ _ ⟨_, rfl, H3⟩)
set_option maxRecDepth 65536 in
set_option maxHeartbeats 40000000 in
theorem c_all_0 (l : Launch) (Z : State) (a0 : Array Value) (hw : ∀ d ∈ tables_1, d.before a0 Z = true) (ws : List Jvm.Cond) (n0 : Nat) (h0 : Heap) (hn0 : n0 ≤ h0.size) (xa : Addr) (xv : Int32) (L' : List (Addr × (Cell → Prop))) (H0 : OL n0 h0 ((xa, OA Z .boolean []) :: L')) :
    OC l Z (⟨"com/example/eratosthenes/eratosthenes/tune/GeneticSearchHalvesPinLaw", "allKept", "([ZII)Z"⟩ : MethodName) method_6_code 3 (some .boolean) ws ({ frames := 2, cells := 0, slots := 0, locals := 29 } : Room) n0 #[(.ref xa), (.int (0 : Int32)), (.int xv)] h0 (fun r h => r = some (.int 1) ∧ h0 = h) := by
  refine OC.of pn_0 hn0 #[.val (.ref xa), .val (.int (0 : Int32)), .val (.int xv)] (fun m => by first | (simp [entryFrame, mkF, argsToLocals, Value.category, maxLocals]; done) | rfl) ?_
  intro p e s m below meth cd0 T0 X0 Q' hQ
  refine o_aloadN X0 d4_0 rfl rfl 1 rfl ?_
  refine o_iconst (v := (0 : Int32)) X0 d4_1 rfl 2 rfl ?_
  refine o_iloadN X0 d4_2 rfl 3 rfl ?_
  refine o_iloadN X0 d4_3 rfl 4 rfl ?_
  refine o_callS X0 d4_4 (rest := []) (c_kept_0_0 l Z a0 hw [] n0 _ X0.size xa xv L' H0) (hw _ (List.mem_of_getElem? (i := 28) rfl)) (hw _ (List.mem_of_getElem? (i := 29) rfl)) (hw _ (List.mem_of_getElem? (i := 2) rfl)) (hw _ (List.mem_of_getElem? (i := 30) rfl)) (by decide) 0 (by decide) (by decide) rfl [(.ref xa), (.int (0 : Int32)), (.int (0 : Int32)), (.int xv)] rfl pd_5 rfl rfl (Nat.le_of_eq rfl) 0 0 rfl rfl (by decide) (by decide) 7 rfl ?_
  rintro _ T1 _ X1 ⟨rfl, rfl⟩
  show OE p e ({ frames := 2, cells := 0, slots := 0, locals := 29 } : Room) below s n0 Q' T1 (mkF m 7 #[.val (.ref xa), .val (.int (0 : Int32)), .val (.int xv)] [(.int (1 : Int32))])
  refine o_ifEq X1 d4_7 75 10 (by decide) (by decide) rfl (fun q => by exfalso; exact absurd q (by decide)) ?_
  intro hc7
  refine o_aloadN X1 d4_10 rfl rfl 11 rfl ?_
  refine o_iconst (v := (1 : Int32)) X1 d4_11 rfl 12 rfl ?_
  refine o_iloadN X1 d4_12 rfl 13 rfl ?_
  refine o_iloadN X1 d4_13 rfl 14 rfl ?_
  refine o_callS X1 d4_14 (rest := []) (c_kept_0_1 l Z a0 hw [] n0 _ X1.size xa xv L' H0) (hw _ (List.mem_of_getElem? (i := 28) rfl)) (hw _ (List.mem_of_getElem? (i := 29) rfl)) (hw _ (List.mem_of_getElem? (i := 2) rfl)) (hw _ (List.mem_of_getElem? (i := 30) rfl)) (by decide) 0 (by decide) (by decide) rfl [(.ref xa), (.int (1 : Int32)), (.int (0 : Int32)), (.int xv)] rfl pd_5 rfl rfl (Nat.le_of_eq rfl) 0 0 rfl rfl (by decide) (by decide) 17 rfl ?_
  rintro _ T2 _ X2 ⟨rfl, rfl⟩
  show OE p e ({ frames := 2, cells := 0, slots := 0, locals := 29 } : Room) below s n0 Q' T2 (mkF m 17 #[.val (.ref xa), .val (.int (0 : Int32)), .val (.int xv)] [(.int (1 : Int32))])
  refine o_ifEq X2 d4_17 75 20 (by decide) (by decide) rfl (fun q => by exfalso; exact absurd q (by decide)) ?_
  intro hc17
  refine o_aloadN X2 d4_20 rfl rfl 21 rfl ?_
  refine o_iconst (v := (2 : Int32)) X2 d4_21 rfl 22 rfl ?_
  refine o_iloadN X2 d4_22 rfl 23 rfl ?_
  refine o_iloadN X2 d4_23 rfl 24 rfl ?_
  refine o_callS X2 d4_24 (rest := []) (c_kept_0_2 l Z a0 hw [] n0 _ X2.size xa xv L' H0) (hw _ (List.mem_of_getElem? (i := 28) rfl)) (hw _ (List.mem_of_getElem? (i := 29) rfl)) (hw _ (List.mem_of_getElem? (i := 2) rfl)) (hw _ (List.mem_of_getElem? (i := 30) rfl)) (by decide) 0 (by decide) (by decide) rfl [(.ref xa), (.int (2 : Int32)), (.int (0 : Int32)), (.int xv)] rfl pd_5 rfl rfl (Nat.le_of_eq rfl) 0 0 rfl rfl (by decide) (by decide) 27 rfl ?_
  rintro _ T3 _ X3 ⟨rfl, rfl⟩
  show OE p e ({ frames := 2, cells := 0, slots := 0, locals := 29 } : Room) below s n0 Q' T3 (mkF m 27 #[.val (.ref xa), .val (.int (0 : Int32)), .val (.int xv)] [(.int (1 : Int32))])
  refine o_ifEq X3 d4_27 75 30 (by decide) (by decide) rfl (fun q => by exfalso; exact absurd q (by decide)) ?_
  intro hc27
  refine o_aloadN X3 d4_30 rfl rfl 31 rfl ?_
  refine o_iconst (v := (3 : Int32)) X3 d4_31 rfl 32 rfl ?_
  refine o_iloadN X3 d4_32 rfl 33 rfl ?_
  refine o_iloadN X3 d4_33 rfl 34 rfl ?_
  refine o_callS X3 d4_34 (rest := []) (c_kept_0_3 l Z a0 hw [] n0 _ X3.size xa xv L' H0) (hw _ (List.mem_of_getElem? (i := 28) rfl)) (hw _ (List.mem_of_getElem? (i := 29) rfl)) (hw _ (List.mem_of_getElem? (i := 2) rfl)) (hw _ (List.mem_of_getElem? (i := 30) rfl)) (by decide) 0 (by decide) (by decide) rfl [(.ref xa), (.int (3 : Int32)), (.int (0 : Int32)), (.int xv)] rfl pd_5 rfl rfl (Nat.le_of_eq rfl) 0 0 rfl rfl (by decide) (by decide) 37 rfl ?_
  rintro _ T4 _ X4 ⟨rfl, rfl⟩
  show OE p e ({ frames := 2, cells := 0, slots := 0, locals := 29 } : Room) below s n0 Q' T4 (mkF m 37 #[.val (.ref xa), .val (.int (0 : Int32)), .val (.int xv)] [(.int (1 : Int32))])
  refine o_ifEq X4 d4_37 75 40 (by decide) (by decide) rfl (fun q => by exfalso; exact absurd q (by decide)) ?_
  intro hc37
  refine o_aloadN X4 d4_40 rfl rfl 41 rfl ?_
  refine o_iconst (v := (4 : Int32)) X4 d4_41 rfl 42 rfl ?_
  refine o_iloadN X4 d4_42 rfl 43 rfl ?_
  refine o_iloadN X4 d4_43 rfl 44 rfl ?_
  refine o_callS X4 d4_44 (rest := []) (c_kept_0_4 l Z a0 hw [] n0 _ X4.size xa xv L' H0) (hw _ (List.mem_of_getElem? (i := 28) rfl)) (hw _ (List.mem_of_getElem? (i := 29) rfl)) (hw _ (List.mem_of_getElem? (i := 2) rfl)) (hw _ (List.mem_of_getElem? (i := 30) rfl)) (by decide) 0 (by decide) (by decide) rfl [(.ref xa), (.int (4 : Int32)), (.int (0 : Int32)), (.int xv)] rfl pd_5 rfl rfl (Nat.le_of_eq rfl) 0 0 rfl rfl (by decide) (by decide) 47 rfl ?_
  rintro _ T5 _ X5 ⟨rfl, rfl⟩
  show OE p e ({ frames := 2, cells := 0, slots := 0, locals := 29 } : Room) below s n0 Q' T5 (mkF m 47 #[.val (.ref xa), .val (.int (0 : Int32)), .val (.int xv)] [(.int (1 : Int32))])
  refine o_ifEq X5 d4_47 75 50 (by decide) (by decide) rfl (fun q => by exfalso; exact absurd q (by decide)) ?_
  intro hc47
  refine o_aloadN X5 d4_50 rfl rfl 51 rfl ?_
  refine o_iconst (v := (5 : Int32)) X5 d4_51 rfl 52 rfl ?_
  refine o_iloadN X5 d4_52 rfl 53 rfl ?_
  refine o_iloadN X5 d4_53 rfl 54 rfl ?_
  refine o_callS X5 d4_54 (rest := []) (c_kept_0_5 l Z a0 hw [] n0 _ X5.size xa xv L' H0) (hw _ (List.mem_of_getElem? (i := 28) rfl)) (hw _ (List.mem_of_getElem? (i := 29) rfl)) (hw _ (List.mem_of_getElem? (i := 2) rfl)) (hw _ (List.mem_of_getElem? (i := 30) rfl)) (by decide) 0 (by decide) (by decide) rfl [(.ref xa), (.int (5 : Int32)), (.int (0 : Int32)), (.int xv)] rfl pd_5 rfl rfl (Nat.le_of_eq rfl) 0 0 rfl rfl (by decide) (by decide) 57 rfl ?_
  rintro _ T6 _ X6 ⟨rfl, rfl⟩
  show OE p e ({ frames := 2, cells := 0, slots := 0, locals := 29 } : Room) below s n0 Q' T6 (mkF m 57 #[.val (.ref xa), .val (.int (0 : Int32)), .val (.int xv)] [(.int (1 : Int32))])
  refine o_ifEq X6 d4_57 75 60 (by decide) (by decide) rfl (fun q => by exfalso; exact absurd q (by decide)) ?_
  intro hc57
  refine o_aloadN X6 d4_60 rfl rfl 61 rfl ?_
  refine o_bipush (v := (6 : Int32)) X6 d4_61 rfl 63 rfl ?_
  refine o_iloadN X6 d4_63 rfl 64 rfl ?_
  refine o_iloadN X6 d4_64 rfl 65 rfl ?_
  refine o_callS X6 d4_65 (rest := []) (c_kept_0_6 l Z a0 hw [] n0 _ X6.size xa xv L' H0) (hw _ (List.mem_of_getElem? (i := 28) rfl)) (hw _ (List.mem_of_getElem? (i := 29) rfl)) (hw _ (List.mem_of_getElem? (i := 2) rfl)) (hw _ (List.mem_of_getElem? (i := 30) rfl)) (by decide) 0 (by decide) (by decide) rfl [(.ref xa), (.int (6 : Int32)), (.int (0 : Int32)), (.int xv)] rfl pd_5 rfl rfl (Nat.le_of_eq rfl) 0 0 rfl rfl (by decide) (by decide) 68 rfl ?_
  rintro _ T7 _ X7 ⟨rfl, rfl⟩
  show OE p e ({ frames := 2, cells := 0, slots := 0, locals := 29 } : Room) below s n0 Q' T7 (mkF m 68 #[.val (.ref xa), .val (.int (0 : Int32)), .val (.int xv)] [(.int (1 : Int32))])
  refine o_ifEq X7 d4_68 75 71 (by decide) (by decide) rfl (fun q => by exfalso; exact absurd q (by decide)) ?_
  intro hc68
  refine o_iconst (v := (1 : Int32)) X7 d4_71 rfl 72 rfl ?_
  refine o_goto X7 d4_72 76 (by decide) (by decide) ?_
  exact o_retZ X7 d4_76 (by decide) (by decide) (hQ _ _ ⟨rfl, rfl⟩)
set_option maxRecDepth 65536 in
set_option maxHeartbeats 40000000 in
theorem c_make_1 (l : Launch) (Z : State) (a0 : Array Value) (hw : ∀ d ∈ tables_1, d.before a0 Z = true) (ws : List Jvm.Cond) (n0 : Nat) (h0 : Heap) (hn0 : n0 ≤ h0.size) (xv : Int32) (L' : List (Addr × (Cell → Prop))) (H0 : OL n0 h0 L') :
    OC l Z (⟨"com/example/eratosthenes/eratosthenes/tune/GeneticSearchHalvesPinLaw", "make", "(II)[Z"⟩ : MethodName) method_3_code 3 (some (.array .boolean)) ws ({ frames := 1, cells := 1, slots := 1, locals := 15 } : Room) n0 #[(.int xv), (.int (1 : Int32))] h0 (fun r h => ∃ a, r = some (.ref a) ∧ OL n0 h ((a, OA Z .boolean [(f_bit xv (0 : Int32))]) :: L')) := by
  refine OC.of pn_0 hn0 #[.val (.int xv), .val (.int (1 : Int32)), .unset] (fun m => by first | (simp [entryFrame, mkF, argsToLocals, Value.category, maxLocals]; done) | rfl) ?_
  intro p e s m below meth cd0 T0 X0 Q' hQ
  refine o_iloadN X0 d1_0 rfl 1 rfl ?_
  refine o_newarray (L := L') X0 H0 d1_1 (hw _ (List.mem_of_getElem? (i := 4) rfl)) rfl rfl 1 1 rfl (by decide) (by decide) 1 1 rfl rfl (by decide) (by decide) 3 rfl ?_
  intro T1 h1 b1 X1 H1
  replace H1 : OL n0 h1 ((b1, OA Z .boolean [(0 : Int32)]) :: L') := H1
  refine o_astoreN X1 d1_3 rfl #[.val (.int xv), .val (.int (1 : Int32)), .val (.ref b1)] rfl 4 rfl ?_
  refine o_iloadN X1 d1_4 rfl 5 rfl ?_
  refine o_ifLe X1 d1_5 16 8 (by decide) (by decide) rfl (fun q => by exfalso; exact absurd q (by decide)) ?_
  intro hc5
  refine o_aloadN X1 d1_8 rfl rfl 9 rfl ?_
  refine o_iconst (v := (0 : Int32)) X1 d1_9 rfl 10 rfl ?_
  refine o_iloadN X1 d1_10 rfl 11 rfl ?_
  refine o_iconst (v := (0 : Int32)) X1 d1_11 rfl 12 rfl ?_
  refine o_callS X1 d1_12 (rest := [(.int (0 : Int32)), (.ref b1)]) (c_bit l Z a0 hw [] n0 _ X1.size xv (0 : Int32) ) (hw _ (List.mem_of_getElem? (i := 31) rfl)) (hw _ (List.mem_of_getElem? (i := 32) rfl)) (hw _ (List.mem_of_getElem? (i := 2) rfl)) (hw _ (List.mem_of_getElem? (i := 33) rfl)) (by decide) 2 (by decide) (by decide) rfl [(.int xv), (.int (0 : Int32))] rfl pd_6 rfl rfl (Nat.le_of_eq rfl) 1 1 rfl rfl (by decide) (by decide) 15 rfl ?_
  rintro _ T2 _ X2 ⟨rfl, rfl⟩
  show OE p e ({ frames := 1, cells := 1, slots := 1, locals := 15 } : Room) below s n0 Q' T2 (mkF m 15 #[.val (.int xv), .val (.int (1 : Int32)), .val (.ref b1)] [(.int (f_bit xv (0 : Int32))), (.int (0 : Int32)), (.ref b1)])
  refine o_bastoreZ X2 H1 0 rfl d1_15 0 rfl (by show 0 < 1; decide) (f_bit xv (0 : Int32)) (v_nar _ _) 16 rfl ?_
  intro T3 h3 X3 H3
  replace H3 : OL n0 h3 ((b1, OA Z .boolean [(f_bit xv (0 : Int32))]) :: L') := H3
  refine o_iloadN X3 d1_16 rfl 17 rfl ?_
  refine o_iconst (v := (1 : Int32)) X3 d1_17 rfl 18 rfl ?_
  refine o_icmpLe X3 d1_18 29 21 (by decide) (by decide) rfl ?_ (fun q => by exfalso; exact absurd q (by decide))
  intro hc18
  refine o_iloadN X3 d1_29 rfl 30 rfl ?_
  refine o_iconst (v := (2 : Int32)) X3 d1_30 rfl 31 rfl ?_
  refine o_icmpLe X3 d1_31 42 34 (by decide) (by decide) rfl ?_ (fun q => by exfalso; exact absurd q (by decide))
  intro hc31
  refine o_iloadN X3 d1_42 rfl 43 rfl ?_
  refine o_iconst (v := (3 : Int32)) X3 d1_43 rfl 44 rfl ?_
  refine o_icmpLe X3 d1_44 55 47 (by decide) (by decide) rfl ?_ (fun q => by exfalso; exact absurd q (by decide))
  intro hc44
  refine o_iloadN X3 d1_55 rfl 56 rfl ?_
  refine o_iconst (v := (4 : Int32)) X3 d1_56 rfl 57 rfl ?_
  refine o_icmpLe X3 d1_57 68 60 (by decide) (by decide) rfl ?_ (fun q => by exfalso; exact absurd q (by decide))
  intro hc57
  refine o_iloadN X3 d1_68 rfl 69 rfl ?_
  refine o_iconst (v := (5 : Int32)) X3 d1_69 rfl 70 rfl ?_
  refine o_icmpLe X3 d1_70 81 73 (by decide) (by decide) rfl ?_ (fun q => by exfalso; exact absurd q (by decide))
  intro hc70
  refine o_iloadN X3 d1_81 rfl 82 rfl ?_
  refine o_bipush (v := (6 : Int32)) X3 d1_82 rfl 84 rfl ?_
  refine o_icmpLe X3 d1_84 97 87 (by decide) (by decide) rfl ?_ (fun q => by exfalso; exact absurd q (by decide))
  intro hc84
  refine o_aloadN X3 d1_97 rfl rfl 98 rfl ?_
  exact o_retA X3 rfl rfl d1_98 (by decide) (by decide) (hQ _ _ ⟨_, rfl, H3⟩)
set_option maxRecDepth 65536 in
set_option maxHeartbeats 40000000 in
theorem c_halves_1 (l : Launch) (Z : State) (a0 : Array Value) (hw : ∀ d ∈ tables_1, d.before a0 Z = true) (ws : List Jvm.Cond) (n0 : Nat) (h0 : Heap) (hn0 : n0 ≤ h0.size) (xa xb : Addr) (xx xy : Int32) (L' : List (Addr × (Cell → Prop))) (H0 : OL n0 h0 ((xa, OA Z .boolean [(f_bit xx (0 : Int32))]) :: (xb, OA Z .boolean [(f_bit xy (0 : Int32))]) :: L')) :
    OC l Z (⟨"com/example/eratosthenes/eratosthenes/tune/GeneticSearch", "halves", "([Z[Z)[Z"⟩ : MethodName) prog_27_method_4_code 3 (some (.array .boolean)) ws ({ frames := 1, cells := 1, slots := 1, locals := 32 } : Room) n0 #[(.ref xa), (.ref xb)] h0 (fun r h => ∃ a, r = some (.ref a) ∧ OL n0 h ((a, OA Z .boolean [(f_bit xy (0 : Int32))]) :: (xa, OA Z .boolean [(f_bit xx (0 : Int32))]) :: (xb, OA Z .boolean [(f_bit xy (0 : Int32))]) :: L')) := by
  refine OC.of pn_1 hn0 #[.val (.ref xa), .val (.ref xb), .unset] (fun m => by first | (simp [entryFrame, mkF, argsToLocals, Value.category, maxLocals]; done) | rfl) ?_
  intro p e s m below meth cd0 T0 X0 Q' hQ
  refine o_aloadN X0 d2_0 rfl rfl 1 rfl ?_
  refine o_clone X0 H0 1 rfl d2_1 (by decide) (hw _ (List.mem_of_getElem? (i := 9) rfl)) (hw _ (List.mem_of_getElem? (i := 10) rfl)) (hw _ (List.mem_of_getElem? (i := 14) rfl)) (hw _ (List.mem_of_getElem? (i := 12) rfl)) (hw _ (List.mem_of_getElem? (i := 13) rfl)) (hw _ (List.mem_of_getElem? (i := 15) rfl)) (by show 1 < 2 ^ 31; decide) 1 (by show 1 ≤ 1; decide) rfl (by decide) 0 (Nat.le_of_eq rfl) (by decide) 1 1 rfl rfl (by decide) (by decide) 4 rfl ?_
  intro T1 h1 b1 X1 H1
  refine o_checkcast X1 H1 0 rfl d2_4 (by decide) (hw _ (List.mem_of_getElem? (i := 16) rfl)) 7 rfl ?_
  intro T2 X2
  refine o_astoreN X2 d2_7 rfl #[.val (.ref xa), .val (.ref xb), .val (.ref b1)] rfl 8 rfl ?_
  refine o_aloadN X2 d2_8 rfl rfl 9 rfl ?_
  refine o_iconst (v := (0 : Int32)) X2 d2_9 rfl 10 rfl ?_
  refine o_aloadN X2 d2_10 rfl rfl 11 rfl ?_
  refine o_iconst (v := (0 : Int32)) X2 d2_11 rfl 12 rfl ?_
  refine o_aloadN X2 d2_12 rfl rfl 13 rfl ?_
  refine o_arraylength X2 H1 1 rfl d2_13 (1 : Int32) rfl 14 rfl ?_
  refine o_iconst (v := (2 : Int32)) X2 d2_14 rfl 15 rfl ?_
  refine o_idiv X2 d2_15 (by decide) 16 rfl ?_
  refine o_arraycopy X2 H1 1 0 rfl rfl d2_16 (hw _ (List.mem_of_getElem? (i := 18) rfl)) (hw _ (List.mem_of_getElem? (i := 21) rfl)) (hw _ (List.mem_of_getElem? (i := 19) rfl)) (hw _ (List.mem_of_getElem? (i := 20) rfl)) rfl (by show 1 < 2 ^ 31; decide) (by show 1 < 2 ^ 31; decide) 0 0 0 rfl rfl rfl (by show 0 ≤ 1; decide) (by show 0 ≤ 1; decide) rfl (by decide) 0 (Nat.le_of_eq rfl) (by decide) 19 rfl ?_
  intro T3 h3 X3 H3
  replace H3 : OL n0 h3 ((b1, OA Z .boolean [(f_bit xy (0 : Int32))]) :: (xa, OA Z .boolean [(f_bit xx (0 : Int32))]) :: (xb, OA Z .boolean [(f_bit xy (0 : Int32))]) :: L') := H3
  refine o_aloadN X3 d2_19 rfl rfl 20 rfl ?_
  exact o_retA X3 rfl rfl d2_20 (by decide) (by decide) (hQ _ _ ⟨_, rfl, H3⟩)
set_option maxRecDepth 65536 in
set_option maxHeartbeats 40000000 in
theorem c_all_1 (l : Launch) (Z : State) (a0 : Array Value) (hw : ∀ d ∈ tables_1, d.before a0 Z = true) (ws : List Jvm.Cond) (n0 : Nat) (h0 : Heap) (hn0 : n0 ≤ h0.size) (xa : Addr) (xv : Int32) (L' : List (Addr × (Cell → Prop))) (H0 : OL n0 h0 ((xa, OA Z .boolean [(f_bit xv (0 : Int32))]) :: L')) :
    OC l Z (⟨"com/example/eratosthenes/eratosthenes/tune/GeneticSearchHalvesPinLaw", "allKept", "([ZII)Z"⟩ : MethodName) method_6_code 3 (some .boolean) ws ({ frames := 2, cells := 0, slots := 0, locals := 29 } : Room) n0 #[(.ref xa), (.int (1 : Int32)), (.int xv)] h0 (fun r h => r = some (.int 1) ∧ h0 = h) := by
  refine OC.of pn_0 hn0 #[.val (.ref xa), .val (.int (1 : Int32)), .val (.int xv)] (fun m => by first | (simp [entryFrame, mkF, argsToLocals, Value.category, maxLocals]; done) | rfl) ?_
  intro p e s m below meth cd0 T0 X0 Q' hQ
  refine o_aloadN X0 d4_0 rfl rfl 1 rfl ?_
  refine o_iconst (v := (0 : Int32)) X0 d4_1 rfl 2 rfl ?_
  refine o_iloadN X0 d4_2 rfl 3 rfl ?_
  refine o_iloadN X0 d4_3 rfl 4 rfl ?_
  refine o_callS X0 d4_4 (rest := []) (c_kept_1_0 l Z a0 hw [] n0 _ X0.size xa xv L' H0) (hw _ (List.mem_of_getElem? (i := 28) rfl)) (hw _ (List.mem_of_getElem? (i := 29) rfl)) (hw _ (List.mem_of_getElem? (i := 2) rfl)) (hw _ (List.mem_of_getElem? (i := 30) rfl)) (by decide) 0 (by decide) (by decide) rfl [(.ref xa), (.int (0 : Int32)), (.int (1 : Int32)), (.int xv)] rfl pd_5 rfl rfl (Nat.le_of_eq rfl) 0 0 rfl rfl (by decide) (by decide) 7 rfl ?_
  rintro _ T1 _ X1 ⟨rfl, rfl⟩
  show OE p e ({ frames := 2, cells := 0, slots := 0, locals := 29 } : Room) below s n0 Q' T1 (mkF m 7 #[.val (.ref xa), .val (.int (1 : Int32)), .val (.int xv)] [(.int (1 : Int32))])
  refine o_ifEq X1 d4_7 75 10 (by decide) (by decide) rfl (fun q => by exfalso; exact absurd q (by decide)) ?_
  intro hc7
  refine o_aloadN X1 d4_10 rfl rfl 11 rfl ?_
  refine o_iconst (v := (1 : Int32)) X1 d4_11 rfl 12 rfl ?_
  refine o_iloadN X1 d4_12 rfl 13 rfl ?_
  refine o_iloadN X1 d4_13 rfl 14 rfl ?_
  refine o_callS X1 d4_14 (rest := []) (c_kept_1_1 l Z a0 hw [] n0 _ X1.size xa xv L' H0) (hw _ (List.mem_of_getElem? (i := 28) rfl)) (hw _ (List.mem_of_getElem? (i := 29) rfl)) (hw _ (List.mem_of_getElem? (i := 2) rfl)) (hw _ (List.mem_of_getElem? (i := 30) rfl)) (by decide) 0 (by decide) (by decide) rfl [(.ref xa), (.int (1 : Int32)), (.int (1 : Int32)), (.int xv)] rfl pd_5 rfl rfl (Nat.le_of_eq rfl) 0 0 rfl rfl (by decide) (by decide) 17 rfl ?_
  rintro _ T2 _ X2 ⟨rfl, rfl⟩
  show OE p e ({ frames := 2, cells := 0, slots := 0, locals := 29 } : Room) below s n0 Q' T2 (mkF m 17 #[.val (.ref xa), .val (.int (1 : Int32)), .val (.int xv)] [(.int (1 : Int32))])
  refine o_ifEq X2 d4_17 75 20 (by decide) (by decide) rfl (fun q => by exfalso; exact absurd q (by decide)) ?_
  intro hc17
  refine o_aloadN X2 d4_20 rfl rfl 21 rfl ?_
  refine o_iconst (v := (2 : Int32)) X2 d4_21 rfl 22 rfl ?_
  refine o_iloadN X2 d4_22 rfl 23 rfl ?_
  refine o_iloadN X2 d4_23 rfl 24 rfl ?_
  refine o_callS X2 d4_24 (rest := []) (c_kept_1_2 l Z a0 hw [] n0 _ X2.size xa xv L' H0) (hw _ (List.mem_of_getElem? (i := 28) rfl)) (hw _ (List.mem_of_getElem? (i := 29) rfl)) (hw _ (List.mem_of_getElem? (i := 2) rfl)) (hw _ (List.mem_of_getElem? (i := 30) rfl)) (by decide) 0 (by decide) (by decide) rfl [(.ref xa), (.int (2 : Int32)), (.int (1 : Int32)), (.int xv)] rfl pd_5 rfl rfl (Nat.le_of_eq rfl) 0 0 rfl rfl (by decide) (by decide) 27 rfl ?_
  rintro _ T3 _ X3 ⟨rfl, rfl⟩
  show OE p e ({ frames := 2, cells := 0, slots := 0, locals := 29 } : Room) below s n0 Q' T3 (mkF m 27 #[.val (.ref xa), .val (.int (1 : Int32)), .val (.int xv)] [(.int (1 : Int32))])
  refine o_ifEq X3 d4_27 75 30 (by decide) (by decide) rfl (fun q => by exfalso; exact absurd q (by decide)) ?_
  intro hc27
  refine o_aloadN X3 d4_30 rfl rfl 31 rfl ?_
  refine o_iconst (v := (3 : Int32)) X3 d4_31 rfl 32 rfl ?_
  refine o_iloadN X3 d4_32 rfl 33 rfl ?_
  refine o_iloadN X3 d4_33 rfl 34 rfl ?_
  refine o_callS X3 d4_34 (rest := []) (c_kept_1_3 l Z a0 hw [] n0 _ X3.size xa xv L' H0) (hw _ (List.mem_of_getElem? (i := 28) rfl)) (hw _ (List.mem_of_getElem? (i := 29) rfl)) (hw _ (List.mem_of_getElem? (i := 2) rfl)) (hw _ (List.mem_of_getElem? (i := 30) rfl)) (by decide) 0 (by decide) (by decide) rfl [(.ref xa), (.int (3 : Int32)), (.int (1 : Int32)), (.int xv)] rfl pd_5 rfl rfl (Nat.le_of_eq rfl) 0 0 rfl rfl (by decide) (by decide) 37 rfl ?_
  rintro _ T4 _ X4 ⟨rfl, rfl⟩
  show OE p e ({ frames := 2, cells := 0, slots := 0, locals := 29 } : Room) below s n0 Q' T4 (mkF m 37 #[.val (.ref xa), .val (.int (1 : Int32)), .val (.int xv)] [(.int (1 : Int32))])
  refine o_ifEq X4 d4_37 75 40 (by decide) (by decide) rfl (fun q => by exfalso; exact absurd q (by decide)) ?_
  intro hc37
  refine o_aloadN X4 d4_40 rfl rfl 41 rfl ?_
  refine o_iconst (v := (4 : Int32)) X4 d4_41 rfl 42 rfl ?_
  refine o_iloadN X4 d4_42 rfl 43 rfl ?_
  refine o_iloadN X4 d4_43 rfl 44 rfl ?_
  refine o_callS X4 d4_44 (rest := []) (c_kept_1_4 l Z a0 hw [] n0 _ X4.size xa xv L' H0) (hw _ (List.mem_of_getElem? (i := 28) rfl)) (hw _ (List.mem_of_getElem? (i := 29) rfl)) (hw _ (List.mem_of_getElem? (i := 2) rfl)) (hw _ (List.mem_of_getElem? (i := 30) rfl)) (by decide) 0 (by decide) (by decide) rfl [(.ref xa), (.int (4 : Int32)), (.int (1 : Int32)), (.int xv)] rfl pd_5 rfl rfl (Nat.le_of_eq rfl) 0 0 rfl rfl (by decide) (by decide) 47 rfl ?_
  rintro _ T5 _ X5 ⟨rfl, rfl⟩
  show OE p e ({ frames := 2, cells := 0, slots := 0, locals := 29 } : Room) below s n0 Q' T5 (mkF m 47 #[.val (.ref xa), .val (.int (1 : Int32)), .val (.int xv)] [(.int (1 : Int32))])
  refine o_ifEq X5 d4_47 75 50 (by decide) (by decide) rfl (fun q => by exfalso; exact absurd q (by decide)) ?_
  intro hc47
  refine o_aloadN X5 d4_50 rfl rfl 51 rfl ?_
  refine o_iconst (v := (5 : Int32)) X5 d4_51 rfl 52 rfl ?_
  refine o_iloadN X5 d4_52 rfl 53 rfl ?_
  refine o_iloadN X5 d4_53 rfl 54 rfl ?_
  refine o_callS X5 d4_54 (rest := []) (c_kept_1_5 l Z a0 hw [] n0 _ X5.size xa xv L' H0) (hw _ (List.mem_of_getElem? (i := 28) rfl)) (hw _ (List.mem_of_getElem? (i := 29) rfl)) (hw _ (List.mem_of_getElem? (i := 2) rfl)) (hw _ (List.mem_of_getElem? (i := 30) rfl)) (by decide) 0 (by decide) (by decide) rfl [(.ref xa), (.int (5 : Int32)), (.int (1 : Int32)), (.int xv)] rfl pd_5 rfl rfl (Nat.le_of_eq rfl) 0 0 rfl rfl (by decide) (by decide) 57 rfl ?_
  rintro _ T6 _ X6 ⟨rfl, rfl⟩
  show OE p e ({ frames := 2, cells := 0, slots := 0, locals := 29 } : Room) below s n0 Q' T6 (mkF m 57 #[.val (.ref xa), .val (.int (1 : Int32)), .val (.int xv)] [(.int (1 : Int32))])
  refine o_ifEq X6 d4_57 75 60 (by decide) (by decide) rfl (fun q => by exfalso; exact absurd q (by decide)) ?_
  intro hc57
  refine o_aloadN X6 d4_60 rfl rfl 61 rfl ?_
  refine o_bipush (v := (6 : Int32)) X6 d4_61 rfl 63 rfl ?_
  refine o_iloadN X6 d4_63 rfl 64 rfl ?_
  refine o_iloadN X6 d4_64 rfl 65 rfl ?_
  refine o_callS X6 d4_65 (rest := []) (c_kept_1_6 l Z a0 hw [] n0 _ X6.size xa xv L' H0) (hw _ (List.mem_of_getElem? (i := 28) rfl)) (hw _ (List.mem_of_getElem? (i := 29) rfl)) (hw _ (List.mem_of_getElem? (i := 2) rfl)) (hw _ (List.mem_of_getElem? (i := 30) rfl)) (by decide) 0 (by decide) (by decide) rfl [(.ref xa), (.int (6 : Int32)), (.int (1 : Int32)), (.int xv)] rfl pd_5 rfl rfl (Nat.le_of_eq rfl) 0 0 rfl rfl (by decide) (by decide) 68 rfl ?_
  rintro _ T7 _ X7 ⟨rfl, rfl⟩
  show OE p e ({ frames := 2, cells := 0, slots := 0, locals := 29 } : Room) below s n0 Q' T7 (mkF m 68 #[.val (.ref xa), .val (.int (1 : Int32)), .val (.int xv)] [(.int (1 : Int32))])
  refine o_ifEq X7 d4_68 75 71 (by decide) (by decide) rfl (fun q => by exfalso; exact absurd q (by decide)) ?_
  intro hc68
  refine o_iconst (v := (1 : Int32)) X7 d4_71 rfl 72 rfl ?_
  refine o_goto X7 d4_72 76 (by decide) (by decide) ?_
  exact o_retZ X7 d4_76 (by decide) (by decide) (hQ _ _ ⟨rfl, rfl⟩)
set_option maxRecDepth 65536 in
set_option maxHeartbeats 40000000 in
theorem c_make_2 (l : Launch) (Z : State) (a0 : Array Value) (hw : ∀ d ∈ tables_1, d.before a0 Z = true) (ws : List Jvm.Cond) (n0 : Nat) (h0 : Heap) (hn0 : n0 ≤ h0.size) (xv : Int32) (L' : List (Addr × (Cell → Prop))) (H0 : OL n0 h0 L') :
    OC l Z (⟨"com/example/eratosthenes/eratosthenes/tune/GeneticSearchHalvesPinLaw", "make", "(II)[Z"⟩ : MethodName) method_3_code 3 (some (.array .boolean)) ws ({ frames := 1, cells := 1, slots := 2, locals := 15 } : Room) n0 #[(.int xv), (.int (2 : Int32))] h0 (fun r h => ∃ a, r = some (.ref a) ∧ OL n0 h ((a, OA Z .boolean [(f_bit xv (0 : Int32)), (f_bit xv (1 : Int32))]) :: L')) := by
  refine OC.of pn_0 hn0 #[.val (.int xv), .val (.int (2 : Int32)), .unset] (fun m => by first | (simp [entryFrame, mkF, argsToLocals, Value.category, maxLocals]; done) | rfl) ?_
  intro p e s m below meth cd0 T0 X0 Q' hQ
  refine o_iloadN X0 d1_0 rfl 1 rfl ?_
  refine o_newarray (L := L') X0 H0 d1_1 (hw _ (List.mem_of_getElem? (i := 4) rfl)) rfl rfl 2 2 rfl (by decide) (by decide) 1 2 rfl rfl (by decide) (by decide) 3 rfl ?_
  intro T1 h1 b1 X1 H1
  replace H1 : OL n0 h1 ((b1, OA Z .boolean [(0 : Int32), (0 : Int32)]) :: L') := H1
  refine o_astoreN X1 d1_3 rfl #[.val (.int xv), .val (.int (2 : Int32)), .val (.ref b1)] rfl 4 rfl ?_
  refine o_iloadN X1 d1_4 rfl 5 rfl ?_
  refine o_ifLe X1 d1_5 16 8 (by decide) (by decide) rfl (fun q => by exfalso; exact absurd q (by decide)) ?_
  intro hc5
  refine o_aloadN X1 d1_8 rfl rfl 9 rfl ?_
  refine o_iconst (v := (0 : Int32)) X1 d1_9 rfl 10 rfl ?_
  refine o_iloadN X1 d1_10 rfl 11 rfl ?_
  refine o_iconst (v := (0 : Int32)) X1 d1_11 rfl 12 rfl ?_
  refine o_callS X1 d1_12 (rest := [(.int (0 : Int32)), (.ref b1)]) (c_bit l Z a0 hw [] n0 _ X1.size xv (0 : Int32) ) (hw _ (List.mem_of_getElem? (i := 31) rfl)) (hw _ (List.mem_of_getElem? (i := 32) rfl)) (hw _ (List.mem_of_getElem? (i := 2) rfl)) (hw _ (List.mem_of_getElem? (i := 33) rfl)) (by decide) 2 (by decide) (by decide) rfl [(.int xv), (.int (0 : Int32))] rfl pd_6 rfl rfl (Nat.le_of_eq rfl) 1 2 rfl rfl (by decide) (by decide) 15 rfl ?_
  rintro _ T2 _ X2 ⟨rfl, rfl⟩
  show OE p e ({ frames := 1, cells := 1, slots := 2, locals := 15 } : Room) below s n0 Q' T2 (mkF m 15 #[.val (.int xv), .val (.int (2 : Int32)), .val (.ref b1)] [(.int (f_bit xv (0 : Int32))), (.int (0 : Int32)), (.ref b1)])
  refine o_bastoreZ X2 H1 0 rfl d1_15 0 rfl (by show 0 < 2; decide) (f_bit xv (0 : Int32)) (v_nar _ _) 16 rfl ?_
  intro T3 h3 X3 H3
  replace H3 : OL n0 h3 ((b1, OA Z .boolean [(f_bit xv (0 : Int32)), (0 : Int32)]) :: L') := H3
  refine o_iloadN X3 d1_16 rfl 17 rfl ?_
  refine o_iconst (v := (1 : Int32)) X3 d1_17 rfl 18 rfl ?_
  refine o_icmpLe X3 d1_18 29 21 (by decide) (by decide) rfl (fun q => by exfalso; exact absurd q (by decide)) ?_
  intro hc18
  refine o_aloadN X3 d1_21 rfl rfl 22 rfl ?_
  refine o_iconst (v := (1 : Int32)) X3 d1_22 rfl 23 rfl ?_
  refine o_iloadN X3 d1_23 rfl 24 rfl ?_
  refine o_iconst (v := (1 : Int32)) X3 d1_24 rfl 25 rfl ?_
  refine o_callS X3 d1_25 (rest := [(.int (1 : Int32)), (.ref b1)]) (c_bit l Z a0 hw [] n0 _ X3.size xv (1 : Int32) ) (hw _ (List.mem_of_getElem? (i := 31) rfl)) (hw _ (List.mem_of_getElem? (i := 32) rfl)) (hw _ (List.mem_of_getElem? (i := 2) rfl)) (hw _ (List.mem_of_getElem? (i := 33) rfl)) (by decide) 2 (by decide) (by decide) rfl [(.int xv), (.int (1 : Int32))] rfl pd_6 rfl rfl (Nat.le_of_eq rfl) 1 2 rfl rfl (by decide) (by decide) 28 rfl ?_
  rintro _ T4 _ X4 ⟨rfl, rfl⟩
  show OE p e ({ frames := 1, cells := 1, slots := 2, locals := 15 } : Room) below s n0 Q' T4 (mkF m 28 #[.val (.int xv), .val (.int (2 : Int32)), .val (.ref b1)] [(.int (f_bit xv (1 : Int32))), (.int (1 : Int32)), (.ref b1)])
  refine o_bastoreZ X4 H3 0 rfl d1_28 1 rfl (by show 1 < 2; decide) (f_bit xv (1 : Int32)) (v_nar _ _) 29 rfl ?_
  intro T5 h5 X5 H5
  replace H5 : OL n0 h5 ((b1, OA Z .boolean [(f_bit xv (0 : Int32)), (f_bit xv (1 : Int32))]) :: L') := H5
  refine o_iloadN X5 d1_29 rfl 30 rfl ?_
  refine o_iconst (v := (2 : Int32)) X5 d1_30 rfl 31 rfl ?_
  refine o_icmpLe X5 d1_31 42 34 (by decide) (by decide) rfl ?_ (fun q => by exfalso; exact absurd q (by decide))
  intro hc31
  refine o_iloadN X5 d1_42 rfl 43 rfl ?_
  refine o_iconst (v := (3 : Int32)) X5 d1_43 rfl 44 rfl ?_
  refine o_icmpLe X5 d1_44 55 47 (by decide) (by decide) rfl ?_ (fun q => by exfalso; exact absurd q (by decide))
  intro hc44
  refine o_iloadN X5 d1_55 rfl 56 rfl ?_
  refine o_iconst (v := (4 : Int32)) X5 d1_56 rfl 57 rfl ?_
  refine o_icmpLe X5 d1_57 68 60 (by decide) (by decide) rfl ?_ (fun q => by exfalso; exact absurd q (by decide))
  intro hc57
  refine o_iloadN X5 d1_68 rfl 69 rfl ?_
  refine o_iconst (v := (5 : Int32)) X5 d1_69 rfl 70 rfl ?_
  refine o_icmpLe X5 d1_70 81 73 (by decide) (by decide) rfl ?_ (fun q => by exfalso; exact absurd q (by decide))
  intro hc70
  refine o_iloadN X5 d1_81 rfl 82 rfl ?_
  refine o_bipush (v := (6 : Int32)) X5 d1_82 rfl 84 rfl ?_
  refine o_icmpLe X5 d1_84 97 87 (by decide) (by decide) rfl ?_ (fun q => by exfalso; exact absurd q (by decide))
  intro hc84
  refine o_aloadN X5 d1_97 rfl rfl 98 rfl ?_
  exact o_retA X5 rfl rfl d1_98 (by decide) (by decide) (hQ _ _ ⟨_, rfl, H5⟩)
set_option maxRecDepth 65536 in
set_option maxHeartbeats 40000000 in
theorem c_halves_2 (l : Launch) (Z : State) (a0 : Array Value) (hw : ∀ d ∈ tables_1, d.before a0 Z = true) (ws : List Jvm.Cond) (n0 : Nat) (h0 : Heap) (hn0 : n0 ≤ h0.size) (xa xb : Addr) (xx xy : Int32) (L' : List (Addr × (Cell → Prop))) (H0 : OL n0 h0 ((xa, OA Z .boolean [(f_bit xx (0 : Int32)), (f_bit xx (1 : Int32))]) :: (xb, OA Z .boolean [(f_bit xy (0 : Int32)), (f_bit xy (1 : Int32))]) :: L')) :
    OC l Z (⟨"com/example/eratosthenes/eratosthenes/tune/GeneticSearch", "halves", "([Z[Z)[Z"⟩ : MethodName) prog_27_method_4_code 3 (some (.array .boolean)) ws ({ frames := 1, cells := 1, slots := 2, locals := 32 } : Room) n0 #[(.ref xa), (.ref xb)] h0 (fun r h => ∃ a, r = some (.ref a) ∧ OL n0 h ((a, OA Z .boolean [(f_bit xx (0 : Int32)), (f_bit xy (1 : Int32))]) :: (xa, OA Z .boolean [(f_bit xx (0 : Int32)), (f_bit xx (1 : Int32))]) :: (xb, OA Z .boolean [(f_bit xy (0 : Int32)), (f_bit xy (1 : Int32))]) :: L')) := by
  refine OC.of pn_1 hn0 #[.val (.ref xa), .val (.ref xb), .unset] (fun m => by first | (simp [entryFrame, mkF, argsToLocals, Value.category, maxLocals]; done) | rfl) ?_
  intro p e s m below meth cd0 T0 X0 Q' hQ
  refine o_aloadN X0 d2_0 rfl rfl 1 rfl ?_
  refine o_clone X0 H0 1 rfl d2_1 (by decide) (hw _ (List.mem_of_getElem? (i := 9) rfl)) (hw _ (List.mem_of_getElem? (i := 10) rfl)) (hw _ (List.mem_of_getElem? (i := 14) rfl)) (hw _ (List.mem_of_getElem? (i := 12) rfl)) (hw _ (List.mem_of_getElem? (i := 13) rfl)) (hw _ (List.mem_of_getElem? (i := 15) rfl)) (by show 2 < 2 ^ 31; decide) 2 (by show 2 ≤ 2; decide) rfl (by decide) 0 (Nat.le_of_eq rfl) (by decide) 1 2 rfl rfl (by decide) (by decide) 4 rfl ?_
  intro T1 h1 b1 X1 H1
  refine o_checkcast X1 H1 0 rfl d2_4 (by decide) (hw _ (List.mem_of_getElem? (i := 16) rfl)) 7 rfl ?_
  intro T2 X2
  refine o_astoreN X2 d2_7 rfl #[.val (.ref xa), .val (.ref xb), .val (.ref b1)] rfl 8 rfl ?_
  refine o_aloadN X2 d2_8 rfl rfl 9 rfl ?_
  refine o_iconst (v := (0 : Int32)) X2 d2_9 rfl 10 rfl ?_
  refine o_aloadN X2 d2_10 rfl rfl 11 rfl ?_
  refine o_iconst (v := (0 : Int32)) X2 d2_11 rfl 12 rfl ?_
  refine o_aloadN X2 d2_12 rfl rfl 13 rfl ?_
  refine o_arraylength X2 H1 1 rfl d2_13 (2 : Int32) rfl 14 rfl ?_
  refine o_iconst (v := (2 : Int32)) X2 d2_14 rfl 15 rfl ?_
  refine o_idiv X2 d2_15 (by decide) 16 rfl ?_
  refine o_arraycopy X2 H1 1 0 rfl rfl d2_16 (hw _ (List.mem_of_getElem? (i := 18) rfl)) (hw _ (List.mem_of_getElem? (i := 21) rfl)) (hw _ (List.mem_of_getElem? (i := 19) rfl)) (hw _ (List.mem_of_getElem? (i := 20) rfl)) rfl (by show 2 < 2 ^ 31; decide) (by show 2 < 2 ^ 31; decide) 0 0 1 rfl rfl rfl (by show 1 ≤ 2; decide) (by show 1 ≤ 2; decide) rfl (by decide) 0 (Nat.le_of_eq rfl) (by decide) 19 rfl ?_
  intro T3 h3 X3 H3
  replace H3 : OL n0 h3 ((b1, OA Z .boolean [(f_bit xx (0 : Int32)), (f_bit xy (1 : Int32))]) :: (xa, OA Z .boolean [(f_bit xx (0 : Int32)), (f_bit xx (1 : Int32))]) :: (xb, OA Z .boolean [(f_bit xy (0 : Int32)), (f_bit xy (1 : Int32))]) :: L') := H3
  refine o_aloadN X3 d2_19 rfl rfl 20 rfl ?_
  exact o_retA X3 rfl rfl d2_20 (by decide) (by decide) (hQ _ _ ⟨_, rfl, H3⟩)
set_option maxRecDepth 65536 in
set_option maxHeartbeats 40000000 in
theorem c_all_2 (l : Launch) (Z : State) (a0 : Array Value) (hw : ∀ d ∈ tables_1, d.before a0 Z = true) (ws : List Jvm.Cond) (n0 : Nat) (h0 : Heap) (hn0 : n0 ≤ h0.size) (xa : Addr) (xv : Int32) (L' : List (Addr × (Cell → Prop))) (H0 : OL n0 h0 ((xa, OA Z .boolean [(f_bit xv (0 : Int32)), (f_bit xv (1 : Int32))]) :: L')) :
    OC l Z (⟨"com/example/eratosthenes/eratosthenes/tune/GeneticSearchHalvesPinLaw", "allKept", "([ZII)Z"⟩ : MethodName) method_6_code 3 (some .boolean) ws ({ frames := 2, cells := 0, slots := 0, locals := 29 } : Room) n0 #[(.ref xa), (.int (2 : Int32)), (.int xv)] h0 (fun r h => r = some (.int 1) ∧ h0 = h) := by
  refine OC.of pn_0 hn0 #[.val (.ref xa), .val (.int (2 : Int32)), .val (.int xv)] (fun m => by first | (simp [entryFrame, mkF, argsToLocals, Value.category, maxLocals]; done) | rfl) ?_
  intro p e s m below meth cd0 T0 X0 Q' hQ
  refine o_aloadN X0 d4_0 rfl rfl 1 rfl ?_
  refine o_iconst (v := (0 : Int32)) X0 d4_1 rfl 2 rfl ?_
  refine o_iloadN X0 d4_2 rfl 3 rfl ?_
  refine o_iloadN X0 d4_3 rfl 4 rfl ?_
  refine o_callS X0 d4_4 (rest := []) (c_kept_2_0 l Z a0 hw [] n0 _ X0.size xa xv L' H0) (hw _ (List.mem_of_getElem? (i := 28) rfl)) (hw _ (List.mem_of_getElem? (i := 29) rfl)) (hw _ (List.mem_of_getElem? (i := 2) rfl)) (hw _ (List.mem_of_getElem? (i := 30) rfl)) (by decide) 0 (by decide) (by decide) rfl [(.ref xa), (.int (0 : Int32)), (.int (2 : Int32)), (.int xv)] rfl pd_5 rfl rfl (Nat.le_of_eq rfl) 0 0 rfl rfl (by decide) (by decide) 7 rfl ?_
  rintro _ T1 _ X1 ⟨rfl, rfl⟩
  show OE p e ({ frames := 2, cells := 0, slots := 0, locals := 29 } : Room) below s n0 Q' T1 (mkF m 7 #[.val (.ref xa), .val (.int (2 : Int32)), .val (.int xv)] [(.int (1 : Int32))])
  refine o_ifEq X1 d4_7 75 10 (by decide) (by decide) rfl (fun q => by exfalso; exact absurd q (by decide)) ?_
  intro hc7
  refine o_aloadN X1 d4_10 rfl rfl 11 rfl ?_
  refine o_iconst (v := (1 : Int32)) X1 d4_11 rfl 12 rfl ?_
  refine o_iloadN X1 d4_12 rfl 13 rfl ?_
  refine o_iloadN X1 d4_13 rfl 14 rfl ?_
  refine o_callS X1 d4_14 (rest := []) (c_kept_2_1 l Z a0 hw [] n0 _ X1.size xa xv L' H0) (hw _ (List.mem_of_getElem? (i := 28) rfl)) (hw _ (List.mem_of_getElem? (i := 29) rfl)) (hw _ (List.mem_of_getElem? (i := 2) rfl)) (hw _ (List.mem_of_getElem? (i := 30) rfl)) (by decide) 0 (by decide) (by decide) rfl [(.ref xa), (.int (1 : Int32)), (.int (2 : Int32)), (.int xv)] rfl pd_5 rfl rfl (Nat.le_of_eq rfl) 0 0 rfl rfl (by decide) (by decide) 17 rfl ?_
  rintro _ T2 _ X2 ⟨rfl, rfl⟩
  show OE p e ({ frames := 2, cells := 0, slots := 0, locals := 29 } : Room) below s n0 Q' T2 (mkF m 17 #[.val (.ref xa), .val (.int (2 : Int32)), .val (.int xv)] [(.int (1 : Int32))])
  refine o_ifEq X2 d4_17 75 20 (by decide) (by decide) rfl (fun q => by exfalso; exact absurd q (by decide)) ?_
  intro hc17
  refine o_aloadN X2 d4_20 rfl rfl 21 rfl ?_
  refine o_iconst (v := (2 : Int32)) X2 d4_21 rfl 22 rfl ?_
  refine o_iloadN X2 d4_22 rfl 23 rfl ?_
  refine o_iloadN X2 d4_23 rfl 24 rfl ?_
  refine o_callS X2 d4_24 (rest := []) (c_kept_2_2 l Z a0 hw [] n0 _ X2.size xa xv L' H0) (hw _ (List.mem_of_getElem? (i := 28) rfl)) (hw _ (List.mem_of_getElem? (i := 29) rfl)) (hw _ (List.mem_of_getElem? (i := 2) rfl)) (hw _ (List.mem_of_getElem? (i := 30) rfl)) (by decide) 0 (by decide) (by decide) rfl [(.ref xa), (.int (2 : Int32)), (.int (2 : Int32)), (.int xv)] rfl pd_5 rfl rfl (Nat.le_of_eq rfl) 0 0 rfl rfl (by decide) (by decide) 27 rfl ?_
  rintro _ T3 _ X3 ⟨rfl, rfl⟩
  show OE p e ({ frames := 2, cells := 0, slots := 0, locals := 29 } : Room) below s n0 Q' T3 (mkF m 27 #[.val (.ref xa), .val (.int (2 : Int32)), .val (.int xv)] [(.int (1 : Int32))])
  refine o_ifEq X3 d4_27 75 30 (by decide) (by decide) rfl (fun q => by exfalso; exact absurd q (by decide)) ?_
  intro hc27
  refine o_aloadN X3 d4_30 rfl rfl 31 rfl ?_
  refine o_iconst (v := (3 : Int32)) X3 d4_31 rfl 32 rfl ?_
  refine o_iloadN X3 d4_32 rfl 33 rfl ?_
  refine o_iloadN X3 d4_33 rfl 34 rfl ?_
  refine o_callS X3 d4_34 (rest := []) (c_kept_2_3 l Z a0 hw [] n0 _ X3.size xa xv L' H0) (hw _ (List.mem_of_getElem? (i := 28) rfl)) (hw _ (List.mem_of_getElem? (i := 29) rfl)) (hw _ (List.mem_of_getElem? (i := 2) rfl)) (hw _ (List.mem_of_getElem? (i := 30) rfl)) (by decide) 0 (by decide) (by decide) rfl [(.ref xa), (.int (3 : Int32)), (.int (2 : Int32)), (.int xv)] rfl pd_5 rfl rfl (Nat.le_of_eq rfl) 0 0 rfl rfl (by decide) (by decide) 37 rfl ?_
  rintro _ T4 _ X4 ⟨rfl, rfl⟩
  show OE p e ({ frames := 2, cells := 0, slots := 0, locals := 29 } : Room) below s n0 Q' T4 (mkF m 37 #[.val (.ref xa), .val (.int (2 : Int32)), .val (.int xv)] [(.int (1 : Int32))])
  refine o_ifEq X4 d4_37 75 40 (by decide) (by decide) rfl (fun q => by exfalso; exact absurd q (by decide)) ?_
  intro hc37
  refine o_aloadN X4 d4_40 rfl rfl 41 rfl ?_
  refine o_iconst (v := (4 : Int32)) X4 d4_41 rfl 42 rfl ?_
  refine o_iloadN X4 d4_42 rfl 43 rfl ?_
  refine o_iloadN X4 d4_43 rfl 44 rfl ?_
  refine o_callS X4 d4_44 (rest := []) (c_kept_2_4 l Z a0 hw [] n0 _ X4.size xa xv L' H0) (hw _ (List.mem_of_getElem? (i := 28) rfl)) (hw _ (List.mem_of_getElem? (i := 29) rfl)) (hw _ (List.mem_of_getElem? (i := 2) rfl)) (hw _ (List.mem_of_getElem? (i := 30) rfl)) (by decide) 0 (by decide) (by decide) rfl [(.ref xa), (.int (4 : Int32)), (.int (2 : Int32)), (.int xv)] rfl pd_5 rfl rfl (Nat.le_of_eq rfl) 0 0 rfl rfl (by decide) (by decide) 47 rfl ?_
  rintro _ T5 _ X5 ⟨rfl, rfl⟩
  show OE p e ({ frames := 2, cells := 0, slots := 0, locals := 29 } : Room) below s n0 Q' T5 (mkF m 47 #[.val (.ref xa), .val (.int (2 : Int32)), .val (.int xv)] [(.int (1 : Int32))])
  refine o_ifEq X5 d4_47 75 50 (by decide) (by decide) rfl (fun q => by exfalso; exact absurd q (by decide)) ?_
  intro hc47
  refine o_aloadN X5 d4_50 rfl rfl 51 rfl ?_
  refine o_iconst (v := (5 : Int32)) X5 d4_51 rfl 52 rfl ?_
  refine o_iloadN X5 d4_52 rfl 53 rfl ?_
  refine o_iloadN X5 d4_53 rfl 54 rfl ?_
  refine o_callS X5 d4_54 (rest := []) (c_kept_2_5 l Z a0 hw [] n0 _ X5.size xa xv L' H0) (hw _ (List.mem_of_getElem? (i := 28) rfl)) (hw _ (List.mem_of_getElem? (i := 29) rfl)) (hw _ (List.mem_of_getElem? (i := 2) rfl)) (hw _ (List.mem_of_getElem? (i := 30) rfl)) (by decide) 0 (by decide) (by decide) rfl [(.ref xa), (.int (5 : Int32)), (.int (2 : Int32)), (.int xv)] rfl pd_5 rfl rfl (Nat.le_of_eq rfl) 0 0 rfl rfl (by decide) (by decide) 57 rfl ?_
  rintro _ T6 _ X6 ⟨rfl, rfl⟩
  show OE p e ({ frames := 2, cells := 0, slots := 0, locals := 29 } : Room) below s n0 Q' T6 (mkF m 57 #[.val (.ref xa), .val (.int (2 : Int32)), .val (.int xv)] [(.int (1 : Int32))])
  refine o_ifEq X6 d4_57 75 60 (by decide) (by decide) rfl (fun q => by exfalso; exact absurd q (by decide)) ?_
  intro hc57
  refine o_aloadN X6 d4_60 rfl rfl 61 rfl ?_
  refine o_bipush (v := (6 : Int32)) X6 d4_61 rfl 63 rfl ?_
  refine o_iloadN X6 d4_63 rfl 64 rfl ?_
  refine o_iloadN X6 d4_64 rfl 65 rfl ?_
  refine o_callS X6 d4_65 (rest := []) (c_kept_2_6 l Z a0 hw [] n0 _ X6.size xa xv L' H0) (hw _ (List.mem_of_getElem? (i := 28) rfl)) (hw _ (List.mem_of_getElem? (i := 29) rfl)) (hw _ (List.mem_of_getElem? (i := 2) rfl)) (hw _ (List.mem_of_getElem? (i := 30) rfl)) (by decide) 0 (by decide) (by decide) rfl [(.ref xa), (.int (6 : Int32)), (.int (2 : Int32)), (.int xv)] rfl pd_5 rfl rfl (Nat.le_of_eq rfl) 0 0 rfl rfl (by decide) (by decide) 68 rfl ?_
  rintro _ T7 _ X7 ⟨rfl, rfl⟩
  show OE p e ({ frames := 2, cells := 0, slots := 0, locals := 29 } : Room) below s n0 Q' T7 (mkF m 68 #[.val (.ref xa), .val (.int (2 : Int32)), .val (.int xv)] [(.int (1 : Int32))])
  refine o_ifEq X7 d4_68 75 71 (by decide) (by decide) rfl (fun q => by exfalso; exact absurd q (by decide)) ?_
  intro hc68
  refine o_iconst (v := (1 : Int32)) X7 d4_71 rfl 72 rfl ?_
  refine o_goto X7 d4_72 76 (by decide) (by decide) ?_
  exact o_retZ X7 d4_76 (by decide) (by decide) (hQ _ _ ⟨rfl, rfl⟩)
set_option maxRecDepth 65536 in
set_option maxHeartbeats 40000000 in
theorem c_make_3 (l : Launch) (Z : State) (a0 : Array Value) (hw : ∀ d ∈ tables_1, d.before a0 Z = true) (ws : List Jvm.Cond) (n0 : Nat) (h0 : Heap) (hn0 : n0 ≤ h0.size) (xv : Int32) (L' : List (Addr × (Cell → Prop))) (H0 : OL n0 h0 L') :
    OC l Z (⟨"com/example/eratosthenes/eratosthenes/tune/GeneticSearchHalvesPinLaw", "make", "(II)[Z"⟩ : MethodName) method_3_code 3 (some (.array .boolean)) ws ({ frames := 1, cells := 1, slots := 3, locals := 15 } : Room) n0 #[(.int xv), (.int (3 : Int32))] h0 (fun r h => ∃ a, r = some (.ref a) ∧ OL n0 h ((a, OA Z .boolean [(f_bit xv (0 : Int32)), (f_bit xv (1 : Int32)), (f_bit xv (2 : Int32))]) :: L')) := by
  refine OC.of pn_0 hn0 #[.val (.int xv), .val (.int (3 : Int32)), .unset] (fun m => by first | (simp [entryFrame, mkF, argsToLocals, Value.category, maxLocals]; done) | rfl) ?_
  intro p e s m below meth cd0 T0 X0 Q' hQ
  refine o_iloadN X0 d1_0 rfl 1 rfl ?_
  refine o_newarray (L := L') X0 H0 d1_1 (hw _ (List.mem_of_getElem? (i := 4) rfl)) rfl rfl 3 3 rfl (by decide) (by decide) 1 3 rfl rfl (by decide) (by decide) 3 rfl ?_
  intro T1 h1 b1 X1 H1
  replace H1 : OL n0 h1 ((b1, OA Z .boolean [(0 : Int32), (0 : Int32), (0 : Int32)]) :: L') := H1
  refine o_astoreN X1 d1_3 rfl #[.val (.int xv), .val (.int (3 : Int32)), .val (.ref b1)] rfl 4 rfl ?_
  refine o_iloadN X1 d1_4 rfl 5 rfl ?_
  refine o_ifLe X1 d1_5 16 8 (by decide) (by decide) rfl (fun q => by exfalso; exact absurd q (by decide)) ?_
  intro hc5
  refine o_aloadN X1 d1_8 rfl rfl 9 rfl ?_
  refine o_iconst (v := (0 : Int32)) X1 d1_9 rfl 10 rfl ?_
  refine o_iloadN X1 d1_10 rfl 11 rfl ?_
  refine o_iconst (v := (0 : Int32)) X1 d1_11 rfl 12 rfl ?_
  refine o_callS X1 d1_12 (rest := [(.int (0 : Int32)), (.ref b1)]) (c_bit l Z a0 hw [] n0 _ X1.size xv (0 : Int32) ) (hw _ (List.mem_of_getElem? (i := 31) rfl)) (hw _ (List.mem_of_getElem? (i := 32) rfl)) (hw _ (List.mem_of_getElem? (i := 2) rfl)) (hw _ (List.mem_of_getElem? (i := 33) rfl)) (by decide) 2 (by decide) (by decide) rfl [(.int xv), (.int (0 : Int32))] rfl pd_6 rfl rfl (Nat.le_of_eq rfl) 1 3 rfl rfl (by decide) (by decide) 15 rfl ?_
  rintro _ T2 _ X2 ⟨rfl, rfl⟩
  show OE p e ({ frames := 1, cells := 1, slots := 3, locals := 15 } : Room) below s n0 Q' T2 (mkF m 15 #[.val (.int xv), .val (.int (3 : Int32)), .val (.ref b1)] [(.int (f_bit xv (0 : Int32))), (.int (0 : Int32)), (.ref b1)])
  refine o_bastoreZ X2 H1 0 rfl d1_15 0 rfl (by show 0 < 3; decide) (f_bit xv (0 : Int32)) (v_nar _ _) 16 rfl ?_
  intro T3 h3 X3 H3
  replace H3 : OL n0 h3 ((b1, OA Z .boolean [(f_bit xv (0 : Int32)), (0 : Int32), (0 : Int32)]) :: L') := H3
  refine o_iloadN X3 d1_16 rfl 17 rfl ?_
  refine o_iconst (v := (1 : Int32)) X3 d1_17 rfl 18 rfl ?_
  refine o_icmpLe X3 d1_18 29 21 (by decide) (by decide) rfl (fun q => by exfalso; exact absurd q (by decide)) ?_
  intro hc18
  refine o_aloadN X3 d1_21 rfl rfl 22 rfl ?_
  refine o_iconst (v := (1 : Int32)) X3 d1_22 rfl 23 rfl ?_
  refine o_iloadN X3 d1_23 rfl 24 rfl ?_
  refine o_iconst (v := (1 : Int32)) X3 d1_24 rfl 25 rfl ?_
  refine o_callS X3 d1_25 (rest := [(.int (1 : Int32)), (.ref b1)]) (c_bit l Z a0 hw [] n0 _ X3.size xv (1 : Int32) ) (hw _ (List.mem_of_getElem? (i := 31) rfl)) (hw _ (List.mem_of_getElem? (i := 32) rfl)) (hw _ (List.mem_of_getElem? (i := 2) rfl)) (hw _ (List.mem_of_getElem? (i := 33) rfl)) (by decide) 2 (by decide) (by decide) rfl [(.int xv), (.int (1 : Int32))] rfl pd_6 rfl rfl (Nat.le_of_eq rfl) 1 3 rfl rfl (by decide) (by decide) 28 rfl ?_
  rintro _ T4 _ X4 ⟨rfl, rfl⟩
  show OE p e ({ frames := 1, cells := 1, slots := 3, locals := 15 } : Room) below s n0 Q' T4 (mkF m 28 #[.val (.int xv), .val (.int (3 : Int32)), .val (.ref b1)] [(.int (f_bit xv (1 : Int32))), (.int (1 : Int32)), (.ref b1)])
  refine o_bastoreZ X4 H3 0 rfl d1_28 1 rfl (by show 1 < 3; decide) (f_bit xv (1 : Int32)) (v_nar _ _) 29 rfl ?_
  intro T5 h5 X5 H5
  replace H5 : OL n0 h5 ((b1, OA Z .boolean [(f_bit xv (0 : Int32)), (f_bit xv (1 : Int32)), (0 : Int32)]) :: L') := H5
  refine o_iloadN X5 d1_29 rfl 30 rfl ?_
  refine o_iconst (v := (2 : Int32)) X5 d1_30 rfl 31 rfl ?_
  refine o_icmpLe X5 d1_31 42 34 (by decide) (by decide) rfl (fun q => by exfalso; exact absurd q (by decide)) ?_
  intro hc31
  refine o_aloadN X5 d1_34 rfl rfl 35 rfl ?_
  refine o_iconst (v := (2 : Int32)) X5 d1_35 rfl 36 rfl ?_
  refine o_iloadN X5 d1_36 rfl 37 rfl ?_
  refine o_iconst (v := (2 : Int32)) X5 d1_37 rfl 38 rfl ?_
  refine o_callS X5 d1_38 (rest := [(.int (2 : Int32)), (.ref b1)]) (c_bit l Z a0 hw [] n0 _ X5.size xv (2 : Int32) ) (hw _ (List.mem_of_getElem? (i := 31) rfl)) (hw _ (List.mem_of_getElem? (i := 32) rfl)) (hw _ (List.mem_of_getElem? (i := 2) rfl)) (hw _ (List.mem_of_getElem? (i := 33) rfl)) (by decide) 2 (by decide) (by decide) rfl [(.int xv), (.int (2 : Int32))] rfl pd_6 rfl rfl (Nat.le_of_eq rfl) 1 3 rfl rfl (by decide) (by decide) 41 rfl ?_
  rintro _ T6 _ X6 ⟨rfl, rfl⟩
  show OE p e ({ frames := 1, cells := 1, slots := 3, locals := 15 } : Room) below s n0 Q' T6 (mkF m 41 #[.val (.int xv), .val (.int (3 : Int32)), .val (.ref b1)] [(.int (f_bit xv (2 : Int32))), (.int (2 : Int32)), (.ref b1)])
  refine o_bastoreZ X6 H5 0 rfl d1_41 2 rfl (by show 2 < 3; decide) (f_bit xv (2 : Int32)) (v_nar _ _) 42 rfl ?_
  intro T7 h7 X7 H7
  replace H7 : OL n0 h7 ((b1, OA Z .boolean [(f_bit xv (0 : Int32)), (f_bit xv (1 : Int32)), (f_bit xv (2 : Int32))]) :: L') := H7
  refine o_iloadN X7 d1_42 rfl 43 rfl ?_
  refine o_iconst (v := (3 : Int32)) X7 d1_43 rfl 44 rfl ?_
  refine o_icmpLe X7 d1_44 55 47 (by decide) (by decide) rfl ?_ (fun q => by exfalso; exact absurd q (by decide))
  intro hc44
  refine o_iloadN X7 d1_55 rfl 56 rfl ?_
  refine o_iconst (v := (4 : Int32)) X7 d1_56 rfl 57 rfl ?_
  refine o_icmpLe X7 d1_57 68 60 (by decide) (by decide) rfl ?_ (fun q => by exfalso; exact absurd q (by decide))
  intro hc57
  refine o_iloadN X7 d1_68 rfl 69 rfl ?_
  refine o_iconst (v := (5 : Int32)) X7 d1_69 rfl 70 rfl ?_
  refine o_icmpLe X7 d1_70 81 73 (by decide) (by decide) rfl ?_ (fun q => by exfalso; exact absurd q (by decide))
  intro hc70
  refine o_iloadN X7 d1_81 rfl 82 rfl ?_
  refine o_bipush (v := (6 : Int32)) X7 d1_82 rfl 84 rfl ?_
  refine o_icmpLe X7 d1_84 97 87 (by decide) (by decide) rfl ?_ (fun q => by exfalso; exact absurd q (by decide))
  intro hc84
  refine o_aloadN X7 d1_97 rfl rfl 98 rfl ?_
  exact o_retA X7 rfl rfl d1_98 (by decide) (by decide) (hQ _ _ ⟨_, rfl, H7⟩)
set_option maxRecDepth 65536 in
set_option maxHeartbeats 40000000 in
theorem c_halves_3 (l : Launch) (Z : State) (a0 : Array Value) (hw : ∀ d ∈ tables_1, d.before a0 Z = true) (ws : List Jvm.Cond) (n0 : Nat) (h0 : Heap) (hn0 : n0 ≤ h0.size) (xa xb : Addr) (xx xy : Int32) (L' : List (Addr × (Cell → Prop))) (H0 : OL n0 h0 ((xa, OA Z .boolean [(f_bit xx (0 : Int32)), (f_bit xx (1 : Int32)), (f_bit xx (2 : Int32))]) :: (xb, OA Z .boolean [(f_bit xy (0 : Int32)), (f_bit xy (1 : Int32)), (f_bit xy (2 : Int32))]) :: L')) :
    OC l Z (⟨"com/example/eratosthenes/eratosthenes/tune/GeneticSearch", "halves", "([Z[Z)[Z"⟩ : MethodName) prog_27_method_4_code 3 (some (.array .boolean)) ws ({ frames := 1, cells := 1, slots := 3, locals := 32 } : Room) n0 #[(.ref xa), (.ref xb)] h0 (fun r h => ∃ a, r = some (.ref a) ∧ OL n0 h ((a, OA Z .boolean [(f_bit xx (0 : Int32)), (f_bit xy (1 : Int32)), (f_bit xy (2 : Int32))]) :: (xa, OA Z .boolean [(f_bit xx (0 : Int32)), (f_bit xx (1 : Int32)), (f_bit xx (2 : Int32))]) :: (xb, OA Z .boolean [(f_bit xy (0 : Int32)), (f_bit xy (1 : Int32)), (f_bit xy (2 : Int32))]) :: L')) := by
  refine OC.of pn_1 hn0 #[.val (.ref xa), .val (.ref xb), .unset] (fun m => by first | (simp [entryFrame, mkF, argsToLocals, Value.category, maxLocals]; done) | rfl) ?_
  intro p e s m below meth cd0 T0 X0 Q' hQ
  refine o_aloadN X0 d2_0 rfl rfl 1 rfl ?_
  refine o_clone X0 H0 1 rfl d2_1 (by decide) (hw _ (List.mem_of_getElem? (i := 9) rfl)) (hw _ (List.mem_of_getElem? (i := 10) rfl)) (hw _ (List.mem_of_getElem? (i := 14) rfl)) (hw _ (List.mem_of_getElem? (i := 12) rfl)) (hw _ (List.mem_of_getElem? (i := 13) rfl)) (hw _ (List.mem_of_getElem? (i := 15) rfl)) (by show 3 < 2 ^ 31; decide) 3 (by show 3 ≤ 3; decide) rfl (by decide) 0 (Nat.le_of_eq rfl) (by decide) 1 3 rfl rfl (by decide) (by decide) 4 rfl ?_
  intro T1 h1 b1 X1 H1
  refine o_checkcast X1 H1 0 rfl d2_4 (by decide) (hw _ (List.mem_of_getElem? (i := 16) rfl)) 7 rfl ?_
  intro T2 X2
  refine o_astoreN X2 d2_7 rfl #[.val (.ref xa), .val (.ref xb), .val (.ref b1)] rfl 8 rfl ?_
  refine o_aloadN X2 d2_8 rfl rfl 9 rfl ?_
  refine o_iconst (v := (0 : Int32)) X2 d2_9 rfl 10 rfl ?_
  refine o_aloadN X2 d2_10 rfl rfl 11 rfl ?_
  refine o_iconst (v := (0 : Int32)) X2 d2_11 rfl 12 rfl ?_
  refine o_aloadN X2 d2_12 rfl rfl 13 rfl ?_
  refine o_arraylength X2 H1 1 rfl d2_13 (3 : Int32) rfl 14 rfl ?_
  refine o_iconst (v := (2 : Int32)) X2 d2_14 rfl 15 rfl ?_
  refine o_idiv X2 d2_15 (by decide) 16 rfl ?_
  refine o_arraycopy X2 H1 1 0 rfl rfl d2_16 (hw _ (List.mem_of_getElem? (i := 18) rfl)) (hw _ (List.mem_of_getElem? (i := 21) rfl)) (hw _ (List.mem_of_getElem? (i := 19) rfl)) (hw _ (List.mem_of_getElem? (i := 20) rfl)) rfl (by show 3 < 2 ^ 31; decide) (by show 3 < 2 ^ 31; decide) 0 0 1 rfl rfl rfl (by show 1 ≤ 3; decide) (by show 1 ≤ 3; decide) rfl (by decide) 0 (Nat.le_of_eq rfl) (by decide) 19 rfl ?_
  intro T3 h3 X3 H3
  replace H3 : OL n0 h3 ((b1, OA Z .boolean [(f_bit xx (0 : Int32)), (f_bit xy (1 : Int32)), (f_bit xy (2 : Int32))]) :: (xa, OA Z .boolean [(f_bit xx (0 : Int32)), (f_bit xx (1 : Int32)), (f_bit xx (2 : Int32))]) :: (xb, OA Z .boolean [(f_bit xy (0 : Int32)), (f_bit xy (1 : Int32)), (f_bit xy (2 : Int32))]) :: L') := H3
  refine o_aloadN X3 d2_19 rfl rfl 20 rfl ?_
  exact o_retA X3 rfl rfl d2_20 (by decide) (by decide) (hQ _ _ ⟨_, rfl, H3⟩)
set_option maxRecDepth 65536 in
set_option maxHeartbeats 40000000 in
theorem c_all_3 (l : Launch) (Z : State) (a0 : Array Value) (hw : ∀ d ∈ tables_1, d.before a0 Z = true) (ws : List Jvm.Cond) (n0 : Nat) (h0 : Heap) (hn0 : n0 ≤ h0.size) (xa : Addr) (xv : Int32) (L' : List (Addr × (Cell → Prop))) (H0 : OL n0 h0 ((xa, OA Z .boolean [(f_bit xv (0 : Int32)), (f_bit xv (1 : Int32)), (f_bit xv (2 : Int32))]) :: L')) :
    OC l Z (⟨"com/example/eratosthenes/eratosthenes/tune/GeneticSearchHalvesPinLaw", "allKept", "([ZII)Z"⟩ : MethodName) method_6_code 3 (some .boolean) ws ({ frames := 2, cells := 0, slots := 0, locals := 29 } : Room) n0 #[(.ref xa), (.int (3 : Int32)), (.int xv)] h0 (fun r h => r = some (.int 1) ∧ h0 = h) := by
  refine OC.of pn_0 hn0 #[.val (.ref xa), .val (.int (3 : Int32)), .val (.int xv)] (fun m => by first | (simp [entryFrame, mkF, argsToLocals, Value.category, maxLocals]; done) | rfl) ?_
  intro p e s m below meth cd0 T0 X0 Q' hQ
  refine o_aloadN X0 d4_0 rfl rfl 1 rfl ?_
  refine o_iconst (v := (0 : Int32)) X0 d4_1 rfl 2 rfl ?_
  refine o_iloadN X0 d4_2 rfl 3 rfl ?_
  refine o_iloadN X0 d4_3 rfl 4 rfl ?_
  refine o_callS X0 d4_4 (rest := []) (c_kept_3_0 l Z a0 hw [] n0 _ X0.size xa xv L' H0) (hw _ (List.mem_of_getElem? (i := 28) rfl)) (hw _ (List.mem_of_getElem? (i := 29) rfl)) (hw _ (List.mem_of_getElem? (i := 2) rfl)) (hw _ (List.mem_of_getElem? (i := 30) rfl)) (by decide) 0 (by decide) (by decide) rfl [(.ref xa), (.int (0 : Int32)), (.int (3 : Int32)), (.int xv)] rfl pd_5 rfl rfl (Nat.le_of_eq rfl) 0 0 rfl rfl (by decide) (by decide) 7 rfl ?_
  rintro _ T1 _ X1 ⟨rfl, rfl⟩
  show OE p e ({ frames := 2, cells := 0, slots := 0, locals := 29 } : Room) below s n0 Q' T1 (mkF m 7 #[.val (.ref xa), .val (.int (3 : Int32)), .val (.int xv)] [(.int (1 : Int32))])
  refine o_ifEq X1 d4_7 75 10 (by decide) (by decide) rfl (fun q => by exfalso; exact absurd q (by decide)) ?_
  intro hc7
  refine o_aloadN X1 d4_10 rfl rfl 11 rfl ?_
  refine o_iconst (v := (1 : Int32)) X1 d4_11 rfl 12 rfl ?_
  refine o_iloadN X1 d4_12 rfl 13 rfl ?_
  refine o_iloadN X1 d4_13 rfl 14 rfl ?_
  refine o_callS X1 d4_14 (rest := []) (c_kept_3_1 l Z a0 hw [] n0 _ X1.size xa xv L' H0) (hw _ (List.mem_of_getElem? (i := 28) rfl)) (hw _ (List.mem_of_getElem? (i := 29) rfl)) (hw _ (List.mem_of_getElem? (i := 2) rfl)) (hw _ (List.mem_of_getElem? (i := 30) rfl)) (by decide) 0 (by decide) (by decide) rfl [(.ref xa), (.int (1 : Int32)), (.int (3 : Int32)), (.int xv)] rfl pd_5 rfl rfl (Nat.le_of_eq rfl) 0 0 rfl rfl (by decide) (by decide) 17 rfl ?_
  rintro _ T2 _ X2 ⟨rfl, rfl⟩
  show OE p e ({ frames := 2, cells := 0, slots := 0, locals := 29 } : Room) below s n0 Q' T2 (mkF m 17 #[.val (.ref xa), .val (.int (3 : Int32)), .val (.int xv)] [(.int (1 : Int32))])
  refine o_ifEq X2 d4_17 75 20 (by decide) (by decide) rfl (fun q => by exfalso; exact absurd q (by decide)) ?_
  intro hc17
  refine o_aloadN X2 d4_20 rfl rfl 21 rfl ?_
  refine o_iconst (v := (2 : Int32)) X2 d4_21 rfl 22 rfl ?_
  refine o_iloadN X2 d4_22 rfl 23 rfl ?_
  refine o_iloadN X2 d4_23 rfl 24 rfl ?_
  refine o_callS X2 d4_24 (rest := []) (c_kept_3_2 l Z a0 hw [] n0 _ X2.size xa xv L' H0) (hw _ (List.mem_of_getElem? (i := 28) rfl)) (hw _ (List.mem_of_getElem? (i := 29) rfl)) (hw _ (List.mem_of_getElem? (i := 2) rfl)) (hw _ (List.mem_of_getElem? (i := 30) rfl)) (by decide) 0 (by decide) (by decide) rfl [(.ref xa), (.int (2 : Int32)), (.int (3 : Int32)), (.int xv)] rfl pd_5 rfl rfl (Nat.le_of_eq rfl) 0 0 rfl rfl (by decide) (by decide) 27 rfl ?_
  rintro _ T3 _ X3 ⟨rfl, rfl⟩
  show OE p e ({ frames := 2, cells := 0, slots := 0, locals := 29 } : Room) below s n0 Q' T3 (mkF m 27 #[.val (.ref xa), .val (.int (3 : Int32)), .val (.int xv)] [(.int (1 : Int32))])
  refine o_ifEq X3 d4_27 75 30 (by decide) (by decide) rfl (fun q => by exfalso; exact absurd q (by decide)) ?_
  intro hc27
  refine o_aloadN X3 d4_30 rfl rfl 31 rfl ?_
  refine o_iconst (v := (3 : Int32)) X3 d4_31 rfl 32 rfl ?_
  refine o_iloadN X3 d4_32 rfl 33 rfl ?_
  refine o_iloadN X3 d4_33 rfl 34 rfl ?_
  refine o_callS X3 d4_34 (rest := []) (c_kept_3_3 l Z a0 hw [] n0 _ X3.size xa xv L' H0) (hw _ (List.mem_of_getElem? (i := 28) rfl)) (hw _ (List.mem_of_getElem? (i := 29) rfl)) (hw _ (List.mem_of_getElem? (i := 2) rfl)) (hw _ (List.mem_of_getElem? (i := 30) rfl)) (by decide) 0 (by decide) (by decide) rfl [(.ref xa), (.int (3 : Int32)), (.int (3 : Int32)), (.int xv)] rfl pd_5 rfl rfl (Nat.le_of_eq rfl) 0 0 rfl rfl (by decide) (by decide) 37 rfl ?_
  rintro _ T4 _ X4 ⟨rfl, rfl⟩
  show OE p e ({ frames := 2, cells := 0, slots := 0, locals := 29 } : Room) below s n0 Q' T4 (mkF m 37 #[.val (.ref xa), .val (.int (3 : Int32)), .val (.int xv)] [(.int (1 : Int32))])
  refine o_ifEq X4 d4_37 75 40 (by decide) (by decide) rfl (fun q => by exfalso; exact absurd q (by decide)) ?_
  intro hc37
  refine o_aloadN X4 d4_40 rfl rfl 41 rfl ?_
  refine o_iconst (v := (4 : Int32)) X4 d4_41 rfl 42 rfl ?_
  refine o_iloadN X4 d4_42 rfl 43 rfl ?_
  refine o_iloadN X4 d4_43 rfl 44 rfl ?_
  refine o_callS X4 d4_44 (rest := []) (c_kept_3_4 l Z a0 hw [] n0 _ X4.size xa xv L' H0) (hw _ (List.mem_of_getElem? (i := 28) rfl)) (hw _ (List.mem_of_getElem? (i := 29) rfl)) (hw _ (List.mem_of_getElem? (i := 2) rfl)) (hw _ (List.mem_of_getElem? (i := 30) rfl)) (by decide) 0 (by decide) (by decide) rfl [(.ref xa), (.int (4 : Int32)), (.int (3 : Int32)), (.int xv)] rfl pd_5 rfl rfl (Nat.le_of_eq rfl) 0 0 rfl rfl (by decide) (by decide) 47 rfl ?_
  rintro _ T5 _ X5 ⟨rfl, rfl⟩
  show OE p e ({ frames := 2, cells := 0, slots := 0, locals := 29 } : Room) below s n0 Q' T5 (mkF m 47 #[.val (.ref xa), .val (.int (3 : Int32)), .val (.int xv)] [(.int (1 : Int32))])
  refine o_ifEq X5 d4_47 75 50 (by decide) (by decide) rfl (fun q => by exfalso; exact absurd q (by decide)) ?_
  intro hc47
  refine o_aloadN X5 d4_50 rfl rfl 51 rfl ?_
  refine o_iconst (v := (5 : Int32)) X5 d4_51 rfl 52 rfl ?_
  refine o_iloadN X5 d4_52 rfl 53 rfl ?_
  refine o_iloadN X5 d4_53 rfl 54 rfl ?_
  refine o_callS X5 d4_54 (rest := []) (c_kept_3_5 l Z a0 hw [] n0 _ X5.size xa xv L' H0) (hw _ (List.mem_of_getElem? (i := 28) rfl)) (hw _ (List.mem_of_getElem? (i := 29) rfl)) (hw _ (List.mem_of_getElem? (i := 2) rfl)) (hw _ (List.mem_of_getElem? (i := 30) rfl)) (by decide) 0 (by decide) (by decide) rfl [(.ref xa), (.int (5 : Int32)), (.int (3 : Int32)), (.int xv)] rfl pd_5 rfl rfl (Nat.le_of_eq rfl) 0 0 rfl rfl (by decide) (by decide) 57 rfl ?_
  rintro _ T6 _ X6 ⟨rfl, rfl⟩
  show OE p e ({ frames := 2, cells := 0, slots := 0, locals := 29 } : Room) below s n0 Q' T6 (mkF m 57 #[.val (.ref xa), .val (.int (3 : Int32)), .val (.int xv)] [(.int (1 : Int32))])
  refine o_ifEq X6 d4_57 75 60 (by decide) (by decide) rfl (fun q => by exfalso; exact absurd q (by decide)) ?_
  intro hc57
  refine o_aloadN X6 d4_60 rfl rfl 61 rfl ?_
  refine o_bipush (v := (6 : Int32)) X6 d4_61 rfl 63 rfl ?_
  refine o_iloadN X6 d4_63 rfl 64 rfl ?_
  refine o_iloadN X6 d4_64 rfl 65 rfl ?_
  refine o_callS X6 d4_65 (rest := []) (c_kept_3_6 l Z a0 hw [] n0 _ X6.size xa xv L' H0) (hw _ (List.mem_of_getElem? (i := 28) rfl)) (hw _ (List.mem_of_getElem? (i := 29) rfl)) (hw _ (List.mem_of_getElem? (i := 2) rfl)) (hw _ (List.mem_of_getElem? (i := 30) rfl)) (by decide) 0 (by decide) (by decide) rfl [(.ref xa), (.int (6 : Int32)), (.int (3 : Int32)), (.int xv)] rfl pd_5 rfl rfl (Nat.le_of_eq rfl) 0 0 rfl rfl (by decide) (by decide) 68 rfl ?_
  rintro _ T7 _ X7 ⟨rfl, rfl⟩
  show OE p e ({ frames := 2, cells := 0, slots := 0, locals := 29 } : Room) below s n0 Q' T7 (mkF m 68 #[.val (.ref xa), .val (.int (3 : Int32)), .val (.int xv)] [(.int (1 : Int32))])
  refine o_ifEq X7 d4_68 75 71 (by decide) (by decide) rfl (fun q => by exfalso; exact absurd q (by decide)) ?_
  intro hc68
  refine o_iconst (v := (1 : Int32)) X7 d4_71 rfl 72 rfl ?_
  refine o_goto X7 d4_72 76 (by decide) (by decide) ?_
  exact o_retZ X7 d4_76 (by decide) (by decide) (hQ _ _ ⟨rfl, rfl⟩)
set_option maxRecDepth 65536 in
set_option maxHeartbeats 40000000 in
theorem c_make_4 (l : Launch) (Z : State) (a0 : Array Value) (hw : ∀ d ∈ tables_1, d.before a0 Z = true) (ws : List Jvm.Cond) (n0 : Nat) (h0 : Heap) (hn0 : n0 ≤ h0.size) (xv : Int32) (L' : List (Addr × (Cell → Prop))) (H0 : OL n0 h0 L') :
    OC l Z (⟨"com/example/eratosthenes/eratosthenes/tune/GeneticSearchHalvesPinLaw", "make", "(II)[Z"⟩ : MethodName) method_3_code 3 (some (.array .boolean)) ws ({ frames := 1, cells := 1, slots := 4, locals := 15 } : Room) n0 #[(.int xv), (.int (4 : Int32))] h0 (fun r h => ∃ a, r = some (.ref a) ∧ OL n0 h ((a, OA Z .boolean [(f_bit xv (0 : Int32)), (f_bit xv (1 : Int32)), (f_bit xv (2 : Int32)), (f_bit xv (3 : Int32))]) :: L')) := by
  refine OC.of pn_0 hn0 #[.val (.int xv), .val (.int (4 : Int32)), .unset] (fun m => by first | (simp [entryFrame, mkF, argsToLocals, Value.category, maxLocals]; done) | rfl) ?_
  intro p e s m below meth cd0 T0 X0 Q' hQ
  refine o_iloadN X0 d1_0 rfl 1 rfl ?_
  refine o_newarray (L := L') X0 H0 d1_1 (hw _ (List.mem_of_getElem? (i := 4) rfl)) rfl rfl 4 4 rfl (by decide) (by decide) 1 4 rfl rfl (by decide) (by decide) 3 rfl ?_
  intro T1 h1 b1 X1 H1
  replace H1 : OL n0 h1 ((b1, OA Z .boolean [(0 : Int32), (0 : Int32), (0 : Int32), (0 : Int32)]) :: L') := H1
  refine o_astoreN X1 d1_3 rfl #[.val (.int xv), .val (.int (4 : Int32)), .val (.ref b1)] rfl 4 rfl ?_
  refine o_iloadN X1 d1_4 rfl 5 rfl ?_
  refine o_ifLe X1 d1_5 16 8 (by decide) (by decide) rfl (fun q => by exfalso; exact absurd q (by decide)) ?_
  intro hc5
  refine o_aloadN X1 d1_8 rfl rfl 9 rfl ?_
  refine o_iconst (v := (0 : Int32)) X1 d1_9 rfl 10 rfl ?_
  refine o_iloadN X1 d1_10 rfl 11 rfl ?_
  refine o_iconst (v := (0 : Int32)) X1 d1_11 rfl 12 rfl ?_
  refine o_callS X1 d1_12 (rest := [(.int (0 : Int32)), (.ref b1)]) (c_bit l Z a0 hw [] n0 _ X1.size xv (0 : Int32) ) (hw _ (List.mem_of_getElem? (i := 31) rfl)) (hw _ (List.mem_of_getElem? (i := 32) rfl)) (hw _ (List.mem_of_getElem? (i := 2) rfl)) (hw _ (List.mem_of_getElem? (i := 33) rfl)) (by decide) 2 (by decide) (by decide) rfl [(.int xv), (.int (0 : Int32))] rfl pd_6 rfl rfl (Nat.le_of_eq rfl) 1 4 rfl rfl (by decide) (by decide) 15 rfl ?_
  rintro _ T2 _ X2 ⟨rfl, rfl⟩
  show OE p e ({ frames := 1, cells := 1, slots := 4, locals := 15 } : Room) below s n0 Q' T2 (mkF m 15 #[.val (.int xv), .val (.int (4 : Int32)), .val (.ref b1)] [(.int (f_bit xv (0 : Int32))), (.int (0 : Int32)), (.ref b1)])
  refine o_bastoreZ X2 H1 0 rfl d1_15 0 rfl (by show 0 < 4; decide) (f_bit xv (0 : Int32)) (v_nar _ _) 16 rfl ?_
  intro T3 h3 X3 H3
  replace H3 : OL n0 h3 ((b1, OA Z .boolean [(f_bit xv (0 : Int32)), (0 : Int32), (0 : Int32), (0 : Int32)]) :: L') := H3
  refine o_iloadN X3 d1_16 rfl 17 rfl ?_
  refine o_iconst (v := (1 : Int32)) X3 d1_17 rfl 18 rfl ?_
  refine o_icmpLe X3 d1_18 29 21 (by decide) (by decide) rfl (fun q => by exfalso; exact absurd q (by decide)) ?_
  intro hc18
  refine o_aloadN X3 d1_21 rfl rfl 22 rfl ?_
  refine o_iconst (v := (1 : Int32)) X3 d1_22 rfl 23 rfl ?_
  refine o_iloadN X3 d1_23 rfl 24 rfl ?_
  refine o_iconst (v := (1 : Int32)) X3 d1_24 rfl 25 rfl ?_
  refine o_callS X3 d1_25 (rest := [(.int (1 : Int32)), (.ref b1)]) (c_bit l Z a0 hw [] n0 _ X3.size xv (1 : Int32) ) (hw _ (List.mem_of_getElem? (i := 31) rfl)) (hw _ (List.mem_of_getElem? (i := 32) rfl)) (hw _ (List.mem_of_getElem? (i := 2) rfl)) (hw _ (List.mem_of_getElem? (i := 33) rfl)) (by decide) 2 (by decide) (by decide) rfl [(.int xv), (.int (1 : Int32))] rfl pd_6 rfl rfl (Nat.le_of_eq rfl) 1 4 rfl rfl (by decide) (by decide) 28 rfl ?_
  rintro _ T4 _ X4 ⟨rfl, rfl⟩
  show OE p e ({ frames := 1, cells := 1, slots := 4, locals := 15 } : Room) below s n0 Q' T4 (mkF m 28 #[.val (.int xv), .val (.int (4 : Int32)), .val (.ref b1)] [(.int (f_bit xv (1 : Int32))), (.int (1 : Int32)), (.ref b1)])
  refine o_bastoreZ X4 H3 0 rfl d1_28 1 rfl (by show 1 < 4; decide) (f_bit xv (1 : Int32)) (v_nar _ _) 29 rfl ?_
  intro T5 h5 X5 H5
  replace H5 : OL n0 h5 ((b1, OA Z .boolean [(f_bit xv (0 : Int32)), (f_bit xv (1 : Int32)), (0 : Int32), (0 : Int32)]) :: L') := H5
  refine o_iloadN X5 d1_29 rfl 30 rfl ?_
  refine o_iconst (v := (2 : Int32)) X5 d1_30 rfl 31 rfl ?_
  refine o_icmpLe X5 d1_31 42 34 (by decide) (by decide) rfl (fun q => by exfalso; exact absurd q (by decide)) ?_
  intro hc31
  refine o_aloadN X5 d1_34 rfl rfl 35 rfl ?_
  refine o_iconst (v := (2 : Int32)) X5 d1_35 rfl 36 rfl ?_
  refine o_iloadN X5 d1_36 rfl 37 rfl ?_
  refine o_iconst (v := (2 : Int32)) X5 d1_37 rfl 38 rfl ?_
  refine o_callS X5 d1_38 (rest := [(.int (2 : Int32)), (.ref b1)]) (c_bit l Z a0 hw [] n0 _ X5.size xv (2 : Int32) ) (hw _ (List.mem_of_getElem? (i := 31) rfl)) (hw _ (List.mem_of_getElem? (i := 32) rfl)) (hw _ (List.mem_of_getElem? (i := 2) rfl)) (hw _ (List.mem_of_getElem? (i := 33) rfl)) (by decide) 2 (by decide) (by decide) rfl [(.int xv), (.int (2 : Int32))] rfl pd_6 rfl rfl (Nat.le_of_eq rfl) 1 4 rfl rfl (by decide) (by decide) 41 rfl ?_
  rintro _ T6 _ X6 ⟨rfl, rfl⟩
  show OE p e ({ frames := 1, cells := 1, slots := 4, locals := 15 } : Room) below s n0 Q' T6 (mkF m 41 #[.val (.int xv), .val (.int (4 : Int32)), .val (.ref b1)] [(.int (f_bit xv (2 : Int32))), (.int (2 : Int32)), (.ref b1)])
  refine o_bastoreZ X6 H5 0 rfl d1_41 2 rfl (by show 2 < 4; decide) (f_bit xv (2 : Int32)) (v_nar _ _) 42 rfl ?_
  intro T7 h7 X7 H7
  replace H7 : OL n0 h7 ((b1, OA Z .boolean [(f_bit xv (0 : Int32)), (f_bit xv (1 : Int32)), (f_bit xv (2 : Int32)), (0 : Int32)]) :: L') := H7
  refine o_iloadN X7 d1_42 rfl 43 rfl ?_
  refine o_iconst (v := (3 : Int32)) X7 d1_43 rfl 44 rfl ?_
  refine o_icmpLe X7 d1_44 55 47 (by decide) (by decide) rfl (fun q => by exfalso; exact absurd q (by decide)) ?_
  intro hc44
  refine o_aloadN X7 d1_47 rfl rfl 48 rfl ?_
  refine o_iconst (v := (3 : Int32)) X7 d1_48 rfl 49 rfl ?_
  refine o_iloadN X7 d1_49 rfl 50 rfl ?_
  refine o_iconst (v := (3 : Int32)) X7 d1_50 rfl 51 rfl ?_
  refine o_callS X7 d1_51 (rest := [(.int (3 : Int32)), (.ref b1)]) (c_bit l Z a0 hw [] n0 _ X7.size xv (3 : Int32) ) (hw _ (List.mem_of_getElem? (i := 31) rfl)) (hw _ (List.mem_of_getElem? (i := 32) rfl)) (hw _ (List.mem_of_getElem? (i := 2) rfl)) (hw _ (List.mem_of_getElem? (i := 33) rfl)) (by decide) 2 (by decide) (by decide) rfl [(.int xv), (.int (3 : Int32))] rfl pd_6 rfl rfl (Nat.le_of_eq rfl) 1 4 rfl rfl (by decide) (by decide) 54 rfl ?_
  rintro _ T8 _ X8 ⟨rfl, rfl⟩
  show OE p e ({ frames := 1, cells := 1, slots := 4, locals := 15 } : Room) below s n0 Q' T8 (mkF m 54 #[.val (.int xv), .val (.int (4 : Int32)), .val (.ref b1)] [(.int (f_bit xv (3 : Int32))), (.int (3 : Int32)), (.ref b1)])
  refine o_bastoreZ X8 H7 0 rfl d1_54 3 rfl (by show 3 < 4; decide) (f_bit xv (3 : Int32)) (v_nar _ _) 55 rfl ?_
  intro T9 h9 X9 H9
  replace H9 : OL n0 h9 ((b1, OA Z .boolean [(f_bit xv (0 : Int32)), (f_bit xv (1 : Int32)), (f_bit xv (2 : Int32)), (f_bit xv (3 : Int32))]) :: L') := H9
  refine o_iloadN X9 d1_55 rfl 56 rfl ?_
  refine o_iconst (v := (4 : Int32)) X9 d1_56 rfl 57 rfl ?_
  refine o_icmpLe X9 d1_57 68 60 (by decide) (by decide) rfl ?_ (fun q => by exfalso; exact absurd q (by decide))
  intro hc57
  refine o_iloadN X9 d1_68 rfl 69 rfl ?_
  refine o_iconst (v := (5 : Int32)) X9 d1_69 rfl 70 rfl ?_
  refine o_icmpLe X9 d1_70 81 73 (by decide) (by decide) rfl ?_ (fun q => by exfalso; exact absurd q (by decide))
  intro hc70
  refine o_iloadN X9 d1_81 rfl 82 rfl ?_
  refine o_bipush (v := (6 : Int32)) X9 d1_82 rfl 84 rfl ?_
  refine o_icmpLe X9 d1_84 97 87 (by decide) (by decide) rfl ?_ (fun q => by exfalso; exact absurd q (by decide))
  intro hc84
  refine o_aloadN X9 d1_97 rfl rfl 98 rfl ?_
  exact o_retA X9 rfl rfl d1_98 (by decide) (by decide) (hQ _ _ ⟨_, rfl, H9⟩)
set_option maxRecDepth 65536 in
set_option maxHeartbeats 40000000 in
theorem c_halves_4 (l : Launch) (Z : State) (a0 : Array Value) (hw : ∀ d ∈ tables_1, d.before a0 Z = true) (ws : List Jvm.Cond) (n0 : Nat) (h0 : Heap) (hn0 : n0 ≤ h0.size) (xa xb : Addr) (xx xy : Int32) (L' : List (Addr × (Cell → Prop))) (H0 : OL n0 h0 ((xa, OA Z .boolean [(f_bit xx (0 : Int32)), (f_bit xx (1 : Int32)), (f_bit xx (2 : Int32)), (f_bit xx (3 : Int32))]) :: (xb, OA Z .boolean [(f_bit xy (0 : Int32)), (f_bit xy (1 : Int32)), (f_bit xy (2 : Int32)), (f_bit xy (3 : Int32))]) :: L')) :
    OC l Z (⟨"com/example/eratosthenes/eratosthenes/tune/GeneticSearch", "halves", "([Z[Z)[Z"⟩ : MethodName) prog_27_method_4_code 3 (some (.array .boolean)) ws ({ frames := 1, cells := 1, slots := 4, locals := 32 } : Room) n0 #[(.ref xa), (.ref xb)] h0 (fun r h => ∃ a, r = some (.ref a) ∧ OL n0 h ((a, OA Z .boolean [(f_bit xx (0 : Int32)), (f_bit xx (1 : Int32)), (f_bit xy (2 : Int32)), (f_bit xy (3 : Int32))]) :: (xa, OA Z .boolean [(f_bit xx (0 : Int32)), (f_bit xx (1 : Int32)), (f_bit xx (2 : Int32)), (f_bit xx (3 : Int32))]) :: (xb, OA Z .boolean [(f_bit xy (0 : Int32)), (f_bit xy (1 : Int32)), (f_bit xy (2 : Int32)), (f_bit xy (3 : Int32))]) :: L')) := by
  refine OC.of pn_1 hn0 #[.val (.ref xa), .val (.ref xb), .unset] (fun m => by first | (simp [entryFrame, mkF, argsToLocals, Value.category, maxLocals]; done) | rfl) ?_
  intro p e s m below meth cd0 T0 X0 Q' hQ
  refine o_aloadN X0 d2_0 rfl rfl 1 rfl ?_
  refine o_clone X0 H0 1 rfl d2_1 (by decide) (hw _ (List.mem_of_getElem? (i := 9) rfl)) (hw _ (List.mem_of_getElem? (i := 10) rfl)) (hw _ (List.mem_of_getElem? (i := 14) rfl)) (hw _ (List.mem_of_getElem? (i := 12) rfl)) (hw _ (List.mem_of_getElem? (i := 13) rfl)) (hw _ (List.mem_of_getElem? (i := 15) rfl)) (by show 4 < 2 ^ 31; decide) 4 (by show 4 ≤ 4; decide) rfl (by decide) 0 (Nat.le_of_eq rfl) (by decide) 1 4 rfl rfl (by decide) (by decide) 4 rfl ?_
  intro T1 h1 b1 X1 H1
  refine o_checkcast X1 H1 0 rfl d2_4 (by decide) (hw _ (List.mem_of_getElem? (i := 16) rfl)) 7 rfl ?_
  intro T2 X2
  refine o_astoreN X2 d2_7 rfl #[.val (.ref xa), .val (.ref xb), .val (.ref b1)] rfl 8 rfl ?_
  refine o_aloadN X2 d2_8 rfl rfl 9 rfl ?_
  refine o_iconst (v := (0 : Int32)) X2 d2_9 rfl 10 rfl ?_
  refine o_aloadN X2 d2_10 rfl rfl 11 rfl ?_
  refine o_iconst (v := (0 : Int32)) X2 d2_11 rfl 12 rfl ?_
  refine o_aloadN X2 d2_12 rfl rfl 13 rfl ?_
  refine o_arraylength X2 H1 1 rfl d2_13 (4 : Int32) rfl 14 rfl ?_
  refine o_iconst (v := (2 : Int32)) X2 d2_14 rfl 15 rfl ?_
  refine o_idiv X2 d2_15 (by decide) 16 rfl ?_
  refine o_arraycopy X2 H1 1 0 rfl rfl d2_16 (hw _ (List.mem_of_getElem? (i := 18) rfl)) (hw _ (List.mem_of_getElem? (i := 21) rfl)) (hw _ (List.mem_of_getElem? (i := 19) rfl)) (hw _ (List.mem_of_getElem? (i := 20) rfl)) rfl (by show 4 < 2 ^ 31; decide) (by show 4 < 2 ^ 31; decide) 0 0 2 rfl rfl rfl (by show 2 ≤ 4; decide) (by show 2 ≤ 4; decide) rfl (by decide) 0 (Nat.le_of_eq rfl) (by decide) 19 rfl ?_
  intro T3 h3 X3 H3
  replace H3 : OL n0 h3 ((b1, OA Z .boolean [(f_bit xx (0 : Int32)), (f_bit xx (1 : Int32)), (f_bit xy (2 : Int32)), (f_bit xy (3 : Int32))]) :: (xa, OA Z .boolean [(f_bit xx (0 : Int32)), (f_bit xx (1 : Int32)), (f_bit xx (2 : Int32)), (f_bit xx (3 : Int32))]) :: (xb, OA Z .boolean [(f_bit xy (0 : Int32)), (f_bit xy (1 : Int32)), (f_bit xy (2 : Int32)), (f_bit xy (3 : Int32))]) :: L') := H3
  refine o_aloadN X3 d2_19 rfl rfl 20 rfl ?_
  exact o_retA X3 rfl rfl d2_20 (by decide) (by decide) (hQ _ _ ⟨_, rfl, H3⟩)
set_option maxRecDepth 65536 in
set_option maxHeartbeats 40000000 in
theorem c_all_4 (l : Launch) (Z : State) (a0 : Array Value) (hw : ∀ d ∈ tables_1, d.before a0 Z = true) (ws : List Jvm.Cond) (n0 : Nat) (h0 : Heap) (hn0 : n0 ≤ h0.size) (xa : Addr) (xv : Int32) (L' : List (Addr × (Cell → Prop))) (H0 : OL n0 h0 ((xa, OA Z .boolean [(f_bit xv (0 : Int32)), (f_bit xv (1 : Int32)), (f_bit xv (2 : Int32)), (f_bit xv (3 : Int32))]) :: L')) :
    OC l Z (⟨"com/example/eratosthenes/eratosthenes/tune/GeneticSearchHalvesPinLaw", "allKept", "([ZII)Z"⟩ : MethodName) method_6_code 3 (some .boolean) ws ({ frames := 2, cells := 0, slots := 0, locals := 29 } : Room) n0 #[(.ref xa), (.int (4 : Int32)), (.int xv)] h0 (fun r h => r = some (.int 1) ∧ h0 = h) := by
  refine OC.of pn_0 hn0 #[.val (.ref xa), .val (.int (4 : Int32)), .val (.int xv)] (fun m => by first | (simp [entryFrame, mkF, argsToLocals, Value.category, maxLocals]; done) | rfl) ?_
  intro p e s m below meth cd0 T0 X0 Q' hQ
  refine o_aloadN X0 d4_0 rfl rfl 1 rfl ?_
  refine o_iconst (v := (0 : Int32)) X0 d4_1 rfl 2 rfl ?_
  refine o_iloadN X0 d4_2 rfl 3 rfl ?_
  refine o_iloadN X0 d4_3 rfl 4 rfl ?_
  refine o_callS X0 d4_4 (rest := []) (c_kept_4_0 l Z a0 hw [] n0 _ X0.size xa xv L' H0) (hw _ (List.mem_of_getElem? (i := 28) rfl)) (hw _ (List.mem_of_getElem? (i := 29) rfl)) (hw _ (List.mem_of_getElem? (i := 2) rfl)) (hw _ (List.mem_of_getElem? (i := 30) rfl)) (by decide) 0 (by decide) (by decide) rfl [(.ref xa), (.int (0 : Int32)), (.int (4 : Int32)), (.int xv)] rfl pd_5 rfl rfl (Nat.le_of_eq rfl) 0 0 rfl rfl (by decide) (by decide) 7 rfl ?_
  rintro _ T1 _ X1 ⟨rfl, rfl⟩
  show OE p e ({ frames := 2, cells := 0, slots := 0, locals := 29 } : Room) below s n0 Q' T1 (mkF m 7 #[.val (.ref xa), .val (.int (4 : Int32)), .val (.int xv)] [(.int (1 : Int32))])
  refine o_ifEq X1 d4_7 75 10 (by decide) (by decide) rfl (fun q => by exfalso; exact absurd q (by decide)) ?_
  intro hc7
  refine o_aloadN X1 d4_10 rfl rfl 11 rfl ?_
  refine o_iconst (v := (1 : Int32)) X1 d4_11 rfl 12 rfl ?_
  refine o_iloadN X1 d4_12 rfl 13 rfl ?_
  refine o_iloadN X1 d4_13 rfl 14 rfl ?_
  refine o_callS X1 d4_14 (rest := []) (c_kept_4_1 l Z a0 hw [] n0 _ X1.size xa xv L' H0) (hw _ (List.mem_of_getElem? (i := 28) rfl)) (hw _ (List.mem_of_getElem? (i := 29) rfl)) (hw _ (List.mem_of_getElem? (i := 2) rfl)) (hw _ (List.mem_of_getElem? (i := 30) rfl)) (by decide) 0 (by decide) (by decide) rfl [(.ref xa), (.int (1 : Int32)), (.int (4 : Int32)), (.int xv)] rfl pd_5 rfl rfl (Nat.le_of_eq rfl) 0 0 rfl rfl (by decide) (by decide) 17 rfl ?_
  rintro _ T2 _ X2 ⟨rfl, rfl⟩
  show OE p e ({ frames := 2, cells := 0, slots := 0, locals := 29 } : Room) below s n0 Q' T2 (mkF m 17 #[.val (.ref xa), .val (.int (4 : Int32)), .val (.int xv)] [(.int (1 : Int32))])
  refine o_ifEq X2 d4_17 75 20 (by decide) (by decide) rfl (fun q => by exfalso; exact absurd q (by decide)) ?_
  intro hc17
  refine o_aloadN X2 d4_20 rfl rfl 21 rfl ?_
  refine o_iconst (v := (2 : Int32)) X2 d4_21 rfl 22 rfl ?_
  refine o_iloadN X2 d4_22 rfl 23 rfl ?_
  refine o_iloadN X2 d4_23 rfl 24 rfl ?_
  refine o_callS X2 d4_24 (rest := []) (c_kept_4_2 l Z a0 hw [] n0 _ X2.size xa xv L' H0) (hw _ (List.mem_of_getElem? (i := 28) rfl)) (hw _ (List.mem_of_getElem? (i := 29) rfl)) (hw _ (List.mem_of_getElem? (i := 2) rfl)) (hw _ (List.mem_of_getElem? (i := 30) rfl)) (by decide) 0 (by decide) (by decide) rfl [(.ref xa), (.int (2 : Int32)), (.int (4 : Int32)), (.int xv)] rfl pd_5 rfl rfl (Nat.le_of_eq rfl) 0 0 rfl rfl (by decide) (by decide) 27 rfl ?_
  rintro _ T3 _ X3 ⟨rfl, rfl⟩
  show OE p e ({ frames := 2, cells := 0, slots := 0, locals := 29 } : Room) below s n0 Q' T3 (mkF m 27 #[.val (.ref xa), .val (.int (4 : Int32)), .val (.int xv)] [(.int (1 : Int32))])
  refine o_ifEq X3 d4_27 75 30 (by decide) (by decide) rfl (fun q => by exfalso; exact absurd q (by decide)) ?_
  intro hc27
  refine o_aloadN X3 d4_30 rfl rfl 31 rfl ?_
  refine o_iconst (v := (3 : Int32)) X3 d4_31 rfl 32 rfl ?_
  refine o_iloadN X3 d4_32 rfl 33 rfl ?_
  refine o_iloadN X3 d4_33 rfl 34 rfl ?_
  refine o_callS X3 d4_34 (rest := []) (c_kept_4_3 l Z a0 hw [] n0 _ X3.size xa xv L' H0) (hw _ (List.mem_of_getElem? (i := 28) rfl)) (hw _ (List.mem_of_getElem? (i := 29) rfl)) (hw _ (List.mem_of_getElem? (i := 2) rfl)) (hw _ (List.mem_of_getElem? (i := 30) rfl)) (by decide) 0 (by decide) (by decide) rfl [(.ref xa), (.int (3 : Int32)), (.int (4 : Int32)), (.int xv)] rfl pd_5 rfl rfl (Nat.le_of_eq rfl) 0 0 rfl rfl (by decide) (by decide) 37 rfl ?_
  rintro _ T4 _ X4 ⟨rfl, rfl⟩
  show OE p e ({ frames := 2, cells := 0, slots := 0, locals := 29 } : Room) below s n0 Q' T4 (mkF m 37 #[.val (.ref xa), .val (.int (4 : Int32)), .val (.int xv)] [(.int (1 : Int32))])
  refine o_ifEq X4 d4_37 75 40 (by decide) (by decide) rfl (fun q => by exfalso; exact absurd q (by decide)) ?_
  intro hc37
  refine o_aloadN X4 d4_40 rfl rfl 41 rfl ?_
  refine o_iconst (v := (4 : Int32)) X4 d4_41 rfl 42 rfl ?_
  refine o_iloadN X4 d4_42 rfl 43 rfl ?_
  refine o_iloadN X4 d4_43 rfl 44 rfl ?_
  refine o_callS X4 d4_44 (rest := []) (c_kept_4_4 l Z a0 hw [] n0 _ X4.size xa xv L' H0) (hw _ (List.mem_of_getElem? (i := 28) rfl)) (hw _ (List.mem_of_getElem? (i := 29) rfl)) (hw _ (List.mem_of_getElem? (i := 2) rfl)) (hw _ (List.mem_of_getElem? (i := 30) rfl)) (by decide) 0 (by decide) (by decide) rfl [(.ref xa), (.int (4 : Int32)), (.int (4 : Int32)), (.int xv)] rfl pd_5 rfl rfl (Nat.le_of_eq rfl) 0 0 rfl rfl (by decide) (by decide) 47 rfl ?_
  rintro _ T5 _ X5 ⟨rfl, rfl⟩
  show OE p e ({ frames := 2, cells := 0, slots := 0, locals := 29 } : Room) below s n0 Q' T5 (mkF m 47 #[.val (.ref xa), .val (.int (4 : Int32)), .val (.int xv)] [(.int (1 : Int32))])
  refine o_ifEq X5 d4_47 75 50 (by decide) (by decide) rfl (fun q => by exfalso; exact absurd q (by decide)) ?_
  intro hc47
  refine o_aloadN X5 d4_50 rfl rfl 51 rfl ?_
  refine o_iconst (v := (5 : Int32)) X5 d4_51 rfl 52 rfl ?_
  refine o_iloadN X5 d4_52 rfl 53 rfl ?_
  refine o_iloadN X5 d4_53 rfl 54 rfl ?_
  refine o_callS X5 d4_54 (rest := []) (c_kept_4_5 l Z a0 hw [] n0 _ X5.size xa xv L' H0) (hw _ (List.mem_of_getElem? (i := 28) rfl)) (hw _ (List.mem_of_getElem? (i := 29) rfl)) (hw _ (List.mem_of_getElem? (i := 2) rfl)) (hw _ (List.mem_of_getElem? (i := 30) rfl)) (by decide) 0 (by decide) (by decide) rfl [(.ref xa), (.int (5 : Int32)), (.int (4 : Int32)), (.int xv)] rfl pd_5 rfl rfl (Nat.le_of_eq rfl) 0 0 rfl rfl (by decide) (by decide) 57 rfl ?_
  rintro _ T6 _ X6 ⟨rfl, rfl⟩
  show OE p e ({ frames := 2, cells := 0, slots := 0, locals := 29 } : Room) below s n0 Q' T6 (mkF m 57 #[.val (.ref xa), .val (.int (4 : Int32)), .val (.int xv)] [(.int (1 : Int32))])
  refine o_ifEq X6 d4_57 75 60 (by decide) (by decide) rfl (fun q => by exfalso; exact absurd q (by decide)) ?_
  intro hc57
  refine o_aloadN X6 d4_60 rfl rfl 61 rfl ?_
  refine o_bipush (v := (6 : Int32)) X6 d4_61 rfl 63 rfl ?_
  refine o_iloadN X6 d4_63 rfl 64 rfl ?_
  refine o_iloadN X6 d4_64 rfl 65 rfl ?_
  refine o_callS X6 d4_65 (rest := []) (c_kept_4_6 l Z a0 hw [] n0 _ X6.size xa xv L' H0) (hw _ (List.mem_of_getElem? (i := 28) rfl)) (hw _ (List.mem_of_getElem? (i := 29) rfl)) (hw _ (List.mem_of_getElem? (i := 2) rfl)) (hw _ (List.mem_of_getElem? (i := 30) rfl)) (by decide) 0 (by decide) (by decide) rfl [(.ref xa), (.int (6 : Int32)), (.int (4 : Int32)), (.int xv)] rfl pd_5 rfl rfl (Nat.le_of_eq rfl) 0 0 rfl rfl (by decide) (by decide) 68 rfl ?_
  rintro _ T7 _ X7 ⟨rfl, rfl⟩
  show OE p e ({ frames := 2, cells := 0, slots := 0, locals := 29 } : Room) below s n0 Q' T7 (mkF m 68 #[.val (.ref xa), .val (.int (4 : Int32)), .val (.int xv)] [(.int (1 : Int32))])
  refine o_ifEq X7 d4_68 75 71 (by decide) (by decide) rfl (fun q => by exfalso; exact absurd q (by decide)) ?_
  intro hc68
  refine o_iconst (v := (1 : Int32)) X7 d4_71 rfl 72 rfl ?_
  refine o_goto X7 d4_72 76 (by decide) (by decide) ?_
  exact o_retZ X7 d4_76 (by decide) (by decide) (hQ _ _ ⟨rfl, rfl⟩)
set_option maxRecDepth 65536 in
set_option maxHeartbeats 40000000 in
theorem c_make_5 (l : Launch) (Z : State) (a0 : Array Value) (hw : ∀ d ∈ tables_1, d.before a0 Z = true) (ws : List Jvm.Cond) (n0 : Nat) (h0 : Heap) (hn0 : n0 ≤ h0.size) (xv : Int32) (L' : List (Addr × (Cell → Prop))) (H0 : OL n0 h0 L') :
    OC l Z (⟨"com/example/eratosthenes/eratosthenes/tune/GeneticSearchHalvesPinLaw", "make", "(II)[Z"⟩ : MethodName) method_3_code 3 (some (.array .boolean)) ws ({ frames := 1, cells := 1, slots := 5, locals := 15 } : Room) n0 #[(.int xv), (.int (5 : Int32))] h0 (fun r h => ∃ a, r = some (.ref a) ∧ OL n0 h ((a, OA Z .boolean [(f_bit xv (0 : Int32)), (f_bit xv (1 : Int32)), (f_bit xv (2 : Int32)), (f_bit xv (3 : Int32)), (f_bit xv (4 : Int32))]) :: L')) := by
  refine OC.of pn_0 hn0 #[.val (.int xv), .val (.int (5 : Int32)), .unset] (fun m => by first | (simp [entryFrame, mkF, argsToLocals, Value.category, maxLocals]; done) | rfl) ?_
  intro p e s m below meth cd0 T0 X0 Q' hQ
  refine o_iloadN X0 d1_0 rfl 1 rfl ?_
  refine o_newarray (L := L') X0 H0 d1_1 (hw _ (List.mem_of_getElem? (i := 4) rfl)) rfl rfl 5 5 rfl (by decide) (by decide) 1 5 rfl rfl (by decide) (by decide) 3 rfl ?_
  intro T1 h1 b1 X1 H1
  replace H1 : OL n0 h1 ((b1, OA Z .boolean [(0 : Int32), (0 : Int32), (0 : Int32), (0 : Int32), (0 : Int32)]) :: L') := H1
  refine o_astoreN X1 d1_3 rfl #[.val (.int xv), .val (.int (5 : Int32)), .val (.ref b1)] rfl 4 rfl ?_
  refine o_iloadN X1 d1_4 rfl 5 rfl ?_
  refine o_ifLe X1 d1_5 16 8 (by decide) (by decide) rfl (fun q => by exfalso; exact absurd q (by decide)) ?_
  intro hc5
  refine o_aloadN X1 d1_8 rfl rfl 9 rfl ?_
  refine o_iconst (v := (0 : Int32)) X1 d1_9 rfl 10 rfl ?_
  refine o_iloadN X1 d1_10 rfl 11 rfl ?_
  refine o_iconst (v := (0 : Int32)) X1 d1_11 rfl 12 rfl ?_
  refine o_callS X1 d1_12 (rest := [(.int (0 : Int32)), (.ref b1)]) (c_bit l Z a0 hw [] n0 _ X1.size xv (0 : Int32) ) (hw _ (List.mem_of_getElem? (i := 31) rfl)) (hw _ (List.mem_of_getElem? (i := 32) rfl)) (hw _ (List.mem_of_getElem? (i := 2) rfl)) (hw _ (List.mem_of_getElem? (i := 33) rfl)) (by decide) 2 (by decide) (by decide) rfl [(.int xv), (.int (0 : Int32))] rfl pd_6 rfl rfl (Nat.le_of_eq rfl) 1 5 rfl rfl (by decide) (by decide) 15 rfl ?_
  rintro _ T2 _ X2 ⟨rfl, rfl⟩
  show OE p e ({ frames := 1, cells := 1, slots := 5, locals := 15 } : Room) below s n0 Q' T2 (mkF m 15 #[.val (.int xv), .val (.int (5 : Int32)), .val (.ref b1)] [(.int (f_bit xv (0 : Int32))), (.int (0 : Int32)), (.ref b1)])
  refine o_bastoreZ X2 H1 0 rfl d1_15 0 rfl (by show 0 < 5; decide) (f_bit xv (0 : Int32)) (v_nar _ _) 16 rfl ?_
  intro T3 h3 X3 H3
  replace H3 : OL n0 h3 ((b1, OA Z .boolean [(f_bit xv (0 : Int32)), (0 : Int32), (0 : Int32), (0 : Int32), (0 : Int32)]) :: L') := H3
  refine o_iloadN X3 d1_16 rfl 17 rfl ?_
  refine o_iconst (v := (1 : Int32)) X3 d1_17 rfl 18 rfl ?_
  refine o_icmpLe X3 d1_18 29 21 (by decide) (by decide) rfl (fun q => by exfalso; exact absurd q (by decide)) ?_
  intro hc18
  refine o_aloadN X3 d1_21 rfl rfl 22 rfl ?_
  refine o_iconst (v := (1 : Int32)) X3 d1_22 rfl 23 rfl ?_
  refine o_iloadN X3 d1_23 rfl 24 rfl ?_
  refine o_iconst (v := (1 : Int32)) X3 d1_24 rfl 25 rfl ?_
  refine o_callS X3 d1_25 (rest := [(.int (1 : Int32)), (.ref b1)]) (c_bit l Z a0 hw [] n0 _ X3.size xv (1 : Int32) ) (hw _ (List.mem_of_getElem? (i := 31) rfl)) (hw _ (List.mem_of_getElem? (i := 32) rfl)) (hw _ (List.mem_of_getElem? (i := 2) rfl)) (hw _ (List.mem_of_getElem? (i := 33) rfl)) (by decide) 2 (by decide) (by decide) rfl [(.int xv), (.int (1 : Int32))] rfl pd_6 rfl rfl (Nat.le_of_eq rfl) 1 5 rfl rfl (by decide) (by decide) 28 rfl ?_
  rintro _ T4 _ X4 ⟨rfl, rfl⟩
  show OE p e ({ frames := 1, cells := 1, slots := 5, locals := 15 } : Room) below s n0 Q' T4 (mkF m 28 #[.val (.int xv), .val (.int (5 : Int32)), .val (.ref b1)] [(.int (f_bit xv (1 : Int32))), (.int (1 : Int32)), (.ref b1)])
  refine o_bastoreZ X4 H3 0 rfl d1_28 1 rfl (by show 1 < 5; decide) (f_bit xv (1 : Int32)) (v_nar _ _) 29 rfl ?_
  intro T5 h5 X5 H5
  replace H5 : OL n0 h5 ((b1, OA Z .boolean [(f_bit xv (0 : Int32)), (f_bit xv (1 : Int32)), (0 : Int32), (0 : Int32), (0 : Int32)]) :: L') := H5
  refine o_iloadN X5 d1_29 rfl 30 rfl ?_
  refine o_iconst (v := (2 : Int32)) X5 d1_30 rfl 31 rfl ?_
  refine o_icmpLe X5 d1_31 42 34 (by decide) (by decide) rfl (fun q => by exfalso; exact absurd q (by decide)) ?_
  intro hc31
  refine o_aloadN X5 d1_34 rfl rfl 35 rfl ?_
  refine o_iconst (v := (2 : Int32)) X5 d1_35 rfl 36 rfl ?_
  refine o_iloadN X5 d1_36 rfl 37 rfl ?_
  refine o_iconst (v := (2 : Int32)) X5 d1_37 rfl 38 rfl ?_
  refine o_callS X5 d1_38 (rest := [(.int (2 : Int32)), (.ref b1)]) (c_bit l Z a0 hw [] n0 _ X5.size xv (2 : Int32) ) (hw _ (List.mem_of_getElem? (i := 31) rfl)) (hw _ (List.mem_of_getElem? (i := 32) rfl)) (hw _ (List.mem_of_getElem? (i := 2) rfl)) (hw _ (List.mem_of_getElem? (i := 33) rfl)) (by decide) 2 (by decide) (by decide) rfl [(.int xv), (.int (2 : Int32))] rfl pd_6 rfl rfl (Nat.le_of_eq rfl) 1 5 rfl rfl (by decide) (by decide) 41 rfl ?_
  rintro _ T6 _ X6 ⟨rfl, rfl⟩
  show OE p e ({ frames := 1, cells := 1, slots := 5, locals := 15 } : Room) below s n0 Q' T6 (mkF m 41 #[.val (.int xv), .val (.int (5 : Int32)), .val (.ref b1)] [(.int (f_bit xv (2 : Int32))), (.int (2 : Int32)), (.ref b1)])
  refine o_bastoreZ X6 H5 0 rfl d1_41 2 rfl (by show 2 < 5; decide) (f_bit xv (2 : Int32)) (v_nar _ _) 42 rfl ?_
  intro T7 h7 X7 H7
  replace H7 : OL n0 h7 ((b1, OA Z .boolean [(f_bit xv (0 : Int32)), (f_bit xv (1 : Int32)), (f_bit xv (2 : Int32)), (0 : Int32), (0 : Int32)]) :: L') := H7
  refine o_iloadN X7 d1_42 rfl 43 rfl ?_
  refine o_iconst (v := (3 : Int32)) X7 d1_43 rfl 44 rfl ?_
  refine o_icmpLe X7 d1_44 55 47 (by decide) (by decide) rfl (fun q => by exfalso; exact absurd q (by decide)) ?_
  intro hc44
  refine o_aloadN X7 d1_47 rfl rfl 48 rfl ?_
  refine o_iconst (v := (3 : Int32)) X7 d1_48 rfl 49 rfl ?_
  refine o_iloadN X7 d1_49 rfl 50 rfl ?_
  refine o_iconst (v := (3 : Int32)) X7 d1_50 rfl 51 rfl ?_
  refine o_callS X7 d1_51 (rest := [(.int (3 : Int32)), (.ref b1)]) (c_bit l Z a0 hw [] n0 _ X7.size xv (3 : Int32) ) (hw _ (List.mem_of_getElem? (i := 31) rfl)) (hw _ (List.mem_of_getElem? (i := 32) rfl)) (hw _ (List.mem_of_getElem? (i := 2) rfl)) (hw _ (List.mem_of_getElem? (i := 33) rfl)) (by decide) 2 (by decide) (by decide) rfl [(.int xv), (.int (3 : Int32))] rfl pd_6 rfl rfl (Nat.le_of_eq rfl) 1 5 rfl rfl (by decide) (by decide) 54 rfl ?_
  rintro _ T8 _ X8 ⟨rfl, rfl⟩
  show OE p e ({ frames := 1, cells := 1, slots := 5, locals := 15 } : Room) below s n0 Q' T8 (mkF m 54 #[.val (.int xv), .val (.int (5 : Int32)), .val (.ref b1)] [(.int (f_bit xv (3 : Int32))), (.int (3 : Int32)), (.ref b1)])
  refine o_bastoreZ X8 H7 0 rfl d1_54 3 rfl (by show 3 < 5; decide) (f_bit xv (3 : Int32)) (v_nar _ _) 55 rfl ?_
  intro T9 h9 X9 H9
  replace H9 : OL n0 h9 ((b1, OA Z .boolean [(f_bit xv (0 : Int32)), (f_bit xv (1 : Int32)), (f_bit xv (2 : Int32)), (f_bit xv (3 : Int32)), (0 : Int32)]) :: L') := H9
  refine o_iloadN X9 d1_55 rfl 56 rfl ?_
  refine o_iconst (v := (4 : Int32)) X9 d1_56 rfl 57 rfl ?_
  refine o_icmpLe X9 d1_57 68 60 (by decide) (by decide) rfl (fun q => by exfalso; exact absurd q (by decide)) ?_
  intro hc57
  refine o_aloadN X9 d1_60 rfl rfl 61 rfl ?_
  refine o_iconst (v := (4 : Int32)) X9 d1_61 rfl 62 rfl ?_
  refine o_iloadN X9 d1_62 rfl 63 rfl ?_
  refine o_iconst (v := (4 : Int32)) X9 d1_63 rfl 64 rfl ?_
  refine o_callS X9 d1_64 (rest := [(.int (4 : Int32)), (.ref b1)]) (c_bit l Z a0 hw [] n0 _ X9.size xv (4 : Int32) ) (hw _ (List.mem_of_getElem? (i := 31) rfl)) (hw _ (List.mem_of_getElem? (i := 32) rfl)) (hw _ (List.mem_of_getElem? (i := 2) rfl)) (hw _ (List.mem_of_getElem? (i := 33) rfl)) (by decide) 2 (by decide) (by decide) rfl [(.int xv), (.int (4 : Int32))] rfl pd_6 rfl rfl (Nat.le_of_eq rfl) 1 5 rfl rfl (by decide) (by decide) 67 rfl ?_
  rintro _ T10 _ X10 ⟨rfl, rfl⟩
  show OE p e ({ frames := 1, cells := 1, slots := 5, locals := 15 } : Room) below s n0 Q' T10 (mkF m 67 #[.val (.int xv), .val (.int (5 : Int32)), .val (.ref b1)] [(.int (f_bit xv (4 : Int32))), (.int (4 : Int32)), (.ref b1)])
  refine o_bastoreZ X10 H9 0 rfl d1_67 4 rfl (by show 4 < 5; decide) (f_bit xv (4 : Int32)) (v_nar _ _) 68 rfl ?_
  intro T11 h11 X11 H11
  replace H11 : OL n0 h11 ((b1, OA Z .boolean [(f_bit xv (0 : Int32)), (f_bit xv (1 : Int32)), (f_bit xv (2 : Int32)), (f_bit xv (3 : Int32)), (f_bit xv (4 : Int32))]) :: L') := H11
  refine o_iloadN X11 d1_68 rfl 69 rfl ?_
  refine o_iconst (v := (5 : Int32)) X11 d1_69 rfl 70 rfl ?_
  refine o_icmpLe X11 d1_70 81 73 (by decide) (by decide) rfl ?_ (fun q => by exfalso; exact absurd q (by decide))
  intro hc70
  refine o_iloadN X11 d1_81 rfl 82 rfl ?_
  refine o_bipush (v := (6 : Int32)) X11 d1_82 rfl 84 rfl ?_
  refine o_icmpLe X11 d1_84 97 87 (by decide) (by decide) rfl ?_ (fun q => by exfalso; exact absurd q (by decide))
  intro hc84
  refine o_aloadN X11 d1_97 rfl rfl 98 rfl ?_
  exact o_retA X11 rfl rfl d1_98 (by decide) (by decide) (hQ _ _ ⟨_, rfl, H11⟩)
set_option maxRecDepth 65536 in
set_option maxHeartbeats 40000000 in
theorem c_halves_5 (l : Launch) (Z : State) (a0 : Array Value) (hw : ∀ d ∈ tables_1, d.before a0 Z = true) (ws : List Jvm.Cond) (n0 : Nat) (h0 : Heap) (hn0 : n0 ≤ h0.size) (xa xb : Addr) (xx xy : Int32) (L' : List (Addr × (Cell → Prop))) (H0 : OL n0 h0 ((xa, OA Z .boolean [(f_bit xx (0 : Int32)), (f_bit xx (1 : Int32)), (f_bit xx (2 : Int32)), (f_bit xx (3 : Int32)), (f_bit xx (4 : Int32))]) :: (xb, OA Z .boolean [(f_bit xy (0 : Int32)), (f_bit xy (1 : Int32)), (f_bit xy (2 : Int32)), (f_bit xy (3 : Int32)), (f_bit xy (4 : Int32))]) :: L')) :
    OC l Z (⟨"com/example/eratosthenes/eratosthenes/tune/GeneticSearch", "halves", "([Z[Z)[Z"⟩ : MethodName) prog_27_method_4_code 3 (some (.array .boolean)) ws ({ frames := 1, cells := 1, slots := 5, locals := 32 } : Room) n0 #[(.ref xa), (.ref xb)] h0 (fun r h => ∃ a, r = some (.ref a) ∧ OL n0 h ((a, OA Z .boolean [(f_bit xx (0 : Int32)), (f_bit xx (1 : Int32)), (f_bit xy (2 : Int32)), (f_bit xy (3 : Int32)), (f_bit xy (4 : Int32))]) :: (xa, OA Z .boolean [(f_bit xx (0 : Int32)), (f_bit xx (1 : Int32)), (f_bit xx (2 : Int32)), (f_bit xx (3 : Int32)), (f_bit xx (4 : Int32))]) :: (xb, OA Z .boolean [(f_bit xy (0 : Int32)), (f_bit xy (1 : Int32)), (f_bit xy (2 : Int32)), (f_bit xy (3 : Int32)), (f_bit xy (4 : Int32))]) :: L')) := by
  refine OC.of pn_1 hn0 #[.val (.ref xa), .val (.ref xb), .unset] (fun m => by first | (simp [entryFrame, mkF, argsToLocals, Value.category, maxLocals]; done) | rfl) ?_
  intro p e s m below meth cd0 T0 X0 Q' hQ
  refine o_aloadN X0 d2_0 rfl rfl 1 rfl ?_
  refine o_clone X0 H0 1 rfl d2_1 (by decide) (hw _ (List.mem_of_getElem? (i := 9) rfl)) (hw _ (List.mem_of_getElem? (i := 10) rfl)) (hw _ (List.mem_of_getElem? (i := 14) rfl)) (hw _ (List.mem_of_getElem? (i := 12) rfl)) (hw _ (List.mem_of_getElem? (i := 13) rfl)) (hw _ (List.mem_of_getElem? (i := 15) rfl)) (by show 5 < 2 ^ 31; decide) 5 (by show 5 ≤ 5; decide) rfl (by decide) 0 (Nat.le_of_eq rfl) (by decide) 1 5 rfl rfl (by decide) (by decide) 4 rfl ?_
  intro T1 h1 b1 X1 H1
  refine o_checkcast X1 H1 0 rfl d2_4 (by decide) (hw _ (List.mem_of_getElem? (i := 16) rfl)) 7 rfl ?_
  intro T2 X2
  refine o_astoreN X2 d2_7 rfl #[.val (.ref xa), .val (.ref xb), .val (.ref b1)] rfl 8 rfl ?_
  refine o_aloadN X2 d2_8 rfl rfl 9 rfl ?_
  refine o_iconst (v := (0 : Int32)) X2 d2_9 rfl 10 rfl ?_
  refine o_aloadN X2 d2_10 rfl rfl 11 rfl ?_
  refine o_iconst (v := (0 : Int32)) X2 d2_11 rfl 12 rfl ?_
  refine o_aloadN X2 d2_12 rfl rfl 13 rfl ?_
  refine o_arraylength X2 H1 1 rfl d2_13 (5 : Int32) rfl 14 rfl ?_
  refine o_iconst (v := (2 : Int32)) X2 d2_14 rfl 15 rfl ?_
  refine o_idiv X2 d2_15 (by decide) 16 rfl ?_
  refine o_arraycopy X2 H1 1 0 rfl rfl d2_16 (hw _ (List.mem_of_getElem? (i := 18) rfl)) (hw _ (List.mem_of_getElem? (i := 21) rfl)) (hw _ (List.mem_of_getElem? (i := 19) rfl)) (hw _ (List.mem_of_getElem? (i := 20) rfl)) rfl (by show 5 < 2 ^ 31; decide) (by show 5 < 2 ^ 31; decide) 0 0 2 rfl rfl rfl (by show 2 ≤ 5; decide) (by show 2 ≤ 5; decide) rfl (by decide) 0 (Nat.le_of_eq rfl) (by decide) 19 rfl ?_
  intro T3 h3 X3 H3
  replace H3 : OL n0 h3 ((b1, OA Z .boolean [(f_bit xx (0 : Int32)), (f_bit xx (1 : Int32)), (f_bit xy (2 : Int32)), (f_bit xy (3 : Int32)), (f_bit xy (4 : Int32))]) :: (xa, OA Z .boolean [(f_bit xx (0 : Int32)), (f_bit xx (1 : Int32)), (f_bit xx (2 : Int32)), (f_bit xx (3 : Int32)), (f_bit xx (4 : Int32))]) :: (xb, OA Z .boolean [(f_bit xy (0 : Int32)), (f_bit xy (1 : Int32)), (f_bit xy (2 : Int32)), (f_bit xy (3 : Int32)), (f_bit xy (4 : Int32))]) :: L') := H3
  refine o_aloadN X3 d2_19 rfl rfl 20 rfl ?_
  exact o_retA X3 rfl rfl d2_20 (by decide) (by decide) (hQ _ _ ⟨_, rfl, H3⟩)
set_option maxRecDepth 65536 in
set_option maxHeartbeats 40000000 in
theorem c_all_5 (l : Launch) (Z : State) (a0 : Array Value) (hw : ∀ d ∈ tables_1, d.before a0 Z = true) (ws : List Jvm.Cond) (n0 : Nat) (h0 : Heap) (hn0 : n0 ≤ h0.size) (xa : Addr) (xv : Int32) (L' : List (Addr × (Cell → Prop))) (H0 : OL n0 h0 ((xa, OA Z .boolean [(f_bit xv (0 : Int32)), (f_bit xv (1 : Int32)), (f_bit xv (2 : Int32)), (f_bit xv (3 : Int32)), (f_bit xv (4 : Int32))]) :: L')) :
    OC l Z (⟨"com/example/eratosthenes/eratosthenes/tune/GeneticSearchHalvesPinLaw", "allKept", "([ZII)Z"⟩ : MethodName) method_6_code 3 (some .boolean) ws ({ frames := 2, cells := 0, slots := 0, locals := 29 } : Room) n0 #[(.ref xa), (.int (5 : Int32)), (.int xv)] h0 (fun r h => r = some (.int 1) ∧ h0 = h) := by
  refine OC.of pn_0 hn0 #[.val (.ref xa), .val (.int (5 : Int32)), .val (.int xv)] (fun m => by first | (simp [entryFrame, mkF, argsToLocals, Value.category, maxLocals]; done) | rfl) ?_
  intro p e s m below meth cd0 T0 X0 Q' hQ
  refine o_aloadN X0 d4_0 rfl rfl 1 rfl ?_
  refine o_iconst (v := (0 : Int32)) X0 d4_1 rfl 2 rfl ?_
  refine o_iloadN X0 d4_2 rfl 3 rfl ?_
  refine o_iloadN X0 d4_3 rfl 4 rfl ?_
  refine o_callS X0 d4_4 (rest := []) (c_kept_5_0 l Z a0 hw [] n0 _ X0.size xa xv L' H0) (hw _ (List.mem_of_getElem? (i := 28) rfl)) (hw _ (List.mem_of_getElem? (i := 29) rfl)) (hw _ (List.mem_of_getElem? (i := 2) rfl)) (hw _ (List.mem_of_getElem? (i := 30) rfl)) (by decide) 0 (by decide) (by decide) rfl [(.ref xa), (.int (0 : Int32)), (.int (5 : Int32)), (.int xv)] rfl pd_5 rfl rfl (Nat.le_of_eq rfl) 0 0 rfl rfl (by decide) (by decide) 7 rfl ?_
  rintro _ T1 _ X1 ⟨rfl, rfl⟩
  show OE p e ({ frames := 2, cells := 0, slots := 0, locals := 29 } : Room) below s n0 Q' T1 (mkF m 7 #[.val (.ref xa), .val (.int (5 : Int32)), .val (.int xv)] [(.int (1 : Int32))])
  refine o_ifEq X1 d4_7 75 10 (by decide) (by decide) rfl (fun q => by exfalso; exact absurd q (by decide)) ?_
  intro hc7
  refine o_aloadN X1 d4_10 rfl rfl 11 rfl ?_
  refine o_iconst (v := (1 : Int32)) X1 d4_11 rfl 12 rfl ?_
  refine o_iloadN X1 d4_12 rfl 13 rfl ?_
  refine o_iloadN X1 d4_13 rfl 14 rfl ?_
  refine o_callS X1 d4_14 (rest := []) (c_kept_5_1 l Z a0 hw [] n0 _ X1.size xa xv L' H0) (hw _ (List.mem_of_getElem? (i := 28) rfl)) (hw _ (List.mem_of_getElem? (i := 29) rfl)) (hw _ (List.mem_of_getElem? (i := 2) rfl)) (hw _ (List.mem_of_getElem? (i := 30) rfl)) (by decide) 0 (by decide) (by decide) rfl [(.ref xa), (.int (1 : Int32)), (.int (5 : Int32)), (.int xv)] rfl pd_5 rfl rfl (Nat.le_of_eq rfl) 0 0 rfl rfl (by decide) (by decide) 17 rfl ?_
  rintro _ T2 _ X2 ⟨rfl, rfl⟩
  show OE p e ({ frames := 2, cells := 0, slots := 0, locals := 29 } : Room) below s n0 Q' T2 (mkF m 17 #[.val (.ref xa), .val (.int (5 : Int32)), .val (.int xv)] [(.int (1 : Int32))])
  refine o_ifEq X2 d4_17 75 20 (by decide) (by decide) rfl (fun q => by exfalso; exact absurd q (by decide)) ?_
  intro hc17
  refine o_aloadN X2 d4_20 rfl rfl 21 rfl ?_
  refine o_iconst (v := (2 : Int32)) X2 d4_21 rfl 22 rfl ?_
  refine o_iloadN X2 d4_22 rfl 23 rfl ?_
  refine o_iloadN X2 d4_23 rfl 24 rfl ?_
  refine o_callS X2 d4_24 (rest := []) (c_kept_5_2 l Z a0 hw [] n0 _ X2.size xa xv L' H0) (hw _ (List.mem_of_getElem? (i := 28) rfl)) (hw _ (List.mem_of_getElem? (i := 29) rfl)) (hw _ (List.mem_of_getElem? (i := 2) rfl)) (hw _ (List.mem_of_getElem? (i := 30) rfl)) (by decide) 0 (by decide) (by decide) rfl [(.ref xa), (.int (2 : Int32)), (.int (5 : Int32)), (.int xv)] rfl pd_5 rfl rfl (Nat.le_of_eq rfl) 0 0 rfl rfl (by decide) (by decide) 27 rfl ?_
  rintro _ T3 _ X3 ⟨rfl, rfl⟩
  show OE p e ({ frames := 2, cells := 0, slots := 0, locals := 29 } : Room) below s n0 Q' T3 (mkF m 27 #[.val (.ref xa), .val (.int (5 : Int32)), .val (.int xv)] [(.int (1 : Int32))])
  refine o_ifEq X3 d4_27 75 30 (by decide) (by decide) rfl (fun q => by exfalso; exact absurd q (by decide)) ?_
  intro hc27
  refine o_aloadN X3 d4_30 rfl rfl 31 rfl ?_
  refine o_iconst (v := (3 : Int32)) X3 d4_31 rfl 32 rfl ?_
  refine o_iloadN X3 d4_32 rfl 33 rfl ?_
  refine o_iloadN X3 d4_33 rfl 34 rfl ?_
  refine o_callS X3 d4_34 (rest := []) (c_kept_5_3 l Z a0 hw [] n0 _ X3.size xa xv L' H0) (hw _ (List.mem_of_getElem? (i := 28) rfl)) (hw _ (List.mem_of_getElem? (i := 29) rfl)) (hw _ (List.mem_of_getElem? (i := 2) rfl)) (hw _ (List.mem_of_getElem? (i := 30) rfl)) (by decide) 0 (by decide) (by decide) rfl [(.ref xa), (.int (3 : Int32)), (.int (5 : Int32)), (.int xv)] rfl pd_5 rfl rfl (Nat.le_of_eq rfl) 0 0 rfl rfl (by decide) (by decide) 37 rfl ?_
  rintro _ T4 _ X4 ⟨rfl, rfl⟩
  show OE p e ({ frames := 2, cells := 0, slots := 0, locals := 29 } : Room) below s n0 Q' T4 (mkF m 37 #[.val (.ref xa), .val (.int (5 : Int32)), .val (.int xv)] [(.int (1 : Int32))])
  refine o_ifEq X4 d4_37 75 40 (by decide) (by decide) rfl (fun q => by exfalso; exact absurd q (by decide)) ?_
  intro hc37
  refine o_aloadN X4 d4_40 rfl rfl 41 rfl ?_
  refine o_iconst (v := (4 : Int32)) X4 d4_41 rfl 42 rfl ?_
  refine o_iloadN X4 d4_42 rfl 43 rfl ?_
  refine o_iloadN X4 d4_43 rfl 44 rfl ?_
  refine o_callS X4 d4_44 (rest := []) (c_kept_5_4 l Z a0 hw [] n0 _ X4.size xa xv L' H0) (hw _ (List.mem_of_getElem? (i := 28) rfl)) (hw _ (List.mem_of_getElem? (i := 29) rfl)) (hw _ (List.mem_of_getElem? (i := 2) rfl)) (hw _ (List.mem_of_getElem? (i := 30) rfl)) (by decide) 0 (by decide) (by decide) rfl [(.ref xa), (.int (4 : Int32)), (.int (5 : Int32)), (.int xv)] rfl pd_5 rfl rfl (Nat.le_of_eq rfl) 0 0 rfl rfl (by decide) (by decide) 47 rfl ?_
  rintro _ T5 _ X5 ⟨rfl, rfl⟩
  show OE p e ({ frames := 2, cells := 0, slots := 0, locals := 29 } : Room) below s n0 Q' T5 (mkF m 47 #[.val (.ref xa), .val (.int (5 : Int32)), .val (.int xv)] [(.int (1 : Int32))])
  refine o_ifEq X5 d4_47 75 50 (by decide) (by decide) rfl (fun q => by exfalso; exact absurd q (by decide)) ?_
  intro hc47
  refine o_aloadN X5 d4_50 rfl rfl 51 rfl ?_
  refine o_iconst (v := (5 : Int32)) X5 d4_51 rfl 52 rfl ?_
  refine o_iloadN X5 d4_52 rfl 53 rfl ?_
  refine o_iloadN X5 d4_53 rfl 54 rfl ?_
  refine o_callS X5 d4_54 (rest := []) (c_kept_5_5 l Z a0 hw [] n0 _ X5.size xa xv L' H0) (hw _ (List.mem_of_getElem? (i := 28) rfl)) (hw _ (List.mem_of_getElem? (i := 29) rfl)) (hw _ (List.mem_of_getElem? (i := 2) rfl)) (hw _ (List.mem_of_getElem? (i := 30) rfl)) (by decide) 0 (by decide) (by decide) rfl [(.ref xa), (.int (5 : Int32)), (.int (5 : Int32)), (.int xv)] rfl pd_5 rfl rfl (Nat.le_of_eq rfl) 0 0 rfl rfl (by decide) (by decide) 57 rfl ?_
  rintro _ T6 _ X6 ⟨rfl, rfl⟩
  show OE p e ({ frames := 2, cells := 0, slots := 0, locals := 29 } : Room) below s n0 Q' T6 (mkF m 57 #[.val (.ref xa), .val (.int (5 : Int32)), .val (.int xv)] [(.int (1 : Int32))])
  refine o_ifEq X6 d4_57 75 60 (by decide) (by decide) rfl (fun q => by exfalso; exact absurd q (by decide)) ?_
  intro hc57
  refine o_aloadN X6 d4_60 rfl rfl 61 rfl ?_
  refine o_bipush (v := (6 : Int32)) X6 d4_61 rfl 63 rfl ?_
  refine o_iloadN X6 d4_63 rfl 64 rfl ?_
  refine o_iloadN X6 d4_64 rfl 65 rfl ?_
  refine o_callS X6 d4_65 (rest := []) (c_kept_5_6 l Z a0 hw [] n0 _ X6.size xa xv L' H0) (hw _ (List.mem_of_getElem? (i := 28) rfl)) (hw _ (List.mem_of_getElem? (i := 29) rfl)) (hw _ (List.mem_of_getElem? (i := 2) rfl)) (hw _ (List.mem_of_getElem? (i := 30) rfl)) (by decide) 0 (by decide) (by decide) rfl [(.ref xa), (.int (6 : Int32)), (.int (5 : Int32)), (.int xv)] rfl pd_5 rfl rfl (Nat.le_of_eq rfl) 0 0 rfl rfl (by decide) (by decide) 68 rfl ?_
  rintro _ T7 _ X7 ⟨rfl, rfl⟩
  show OE p e ({ frames := 2, cells := 0, slots := 0, locals := 29 } : Room) below s n0 Q' T7 (mkF m 68 #[.val (.ref xa), .val (.int (5 : Int32)), .val (.int xv)] [(.int (1 : Int32))])
  refine o_ifEq X7 d4_68 75 71 (by decide) (by decide) rfl (fun q => by exfalso; exact absurd q (by decide)) ?_
  intro hc68
  refine o_iconst (v := (1 : Int32)) X7 d4_71 rfl 72 rfl ?_
  refine o_goto X7 d4_72 76 (by decide) (by decide) ?_
  exact o_retZ X7 d4_76 (by decide) (by decide) (hQ _ _ ⟨rfl, rfl⟩)
set_option maxRecDepth 65536 in
set_option maxHeartbeats 40000000 in
theorem c_make_6 (l : Launch) (Z : State) (a0 : Array Value) (hw : ∀ d ∈ tables_1, d.before a0 Z = true) (ws : List Jvm.Cond) (n0 : Nat) (h0 : Heap) (hn0 : n0 ≤ h0.size) (xv : Int32) (L' : List (Addr × (Cell → Prop))) (H0 : OL n0 h0 L') :
    OC l Z (⟨"com/example/eratosthenes/eratosthenes/tune/GeneticSearchHalvesPinLaw", "make", "(II)[Z"⟩ : MethodName) method_3_code 3 (some (.array .boolean)) ws ({ frames := 1, cells := 1, slots := 6, locals := 15 } : Room) n0 #[(.int xv), (.int (6 : Int32))] h0 (fun r h => ∃ a, r = some (.ref a) ∧ OL n0 h ((a, OA Z .boolean [(f_bit xv (0 : Int32)), (f_bit xv (1 : Int32)), (f_bit xv (2 : Int32)), (f_bit xv (3 : Int32)), (f_bit xv (4 : Int32)), (f_bit xv (5 : Int32))]) :: L')) := by
  refine OC.of pn_0 hn0 #[.val (.int xv), .val (.int (6 : Int32)), .unset] (fun m => by first | (simp [entryFrame, mkF, argsToLocals, Value.category, maxLocals]; done) | rfl) ?_
  intro p e s m below meth cd0 T0 X0 Q' hQ
  refine o_iloadN X0 d1_0 rfl 1 rfl ?_
  refine o_newarray (L := L') X0 H0 d1_1 (hw _ (List.mem_of_getElem? (i := 4) rfl)) rfl rfl 6 6 rfl (by decide) (by decide) 1 6 rfl rfl (by decide) (by decide) 3 rfl ?_
  intro T1 h1 b1 X1 H1
  replace H1 : OL n0 h1 ((b1, OA Z .boolean [(0 : Int32), (0 : Int32), (0 : Int32), (0 : Int32), (0 : Int32), (0 : Int32)]) :: L') := H1
  refine o_astoreN X1 d1_3 rfl #[.val (.int xv), .val (.int (6 : Int32)), .val (.ref b1)] rfl 4 rfl ?_
  refine o_iloadN X1 d1_4 rfl 5 rfl ?_
  refine o_ifLe X1 d1_5 16 8 (by decide) (by decide) rfl (fun q => by exfalso; exact absurd q (by decide)) ?_
  intro hc5
  refine o_aloadN X1 d1_8 rfl rfl 9 rfl ?_
  refine o_iconst (v := (0 : Int32)) X1 d1_9 rfl 10 rfl ?_
  refine o_iloadN X1 d1_10 rfl 11 rfl ?_
  refine o_iconst (v := (0 : Int32)) X1 d1_11 rfl 12 rfl ?_
  refine o_callS X1 d1_12 (rest := [(.int (0 : Int32)), (.ref b1)]) (c_bit l Z a0 hw [] n0 _ X1.size xv (0 : Int32) ) (hw _ (List.mem_of_getElem? (i := 31) rfl)) (hw _ (List.mem_of_getElem? (i := 32) rfl)) (hw _ (List.mem_of_getElem? (i := 2) rfl)) (hw _ (List.mem_of_getElem? (i := 33) rfl)) (by decide) 2 (by decide) (by decide) rfl [(.int xv), (.int (0 : Int32))] rfl pd_6 rfl rfl (Nat.le_of_eq rfl) 1 6 rfl rfl (by decide) (by decide) 15 rfl ?_
  rintro _ T2 _ X2 ⟨rfl, rfl⟩
  show OE p e ({ frames := 1, cells := 1, slots := 6, locals := 15 } : Room) below s n0 Q' T2 (mkF m 15 #[.val (.int xv), .val (.int (6 : Int32)), .val (.ref b1)] [(.int (f_bit xv (0 : Int32))), (.int (0 : Int32)), (.ref b1)])
  refine o_bastoreZ X2 H1 0 rfl d1_15 0 rfl (by show 0 < 6; decide) (f_bit xv (0 : Int32)) (v_nar _ _) 16 rfl ?_
  intro T3 h3 X3 H3
  replace H3 : OL n0 h3 ((b1, OA Z .boolean [(f_bit xv (0 : Int32)), (0 : Int32), (0 : Int32), (0 : Int32), (0 : Int32), (0 : Int32)]) :: L') := H3
  refine o_iloadN X3 d1_16 rfl 17 rfl ?_
  refine o_iconst (v := (1 : Int32)) X3 d1_17 rfl 18 rfl ?_
  refine o_icmpLe X3 d1_18 29 21 (by decide) (by decide) rfl (fun q => by exfalso; exact absurd q (by decide)) ?_
  intro hc18
  refine o_aloadN X3 d1_21 rfl rfl 22 rfl ?_
  refine o_iconst (v := (1 : Int32)) X3 d1_22 rfl 23 rfl ?_
  refine o_iloadN X3 d1_23 rfl 24 rfl ?_
  refine o_iconst (v := (1 : Int32)) X3 d1_24 rfl 25 rfl ?_
  refine o_callS X3 d1_25 (rest := [(.int (1 : Int32)), (.ref b1)]) (c_bit l Z a0 hw [] n0 _ X3.size xv (1 : Int32) ) (hw _ (List.mem_of_getElem? (i := 31) rfl)) (hw _ (List.mem_of_getElem? (i := 32) rfl)) (hw _ (List.mem_of_getElem? (i := 2) rfl)) (hw _ (List.mem_of_getElem? (i := 33) rfl)) (by decide) 2 (by decide) (by decide) rfl [(.int xv), (.int (1 : Int32))] rfl pd_6 rfl rfl (Nat.le_of_eq rfl) 1 6 rfl rfl (by decide) (by decide) 28 rfl ?_
  rintro _ T4 _ X4 ⟨rfl, rfl⟩
  show OE p e ({ frames := 1, cells := 1, slots := 6, locals := 15 } : Room) below s n0 Q' T4 (mkF m 28 #[.val (.int xv), .val (.int (6 : Int32)), .val (.ref b1)] [(.int (f_bit xv (1 : Int32))), (.int (1 : Int32)), (.ref b1)])
  refine o_bastoreZ X4 H3 0 rfl d1_28 1 rfl (by show 1 < 6; decide) (f_bit xv (1 : Int32)) (v_nar _ _) 29 rfl ?_
  intro T5 h5 X5 H5
  replace H5 : OL n0 h5 ((b1, OA Z .boolean [(f_bit xv (0 : Int32)), (f_bit xv (1 : Int32)), (0 : Int32), (0 : Int32), (0 : Int32), (0 : Int32)]) :: L') := H5
  refine o_iloadN X5 d1_29 rfl 30 rfl ?_
  refine o_iconst (v := (2 : Int32)) X5 d1_30 rfl 31 rfl ?_
  refine o_icmpLe X5 d1_31 42 34 (by decide) (by decide) rfl (fun q => by exfalso; exact absurd q (by decide)) ?_
  intro hc31
  refine o_aloadN X5 d1_34 rfl rfl 35 rfl ?_
  refine o_iconst (v := (2 : Int32)) X5 d1_35 rfl 36 rfl ?_
  refine o_iloadN X5 d1_36 rfl 37 rfl ?_
  refine o_iconst (v := (2 : Int32)) X5 d1_37 rfl 38 rfl ?_
  refine o_callS X5 d1_38 (rest := [(.int (2 : Int32)), (.ref b1)]) (c_bit l Z a0 hw [] n0 _ X5.size xv (2 : Int32) ) (hw _ (List.mem_of_getElem? (i := 31) rfl)) (hw _ (List.mem_of_getElem? (i := 32) rfl)) (hw _ (List.mem_of_getElem? (i := 2) rfl)) (hw _ (List.mem_of_getElem? (i := 33) rfl)) (by decide) 2 (by decide) (by decide) rfl [(.int xv), (.int (2 : Int32))] rfl pd_6 rfl rfl (Nat.le_of_eq rfl) 1 6 rfl rfl (by decide) (by decide) 41 rfl ?_
  rintro _ T6 _ X6 ⟨rfl, rfl⟩
  show OE p e ({ frames := 1, cells := 1, slots := 6, locals := 15 } : Room) below s n0 Q' T6 (mkF m 41 #[.val (.int xv), .val (.int (6 : Int32)), .val (.ref b1)] [(.int (f_bit xv (2 : Int32))), (.int (2 : Int32)), (.ref b1)])
  refine o_bastoreZ X6 H5 0 rfl d1_41 2 rfl (by show 2 < 6; decide) (f_bit xv (2 : Int32)) (v_nar _ _) 42 rfl ?_
  intro T7 h7 X7 H7
  replace H7 : OL n0 h7 ((b1, OA Z .boolean [(f_bit xv (0 : Int32)), (f_bit xv (1 : Int32)), (f_bit xv (2 : Int32)), (0 : Int32), (0 : Int32), (0 : Int32)]) :: L') := H7
  refine o_iloadN X7 d1_42 rfl 43 rfl ?_
  refine o_iconst (v := (3 : Int32)) X7 d1_43 rfl 44 rfl ?_
  refine o_icmpLe X7 d1_44 55 47 (by decide) (by decide) rfl (fun q => by exfalso; exact absurd q (by decide)) ?_
  intro hc44
  refine o_aloadN X7 d1_47 rfl rfl 48 rfl ?_
  refine o_iconst (v := (3 : Int32)) X7 d1_48 rfl 49 rfl ?_
  refine o_iloadN X7 d1_49 rfl 50 rfl ?_
  refine o_iconst (v := (3 : Int32)) X7 d1_50 rfl 51 rfl ?_
  refine o_callS X7 d1_51 (rest := [(.int (3 : Int32)), (.ref b1)]) (c_bit l Z a0 hw [] n0 _ X7.size xv (3 : Int32) ) (hw _ (List.mem_of_getElem? (i := 31) rfl)) (hw _ (List.mem_of_getElem? (i := 32) rfl)) (hw _ (List.mem_of_getElem? (i := 2) rfl)) (hw _ (List.mem_of_getElem? (i := 33) rfl)) (by decide) 2 (by decide) (by decide) rfl [(.int xv), (.int (3 : Int32))] rfl pd_6 rfl rfl (Nat.le_of_eq rfl) 1 6 rfl rfl (by decide) (by decide) 54 rfl ?_
  rintro _ T8 _ X8 ⟨rfl, rfl⟩
  show OE p e ({ frames := 1, cells := 1, slots := 6, locals := 15 } : Room) below s n0 Q' T8 (mkF m 54 #[.val (.int xv), .val (.int (6 : Int32)), .val (.ref b1)] [(.int (f_bit xv (3 : Int32))), (.int (3 : Int32)), (.ref b1)])
  refine o_bastoreZ X8 H7 0 rfl d1_54 3 rfl (by show 3 < 6; decide) (f_bit xv (3 : Int32)) (v_nar _ _) 55 rfl ?_
  intro T9 h9 X9 H9
  replace H9 : OL n0 h9 ((b1, OA Z .boolean [(f_bit xv (0 : Int32)), (f_bit xv (1 : Int32)), (f_bit xv (2 : Int32)), (f_bit xv (3 : Int32)), (0 : Int32), (0 : Int32)]) :: L') := H9
  refine o_iloadN X9 d1_55 rfl 56 rfl ?_
  refine o_iconst (v := (4 : Int32)) X9 d1_56 rfl 57 rfl ?_
  refine o_icmpLe X9 d1_57 68 60 (by decide) (by decide) rfl (fun q => by exfalso; exact absurd q (by decide)) ?_
  intro hc57
  refine o_aloadN X9 d1_60 rfl rfl 61 rfl ?_
  refine o_iconst (v := (4 : Int32)) X9 d1_61 rfl 62 rfl ?_
  refine o_iloadN X9 d1_62 rfl 63 rfl ?_
  refine o_iconst (v := (4 : Int32)) X9 d1_63 rfl 64 rfl ?_
  refine o_callS X9 d1_64 (rest := [(.int (4 : Int32)), (.ref b1)]) (c_bit l Z a0 hw [] n0 _ X9.size xv (4 : Int32) ) (hw _ (List.mem_of_getElem? (i := 31) rfl)) (hw _ (List.mem_of_getElem? (i := 32) rfl)) (hw _ (List.mem_of_getElem? (i := 2) rfl)) (hw _ (List.mem_of_getElem? (i := 33) rfl)) (by decide) 2 (by decide) (by decide) rfl [(.int xv), (.int (4 : Int32))] rfl pd_6 rfl rfl (Nat.le_of_eq rfl) 1 6 rfl rfl (by decide) (by decide) 67 rfl ?_
  rintro _ T10 _ X10 ⟨rfl, rfl⟩
  show OE p e ({ frames := 1, cells := 1, slots := 6, locals := 15 } : Room) below s n0 Q' T10 (mkF m 67 #[.val (.int xv), .val (.int (6 : Int32)), .val (.ref b1)] [(.int (f_bit xv (4 : Int32))), (.int (4 : Int32)), (.ref b1)])
  refine o_bastoreZ X10 H9 0 rfl d1_67 4 rfl (by show 4 < 6; decide) (f_bit xv (4 : Int32)) (v_nar _ _) 68 rfl ?_
  intro T11 h11 X11 H11
  replace H11 : OL n0 h11 ((b1, OA Z .boolean [(f_bit xv (0 : Int32)), (f_bit xv (1 : Int32)), (f_bit xv (2 : Int32)), (f_bit xv (3 : Int32)), (f_bit xv (4 : Int32)), (0 : Int32)]) :: L') := H11
  refine o_iloadN X11 d1_68 rfl 69 rfl ?_
  refine o_iconst (v := (5 : Int32)) X11 d1_69 rfl 70 rfl ?_
  refine o_icmpLe X11 d1_70 81 73 (by decide) (by decide) rfl (fun q => by exfalso; exact absurd q (by decide)) ?_
  intro hc70
  refine o_aloadN X11 d1_73 rfl rfl 74 rfl ?_
  refine o_iconst (v := (5 : Int32)) X11 d1_74 rfl 75 rfl ?_
  refine o_iloadN X11 d1_75 rfl 76 rfl ?_
  refine o_iconst (v := (5 : Int32)) X11 d1_76 rfl 77 rfl ?_
  refine o_callS X11 d1_77 (rest := [(.int (5 : Int32)), (.ref b1)]) (c_bit l Z a0 hw [] n0 _ X11.size xv (5 : Int32) ) (hw _ (List.mem_of_getElem? (i := 31) rfl)) (hw _ (List.mem_of_getElem? (i := 32) rfl)) (hw _ (List.mem_of_getElem? (i := 2) rfl)) (hw _ (List.mem_of_getElem? (i := 33) rfl)) (by decide) 2 (by decide) (by decide) rfl [(.int xv), (.int (5 : Int32))] rfl pd_6 rfl rfl (Nat.le_of_eq rfl) 1 6 rfl rfl (by decide) (by decide) 80 rfl ?_
  rintro _ T12 _ X12 ⟨rfl, rfl⟩
  show OE p e ({ frames := 1, cells := 1, slots := 6, locals := 15 } : Room) below s n0 Q' T12 (mkF m 80 #[.val (.int xv), .val (.int (6 : Int32)), .val (.ref b1)] [(.int (f_bit xv (5 : Int32))), (.int (5 : Int32)), (.ref b1)])
  refine o_bastoreZ X12 H11 0 rfl d1_80 5 rfl (by show 5 < 6; decide) (f_bit xv (5 : Int32)) (v_nar _ _) 81 rfl ?_
  intro T13 h13 X13 H13
  replace H13 : OL n0 h13 ((b1, OA Z .boolean [(f_bit xv (0 : Int32)), (f_bit xv (1 : Int32)), (f_bit xv (2 : Int32)), (f_bit xv (3 : Int32)), (f_bit xv (4 : Int32)), (f_bit xv (5 : Int32))]) :: L') := H13
  refine o_iloadN X13 d1_81 rfl 82 rfl ?_
  refine o_bipush (v := (6 : Int32)) X13 d1_82 rfl 84 rfl ?_
  refine o_icmpLe X13 d1_84 97 87 (by decide) (by decide) rfl ?_ (fun q => by exfalso; exact absurd q (by decide))
  intro hc84
  refine o_aloadN X13 d1_97 rfl rfl 98 rfl ?_
  exact o_retA X13 rfl rfl d1_98 (by decide) (by decide) (hQ _ _ ⟨_, rfl, H13⟩)
set_option maxRecDepth 65536 in
set_option maxHeartbeats 40000000 in
theorem c_halves_6 (l : Launch) (Z : State) (a0 : Array Value) (hw : ∀ d ∈ tables_1, d.before a0 Z = true) (ws : List Jvm.Cond) (n0 : Nat) (h0 : Heap) (hn0 : n0 ≤ h0.size) (xa xb : Addr) (xx xy : Int32) (L' : List (Addr × (Cell → Prop))) (H0 : OL n0 h0 ((xa, OA Z .boolean [(f_bit xx (0 : Int32)), (f_bit xx (1 : Int32)), (f_bit xx (2 : Int32)), (f_bit xx (3 : Int32)), (f_bit xx (4 : Int32)), (f_bit xx (5 : Int32))]) :: (xb, OA Z .boolean [(f_bit xy (0 : Int32)), (f_bit xy (1 : Int32)), (f_bit xy (2 : Int32)), (f_bit xy (3 : Int32)), (f_bit xy (4 : Int32)), (f_bit xy (5 : Int32))]) :: L')) :
    OC l Z (⟨"com/example/eratosthenes/eratosthenes/tune/GeneticSearch", "halves", "([Z[Z)[Z"⟩ : MethodName) prog_27_method_4_code 3 (some (.array .boolean)) ws ({ frames := 1, cells := 1, slots := 6, locals := 32 } : Room) n0 #[(.ref xa), (.ref xb)] h0 (fun r h => ∃ a, r = some (.ref a) ∧ OL n0 h ((a, OA Z .boolean [(f_bit xx (0 : Int32)), (f_bit xx (1 : Int32)), (f_bit xx (2 : Int32)), (f_bit xy (3 : Int32)), (f_bit xy (4 : Int32)), (f_bit xy (5 : Int32))]) :: (xa, OA Z .boolean [(f_bit xx (0 : Int32)), (f_bit xx (1 : Int32)), (f_bit xx (2 : Int32)), (f_bit xx (3 : Int32)), (f_bit xx (4 : Int32)), (f_bit xx (5 : Int32))]) :: (xb, OA Z .boolean [(f_bit xy (0 : Int32)), (f_bit xy (1 : Int32)), (f_bit xy (2 : Int32)), (f_bit xy (3 : Int32)), (f_bit xy (4 : Int32)), (f_bit xy (5 : Int32))]) :: L')) := by
  refine OC.of pn_1 hn0 #[.val (.ref xa), .val (.ref xb), .unset] (fun m => by first | (simp [entryFrame, mkF, argsToLocals, Value.category, maxLocals]; done) | rfl) ?_
  intro p e s m below meth cd0 T0 X0 Q' hQ
  refine o_aloadN X0 d2_0 rfl rfl 1 rfl ?_
  refine o_clone X0 H0 1 rfl d2_1 (by decide) (hw _ (List.mem_of_getElem? (i := 9) rfl)) (hw _ (List.mem_of_getElem? (i := 10) rfl)) (hw _ (List.mem_of_getElem? (i := 14) rfl)) (hw _ (List.mem_of_getElem? (i := 12) rfl)) (hw _ (List.mem_of_getElem? (i := 13) rfl)) (hw _ (List.mem_of_getElem? (i := 15) rfl)) (by show 6 < 2 ^ 31; decide) 6 (by show 6 ≤ 6; decide) rfl (by decide) 0 (Nat.le_of_eq rfl) (by decide) 1 6 rfl rfl (by decide) (by decide) 4 rfl ?_
  intro T1 h1 b1 X1 H1
  refine o_checkcast X1 H1 0 rfl d2_4 (by decide) (hw _ (List.mem_of_getElem? (i := 16) rfl)) 7 rfl ?_
  intro T2 X2
  refine o_astoreN X2 d2_7 rfl #[.val (.ref xa), .val (.ref xb), .val (.ref b1)] rfl 8 rfl ?_
  refine o_aloadN X2 d2_8 rfl rfl 9 rfl ?_
  refine o_iconst (v := (0 : Int32)) X2 d2_9 rfl 10 rfl ?_
  refine o_aloadN X2 d2_10 rfl rfl 11 rfl ?_
  refine o_iconst (v := (0 : Int32)) X2 d2_11 rfl 12 rfl ?_
  refine o_aloadN X2 d2_12 rfl rfl 13 rfl ?_
  refine o_arraylength X2 H1 1 rfl d2_13 (6 : Int32) rfl 14 rfl ?_
  refine o_iconst (v := (2 : Int32)) X2 d2_14 rfl 15 rfl ?_
  refine o_idiv X2 d2_15 (by decide) 16 rfl ?_
  refine o_arraycopy X2 H1 1 0 rfl rfl d2_16 (hw _ (List.mem_of_getElem? (i := 18) rfl)) (hw _ (List.mem_of_getElem? (i := 21) rfl)) (hw _ (List.mem_of_getElem? (i := 19) rfl)) (hw _ (List.mem_of_getElem? (i := 20) rfl)) rfl (by show 6 < 2 ^ 31; decide) (by show 6 < 2 ^ 31; decide) 0 0 3 rfl rfl rfl (by show 3 ≤ 6; decide) (by show 3 ≤ 6; decide) rfl (by decide) 0 (Nat.le_of_eq rfl) (by decide) 19 rfl ?_
  intro T3 h3 X3 H3
  replace H3 : OL n0 h3 ((b1, OA Z .boolean [(f_bit xx (0 : Int32)), (f_bit xx (1 : Int32)), (f_bit xx (2 : Int32)), (f_bit xy (3 : Int32)), (f_bit xy (4 : Int32)), (f_bit xy (5 : Int32))]) :: (xa, OA Z .boolean [(f_bit xx (0 : Int32)), (f_bit xx (1 : Int32)), (f_bit xx (2 : Int32)), (f_bit xx (3 : Int32)), (f_bit xx (4 : Int32)), (f_bit xx (5 : Int32))]) :: (xb, OA Z .boolean [(f_bit xy (0 : Int32)), (f_bit xy (1 : Int32)), (f_bit xy (2 : Int32)), (f_bit xy (3 : Int32)), (f_bit xy (4 : Int32)), (f_bit xy (5 : Int32))]) :: L') := H3
  refine o_aloadN X3 d2_19 rfl rfl 20 rfl ?_
  exact o_retA X3 rfl rfl d2_20 (by decide) (by decide) (hQ _ _ ⟨_, rfl, H3⟩)
set_option maxRecDepth 65536 in
set_option maxHeartbeats 40000000 in
theorem c_all_6 (l : Launch) (Z : State) (a0 : Array Value) (hw : ∀ d ∈ tables_1, d.before a0 Z = true) (ws : List Jvm.Cond) (n0 : Nat) (h0 : Heap) (hn0 : n0 ≤ h0.size) (xa : Addr) (xv : Int32) (L' : List (Addr × (Cell → Prop))) (H0 : OL n0 h0 ((xa, OA Z .boolean [(f_bit xv (0 : Int32)), (f_bit xv (1 : Int32)), (f_bit xv (2 : Int32)), (f_bit xv (3 : Int32)), (f_bit xv (4 : Int32)), (f_bit xv (5 : Int32))]) :: L')) :
    OC l Z (⟨"com/example/eratosthenes/eratosthenes/tune/GeneticSearchHalvesPinLaw", "allKept", "([ZII)Z"⟩ : MethodName) method_6_code 3 (some .boolean) ws ({ frames := 2, cells := 0, slots := 0, locals := 29 } : Room) n0 #[(.ref xa), (.int (6 : Int32)), (.int xv)] h0 (fun r h => r = some (.int 1) ∧ h0 = h) := by
  refine OC.of pn_0 hn0 #[.val (.ref xa), .val (.int (6 : Int32)), .val (.int xv)] (fun m => by first | (simp [entryFrame, mkF, argsToLocals, Value.category, maxLocals]; done) | rfl) ?_
  intro p e s m below meth cd0 T0 X0 Q' hQ
  refine o_aloadN X0 d4_0 rfl rfl 1 rfl ?_
  refine o_iconst (v := (0 : Int32)) X0 d4_1 rfl 2 rfl ?_
  refine o_iloadN X0 d4_2 rfl 3 rfl ?_
  refine o_iloadN X0 d4_3 rfl 4 rfl ?_
  refine o_callS X0 d4_4 (rest := []) (c_kept_6_0 l Z a0 hw [] n0 _ X0.size xa xv L' H0) (hw _ (List.mem_of_getElem? (i := 28) rfl)) (hw _ (List.mem_of_getElem? (i := 29) rfl)) (hw _ (List.mem_of_getElem? (i := 2) rfl)) (hw _ (List.mem_of_getElem? (i := 30) rfl)) (by decide) 0 (by decide) (by decide) rfl [(.ref xa), (.int (0 : Int32)), (.int (6 : Int32)), (.int xv)] rfl pd_5 rfl rfl (Nat.le_of_eq rfl) 0 0 rfl rfl (by decide) (by decide) 7 rfl ?_
  rintro _ T1 _ X1 ⟨rfl, rfl⟩
  show OE p e ({ frames := 2, cells := 0, slots := 0, locals := 29 } : Room) below s n0 Q' T1 (mkF m 7 #[.val (.ref xa), .val (.int (6 : Int32)), .val (.int xv)] [(.int (1 : Int32))])
  refine o_ifEq X1 d4_7 75 10 (by decide) (by decide) rfl (fun q => by exfalso; exact absurd q (by decide)) ?_
  intro hc7
  refine o_aloadN X1 d4_10 rfl rfl 11 rfl ?_
  refine o_iconst (v := (1 : Int32)) X1 d4_11 rfl 12 rfl ?_
  refine o_iloadN X1 d4_12 rfl 13 rfl ?_
  refine o_iloadN X1 d4_13 rfl 14 rfl ?_
  refine o_callS X1 d4_14 (rest := []) (c_kept_6_1 l Z a0 hw [] n0 _ X1.size xa xv L' H0) (hw _ (List.mem_of_getElem? (i := 28) rfl)) (hw _ (List.mem_of_getElem? (i := 29) rfl)) (hw _ (List.mem_of_getElem? (i := 2) rfl)) (hw _ (List.mem_of_getElem? (i := 30) rfl)) (by decide) 0 (by decide) (by decide) rfl [(.ref xa), (.int (1 : Int32)), (.int (6 : Int32)), (.int xv)] rfl pd_5 rfl rfl (Nat.le_of_eq rfl) 0 0 rfl rfl (by decide) (by decide) 17 rfl ?_
  rintro _ T2 _ X2 ⟨rfl, rfl⟩
  show OE p e ({ frames := 2, cells := 0, slots := 0, locals := 29 } : Room) below s n0 Q' T2 (mkF m 17 #[.val (.ref xa), .val (.int (6 : Int32)), .val (.int xv)] [(.int (1 : Int32))])
  refine o_ifEq X2 d4_17 75 20 (by decide) (by decide) rfl (fun q => by exfalso; exact absurd q (by decide)) ?_
  intro hc17
  refine o_aloadN X2 d4_20 rfl rfl 21 rfl ?_
  refine o_iconst (v := (2 : Int32)) X2 d4_21 rfl 22 rfl ?_
  refine o_iloadN X2 d4_22 rfl 23 rfl ?_
  refine o_iloadN X2 d4_23 rfl 24 rfl ?_
  refine o_callS X2 d4_24 (rest := []) (c_kept_6_2 l Z a0 hw [] n0 _ X2.size xa xv L' H0) (hw _ (List.mem_of_getElem? (i := 28) rfl)) (hw _ (List.mem_of_getElem? (i := 29) rfl)) (hw _ (List.mem_of_getElem? (i := 2) rfl)) (hw _ (List.mem_of_getElem? (i := 30) rfl)) (by decide) 0 (by decide) (by decide) rfl [(.ref xa), (.int (2 : Int32)), (.int (6 : Int32)), (.int xv)] rfl pd_5 rfl rfl (Nat.le_of_eq rfl) 0 0 rfl rfl (by decide) (by decide) 27 rfl ?_
  rintro _ T3 _ X3 ⟨rfl, rfl⟩
  show OE p e ({ frames := 2, cells := 0, slots := 0, locals := 29 } : Room) below s n0 Q' T3 (mkF m 27 #[.val (.ref xa), .val (.int (6 : Int32)), .val (.int xv)] [(.int (1 : Int32))])
  refine o_ifEq X3 d4_27 75 30 (by decide) (by decide) rfl (fun q => by exfalso; exact absurd q (by decide)) ?_
  intro hc27
  refine o_aloadN X3 d4_30 rfl rfl 31 rfl ?_
  refine o_iconst (v := (3 : Int32)) X3 d4_31 rfl 32 rfl ?_
  refine o_iloadN X3 d4_32 rfl 33 rfl ?_
  refine o_iloadN X3 d4_33 rfl 34 rfl ?_
  refine o_callS X3 d4_34 (rest := []) (c_kept_6_3 l Z a0 hw [] n0 _ X3.size xa xv L' H0) (hw _ (List.mem_of_getElem? (i := 28) rfl)) (hw _ (List.mem_of_getElem? (i := 29) rfl)) (hw _ (List.mem_of_getElem? (i := 2) rfl)) (hw _ (List.mem_of_getElem? (i := 30) rfl)) (by decide) 0 (by decide) (by decide) rfl [(.ref xa), (.int (3 : Int32)), (.int (6 : Int32)), (.int xv)] rfl pd_5 rfl rfl (Nat.le_of_eq rfl) 0 0 rfl rfl (by decide) (by decide) 37 rfl ?_
  rintro _ T4 _ X4 ⟨rfl, rfl⟩
  show OE p e ({ frames := 2, cells := 0, slots := 0, locals := 29 } : Room) below s n0 Q' T4 (mkF m 37 #[.val (.ref xa), .val (.int (6 : Int32)), .val (.int xv)] [(.int (1 : Int32))])
  refine o_ifEq X4 d4_37 75 40 (by decide) (by decide) rfl (fun q => by exfalso; exact absurd q (by decide)) ?_
  intro hc37
  refine o_aloadN X4 d4_40 rfl rfl 41 rfl ?_
  refine o_iconst (v := (4 : Int32)) X4 d4_41 rfl 42 rfl ?_
  refine o_iloadN X4 d4_42 rfl 43 rfl ?_
  refine o_iloadN X4 d4_43 rfl 44 rfl ?_
  refine o_callS X4 d4_44 (rest := []) (c_kept_6_4 l Z a0 hw [] n0 _ X4.size xa xv L' H0) (hw _ (List.mem_of_getElem? (i := 28) rfl)) (hw _ (List.mem_of_getElem? (i := 29) rfl)) (hw _ (List.mem_of_getElem? (i := 2) rfl)) (hw _ (List.mem_of_getElem? (i := 30) rfl)) (by decide) 0 (by decide) (by decide) rfl [(.ref xa), (.int (4 : Int32)), (.int (6 : Int32)), (.int xv)] rfl pd_5 rfl rfl (Nat.le_of_eq rfl) 0 0 rfl rfl (by decide) (by decide) 47 rfl ?_
  rintro _ T5 _ X5 ⟨rfl, rfl⟩
  show OE p e ({ frames := 2, cells := 0, slots := 0, locals := 29 } : Room) below s n0 Q' T5 (mkF m 47 #[.val (.ref xa), .val (.int (6 : Int32)), .val (.int xv)] [(.int (1 : Int32))])
  refine o_ifEq X5 d4_47 75 50 (by decide) (by decide) rfl (fun q => by exfalso; exact absurd q (by decide)) ?_
  intro hc47
  refine o_aloadN X5 d4_50 rfl rfl 51 rfl ?_
  refine o_iconst (v := (5 : Int32)) X5 d4_51 rfl 52 rfl ?_
  refine o_iloadN X5 d4_52 rfl 53 rfl ?_
  refine o_iloadN X5 d4_53 rfl 54 rfl ?_
  refine o_callS X5 d4_54 (rest := []) (c_kept_6_5 l Z a0 hw [] n0 _ X5.size xa xv L' H0) (hw _ (List.mem_of_getElem? (i := 28) rfl)) (hw _ (List.mem_of_getElem? (i := 29) rfl)) (hw _ (List.mem_of_getElem? (i := 2) rfl)) (hw _ (List.mem_of_getElem? (i := 30) rfl)) (by decide) 0 (by decide) (by decide) rfl [(.ref xa), (.int (5 : Int32)), (.int (6 : Int32)), (.int xv)] rfl pd_5 rfl rfl (Nat.le_of_eq rfl) 0 0 rfl rfl (by decide) (by decide) 57 rfl ?_
  rintro _ T6 _ X6 ⟨rfl, rfl⟩
  show OE p e ({ frames := 2, cells := 0, slots := 0, locals := 29 } : Room) below s n0 Q' T6 (mkF m 57 #[.val (.ref xa), .val (.int (6 : Int32)), .val (.int xv)] [(.int (1 : Int32))])
  refine o_ifEq X6 d4_57 75 60 (by decide) (by decide) rfl (fun q => by exfalso; exact absurd q (by decide)) ?_
  intro hc57
  refine o_aloadN X6 d4_60 rfl rfl 61 rfl ?_
  refine o_bipush (v := (6 : Int32)) X6 d4_61 rfl 63 rfl ?_
  refine o_iloadN X6 d4_63 rfl 64 rfl ?_
  refine o_iloadN X6 d4_64 rfl 65 rfl ?_
  refine o_callS X6 d4_65 (rest := []) (c_kept_6_6 l Z a0 hw [] n0 _ X6.size xa xv L' H0) (hw _ (List.mem_of_getElem? (i := 28) rfl)) (hw _ (List.mem_of_getElem? (i := 29) rfl)) (hw _ (List.mem_of_getElem? (i := 2) rfl)) (hw _ (List.mem_of_getElem? (i := 30) rfl)) (by decide) 0 (by decide) (by decide) rfl [(.ref xa), (.int (6 : Int32)), (.int (6 : Int32)), (.int xv)] rfl pd_5 rfl rfl (Nat.le_of_eq rfl) 0 0 rfl rfl (by decide) (by decide) 68 rfl ?_
  rintro _ T7 _ X7 ⟨rfl, rfl⟩
  show OE p e ({ frames := 2, cells := 0, slots := 0, locals := 29 } : Room) below s n0 Q' T7 (mkF m 68 #[.val (.ref xa), .val (.int (6 : Int32)), .val (.int xv)] [(.int (1 : Int32))])
  refine o_ifEq X7 d4_68 75 71 (by decide) (by decide) rfl (fun q => by exfalso; exact absurd q (by decide)) ?_
  intro hc68
  refine o_iconst (v := (1 : Int32)) X7 d4_71 rfl 72 rfl ?_
  refine o_goto X7 d4_72 76 (by decide) (by decide) ?_
  exact o_retZ X7 d4_76 (by decide) (by decide) (hQ _ _ ⟨rfl, rfl⟩)
set_option maxRecDepth 65536 in
set_option maxHeartbeats 40000000 in
theorem c_make_7 (l : Launch) (Z : State) (a0 : Array Value) (hw : ∀ d ∈ tables_1, d.before a0 Z = true) (ws : List Jvm.Cond) (n0 : Nat) (h0 : Heap) (hn0 : n0 ≤ h0.size) (xv : Int32) (L' : List (Addr × (Cell → Prop))) (H0 : OL n0 h0 L') :
    OC l Z (⟨"com/example/eratosthenes/eratosthenes/tune/GeneticSearchHalvesPinLaw", "make", "(II)[Z"⟩ : MethodName) method_3_code 3 (some (.array .boolean)) ws ({ frames := 1, cells := 1, slots := 7, locals := 15 } : Room) n0 #[(.int xv), (.int (7 : Int32))] h0 (fun r h => ∃ a, r = some (.ref a) ∧ OL n0 h ((a, OA Z .boolean [(f_bit xv (0 : Int32)), (f_bit xv (1 : Int32)), (f_bit xv (2 : Int32)), (f_bit xv (3 : Int32)), (f_bit xv (4 : Int32)), (f_bit xv (5 : Int32)), (f_bit xv (6 : Int32))]) :: L')) := by
  refine OC.of pn_0 hn0 #[.val (.int xv), .val (.int (7 : Int32)), .unset] (fun m => by first | (simp [entryFrame, mkF, argsToLocals, Value.category, maxLocals]; done) | rfl) ?_
  intro p e s m below meth cd0 T0 X0 Q' hQ
  refine o_iloadN X0 d1_0 rfl 1 rfl ?_
  refine o_newarray (L := L') X0 H0 d1_1 (hw _ (List.mem_of_getElem? (i := 4) rfl)) rfl rfl 7 7 rfl (by decide) (by decide) 1 7 rfl rfl (by decide) (by decide) 3 rfl ?_
  intro T1 h1 b1 X1 H1
  replace H1 : OL n0 h1 ((b1, OA Z .boolean [(0 : Int32), (0 : Int32), (0 : Int32), (0 : Int32), (0 : Int32), (0 : Int32), (0 : Int32)]) :: L') := H1
  refine o_astoreN X1 d1_3 rfl #[.val (.int xv), .val (.int (7 : Int32)), .val (.ref b1)] rfl 4 rfl ?_
  refine o_iloadN X1 d1_4 rfl 5 rfl ?_
  refine o_ifLe X1 d1_5 16 8 (by decide) (by decide) rfl (fun q => by exfalso; exact absurd q (by decide)) ?_
  intro hc5
  refine o_aloadN X1 d1_8 rfl rfl 9 rfl ?_
  refine o_iconst (v := (0 : Int32)) X1 d1_9 rfl 10 rfl ?_
  refine o_iloadN X1 d1_10 rfl 11 rfl ?_
  refine o_iconst (v := (0 : Int32)) X1 d1_11 rfl 12 rfl ?_
  refine o_callS X1 d1_12 (rest := [(.int (0 : Int32)), (.ref b1)]) (c_bit l Z a0 hw [] n0 _ X1.size xv (0 : Int32) ) (hw _ (List.mem_of_getElem? (i := 31) rfl)) (hw _ (List.mem_of_getElem? (i := 32) rfl)) (hw _ (List.mem_of_getElem? (i := 2) rfl)) (hw _ (List.mem_of_getElem? (i := 33) rfl)) (by decide) 2 (by decide) (by decide) rfl [(.int xv), (.int (0 : Int32))] rfl pd_6 rfl rfl (Nat.le_of_eq rfl) 1 7 rfl rfl (by decide) (by decide) 15 rfl ?_
  rintro _ T2 _ X2 ⟨rfl, rfl⟩
  show OE p e ({ frames := 1, cells := 1, slots := 7, locals := 15 } : Room) below s n0 Q' T2 (mkF m 15 #[.val (.int xv), .val (.int (7 : Int32)), .val (.ref b1)] [(.int (f_bit xv (0 : Int32))), (.int (0 : Int32)), (.ref b1)])
  refine o_bastoreZ X2 H1 0 rfl d1_15 0 rfl (by show 0 < 7; decide) (f_bit xv (0 : Int32)) (v_nar _ _) 16 rfl ?_
  intro T3 h3 X3 H3
  replace H3 : OL n0 h3 ((b1, OA Z .boolean [(f_bit xv (0 : Int32)), (0 : Int32), (0 : Int32), (0 : Int32), (0 : Int32), (0 : Int32), (0 : Int32)]) :: L') := H3
  refine o_iloadN X3 d1_16 rfl 17 rfl ?_
  refine o_iconst (v := (1 : Int32)) X3 d1_17 rfl 18 rfl ?_
  refine o_icmpLe X3 d1_18 29 21 (by decide) (by decide) rfl (fun q => by exfalso; exact absurd q (by decide)) ?_
  intro hc18
  refine o_aloadN X3 d1_21 rfl rfl 22 rfl ?_
  refine o_iconst (v := (1 : Int32)) X3 d1_22 rfl 23 rfl ?_
  refine o_iloadN X3 d1_23 rfl 24 rfl ?_
  refine o_iconst (v := (1 : Int32)) X3 d1_24 rfl 25 rfl ?_
  refine o_callS X3 d1_25 (rest := [(.int (1 : Int32)), (.ref b1)]) (c_bit l Z a0 hw [] n0 _ X3.size xv (1 : Int32) ) (hw _ (List.mem_of_getElem? (i := 31) rfl)) (hw _ (List.mem_of_getElem? (i := 32) rfl)) (hw _ (List.mem_of_getElem? (i := 2) rfl)) (hw _ (List.mem_of_getElem? (i := 33) rfl)) (by decide) 2 (by decide) (by decide) rfl [(.int xv), (.int (1 : Int32))] rfl pd_6 rfl rfl (Nat.le_of_eq rfl) 1 7 rfl rfl (by decide) (by decide) 28 rfl ?_
  rintro _ T4 _ X4 ⟨rfl, rfl⟩
  show OE p e ({ frames := 1, cells := 1, slots := 7, locals := 15 } : Room) below s n0 Q' T4 (mkF m 28 #[.val (.int xv), .val (.int (7 : Int32)), .val (.ref b1)] [(.int (f_bit xv (1 : Int32))), (.int (1 : Int32)), (.ref b1)])
  refine o_bastoreZ X4 H3 0 rfl d1_28 1 rfl (by show 1 < 7; decide) (f_bit xv (1 : Int32)) (v_nar _ _) 29 rfl ?_
  intro T5 h5 X5 H5
  replace H5 : OL n0 h5 ((b1, OA Z .boolean [(f_bit xv (0 : Int32)), (f_bit xv (1 : Int32)), (0 : Int32), (0 : Int32), (0 : Int32), (0 : Int32), (0 : Int32)]) :: L') := H5
  refine o_iloadN X5 d1_29 rfl 30 rfl ?_
  refine o_iconst (v := (2 : Int32)) X5 d1_30 rfl 31 rfl ?_
  refine o_icmpLe X5 d1_31 42 34 (by decide) (by decide) rfl (fun q => by exfalso; exact absurd q (by decide)) ?_
  intro hc31
  refine o_aloadN X5 d1_34 rfl rfl 35 rfl ?_
  refine o_iconst (v := (2 : Int32)) X5 d1_35 rfl 36 rfl ?_
  refine o_iloadN X5 d1_36 rfl 37 rfl ?_
  refine o_iconst (v := (2 : Int32)) X5 d1_37 rfl 38 rfl ?_
  refine o_callS X5 d1_38 (rest := [(.int (2 : Int32)), (.ref b1)]) (c_bit l Z a0 hw [] n0 _ X5.size xv (2 : Int32) ) (hw _ (List.mem_of_getElem? (i := 31) rfl)) (hw _ (List.mem_of_getElem? (i := 32) rfl)) (hw _ (List.mem_of_getElem? (i := 2) rfl)) (hw _ (List.mem_of_getElem? (i := 33) rfl)) (by decide) 2 (by decide) (by decide) rfl [(.int xv), (.int (2 : Int32))] rfl pd_6 rfl rfl (Nat.le_of_eq rfl) 1 7 rfl rfl (by decide) (by decide) 41 rfl ?_
  rintro _ T6 _ X6 ⟨rfl, rfl⟩
  show OE p e ({ frames := 1, cells := 1, slots := 7, locals := 15 } : Room) below s n0 Q' T6 (mkF m 41 #[.val (.int xv), .val (.int (7 : Int32)), .val (.ref b1)] [(.int (f_bit xv (2 : Int32))), (.int (2 : Int32)), (.ref b1)])
  refine o_bastoreZ X6 H5 0 rfl d1_41 2 rfl (by show 2 < 7; decide) (f_bit xv (2 : Int32)) (v_nar _ _) 42 rfl ?_
  intro T7 h7 X7 H7
  replace H7 : OL n0 h7 ((b1, OA Z .boolean [(f_bit xv (0 : Int32)), (f_bit xv (1 : Int32)), (f_bit xv (2 : Int32)), (0 : Int32), (0 : Int32), (0 : Int32), (0 : Int32)]) :: L') := H7
  refine o_iloadN X7 d1_42 rfl 43 rfl ?_
  refine o_iconst (v := (3 : Int32)) X7 d1_43 rfl 44 rfl ?_
  refine o_icmpLe X7 d1_44 55 47 (by decide) (by decide) rfl (fun q => by exfalso; exact absurd q (by decide)) ?_
  intro hc44
  refine o_aloadN X7 d1_47 rfl rfl 48 rfl ?_
  refine o_iconst (v := (3 : Int32)) X7 d1_48 rfl 49 rfl ?_
  refine o_iloadN X7 d1_49 rfl 50 rfl ?_
  refine o_iconst (v := (3 : Int32)) X7 d1_50 rfl 51 rfl ?_
  refine o_callS X7 d1_51 (rest := [(.int (3 : Int32)), (.ref b1)]) (c_bit l Z a0 hw [] n0 _ X7.size xv (3 : Int32) ) (hw _ (List.mem_of_getElem? (i := 31) rfl)) (hw _ (List.mem_of_getElem? (i := 32) rfl)) (hw _ (List.mem_of_getElem? (i := 2) rfl)) (hw _ (List.mem_of_getElem? (i := 33) rfl)) (by decide) 2 (by decide) (by decide) rfl [(.int xv), (.int (3 : Int32))] rfl pd_6 rfl rfl (Nat.le_of_eq rfl) 1 7 rfl rfl (by decide) (by decide) 54 rfl ?_
  rintro _ T8 _ X8 ⟨rfl, rfl⟩
  show OE p e ({ frames := 1, cells := 1, slots := 7, locals := 15 } : Room) below s n0 Q' T8 (mkF m 54 #[.val (.int xv), .val (.int (7 : Int32)), .val (.ref b1)] [(.int (f_bit xv (3 : Int32))), (.int (3 : Int32)), (.ref b1)])
  refine o_bastoreZ X8 H7 0 rfl d1_54 3 rfl (by show 3 < 7; decide) (f_bit xv (3 : Int32)) (v_nar _ _) 55 rfl ?_
  intro T9 h9 X9 H9
  replace H9 : OL n0 h9 ((b1, OA Z .boolean [(f_bit xv (0 : Int32)), (f_bit xv (1 : Int32)), (f_bit xv (2 : Int32)), (f_bit xv (3 : Int32)), (0 : Int32), (0 : Int32), (0 : Int32)]) :: L') := H9
  refine o_iloadN X9 d1_55 rfl 56 rfl ?_
  refine o_iconst (v := (4 : Int32)) X9 d1_56 rfl 57 rfl ?_
  refine o_icmpLe X9 d1_57 68 60 (by decide) (by decide) rfl (fun q => by exfalso; exact absurd q (by decide)) ?_
  intro hc57
  refine o_aloadN X9 d1_60 rfl rfl 61 rfl ?_
  refine o_iconst (v := (4 : Int32)) X9 d1_61 rfl 62 rfl ?_
  refine o_iloadN X9 d1_62 rfl 63 rfl ?_
  refine o_iconst (v := (4 : Int32)) X9 d1_63 rfl 64 rfl ?_
  refine o_callS X9 d1_64 (rest := [(.int (4 : Int32)), (.ref b1)]) (c_bit l Z a0 hw [] n0 _ X9.size xv (4 : Int32) ) (hw _ (List.mem_of_getElem? (i := 31) rfl)) (hw _ (List.mem_of_getElem? (i := 32) rfl)) (hw _ (List.mem_of_getElem? (i := 2) rfl)) (hw _ (List.mem_of_getElem? (i := 33) rfl)) (by decide) 2 (by decide) (by decide) rfl [(.int xv), (.int (4 : Int32))] rfl pd_6 rfl rfl (Nat.le_of_eq rfl) 1 7 rfl rfl (by decide) (by decide) 67 rfl ?_
  rintro _ T10 _ X10 ⟨rfl, rfl⟩
  show OE p e ({ frames := 1, cells := 1, slots := 7, locals := 15 } : Room) below s n0 Q' T10 (mkF m 67 #[.val (.int xv), .val (.int (7 : Int32)), .val (.ref b1)] [(.int (f_bit xv (4 : Int32))), (.int (4 : Int32)), (.ref b1)])
  refine o_bastoreZ X10 H9 0 rfl d1_67 4 rfl (by show 4 < 7; decide) (f_bit xv (4 : Int32)) (v_nar _ _) 68 rfl ?_
  intro T11 h11 X11 H11
  replace H11 : OL n0 h11 ((b1, OA Z .boolean [(f_bit xv (0 : Int32)), (f_bit xv (1 : Int32)), (f_bit xv (2 : Int32)), (f_bit xv (3 : Int32)), (f_bit xv (4 : Int32)), (0 : Int32), (0 : Int32)]) :: L') := H11
  refine o_iloadN X11 d1_68 rfl 69 rfl ?_
  refine o_iconst (v := (5 : Int32)) X11 d1_69 rfl 70 rfl ?_
  refine o_icmpLe X11 d1_70 81 73 (by decide) (by decide) rfl (fun q => by exfalso; exact absurd q (by decide)) ?_
  intro hc70
  refine o_aloadN X11 d1_73 rfl rfl 74 rfl ?_
  refine o_iconst (v := (5 : Int32)) X11 d1_74 rfl 75 rfl ?_
  refine o_iloadN X11 d1_75 rfl 76 rfl ?_
  refine o_iconst (v := (5 : Int32)) X11 d1_76 rfl 77 rfl ?_
  refine o_callS X11 d1_77 (rest := [(.int (5 : Int32)), (.ref b1)]) (c_bit l Z a0 hw [] n0 _ X11.size xv (5 : Int32) ) (hw _ (List.mem_of_getElem? (i := 31) rfl)) (hw _ (List.mem_of_getElem? (i := 32) rfl)) (hw _ (List.mem_of_getElem? (i := 2) rfl)) (hw _ (List.mem_of_getElem? (i := 33) rfl)) (by decide) 2 (by decide) (by decide) rfl [(.int xv), (.int (5 : Int32))] rfl pd_6 rfl rfl (Nat.le_of_eq rfl) 1 7 rfl rfl (by decide) (by decide) 80 rfl ?_
  rintro _ T12 _ X12 ⟨rfl, rfl⟩
  show OE p e ({ frames := 1, cells := 1, slots := 7, locals := 15 } : Room) below s n0 Q' T12 (mkF m 80 #[.val (.int xv), .val (.int (7 : Int32)), .val (.ref b1)] [(.int (f_bit xv (5 : Int32))), (.int (5 : Int32)), (.ref b1)])
  refine o_bastoreZ X12 H11 0 rfl d1_80 5 rfl (by show 5 < 7; decide) (f_bit xv (5 : Int32)) (v_nar _ _) 81 rfl ?_
  intro T13 h13 X13 H13
  replace H13 : OL n0 h13 ((b1, OA Z .boolean [(f_bit xv (0 : Int32)), (f_bit xv (1 : Int32)), (f_bit xv (2 : Int32)), (f_bit xv (3 : Int32)), (f_bit xv (4 : Int32)), (f_bit xv (5 : Int32)), (0 : Int32)]) :: L') := H13
  refine o_iloadN X13 d1_81 rfl 82 rfl ?_
  refine o_bipush (v := (6 : Int32)) X13 d1_82 rfl 84 rfl ?_
  refine o_icmpLe X13 d1_84 97 87 (by decide) (by decide) rfl (fun q => by exfalso; exact absurd q (by decide)) ?_
  intro hc84
  refine o_aloadN X13 d1_87 rfl rfl 88 rfl ?_
  refine o_bipush (v := (6 : Int32)) X13 d1_88 rfl 90 rfl ?_
  refine o_iloadN X13 d1_90 rfl 91 rfl ?_
  refine o_bipush (v := (6 : Int32)) X13 d1_91 rfl 93 rfl ?_
  refine o_callS X13 d1_93 (rest := [(.int (6 : Int32)), (.ref b1)]) (c_bit l Z a0 hw [] n0 _ X13.size xv (6 : Int32) ) (hw _ (List.mem_of_getElem? (i := 31) rfl)) (hw _ (List.mem_of_getElem? (i := 32) rfl)) (hw _ (List.mem_of_getElem? (i := 2) rfl)) (hw _ (List.mem_of_getElem? (i := 33) rfl)) (by decide) 2 (by decide) (by decide) rfl [(.int xv), (.int (6 : Int32))] rfl pd_6 rfl rfl (Nat.le_of_eq rfl) 1 7 rfl rfl (by decide) (by decide) 96 rfl ?_
  rintro _ T14 _ X14 ⟨rfl, rfl⟩
  show OE p e ({ frames := 1, cells := 1, slots := 7, locals := 15 } : Room) below s n0 Q' T14 (mkF m 96 #[.val (.int xv), .val (.int (7 : Int32)), .val (.ref b1)] [(.int (f_bit xv (6 : Int32))), (.int (6 : Int32)), (.ref b1)])
  refine o_bastoreZ X14 H13 0 rfl d1_96 6 rfl (by show 6 < 7; decide) (f_bit xv (6 : Int32)) (v_nar _ _) 97 rfl ?_
  intro T15 h15 X15 H15
  replace H15 : OL n0 h15 ((b1, OA Z .boolean [(f_bit xv (0 : Int32)), (f_bit xv (1 : Int32)), (f_bit xv (2 : Int32)), (f_bit xv (3 : Int32)), (f_bit xv (4 : Int32)), (f_bit xv (5 : Int32)), (f_bit xv (6 : Int32))]) :: L') := H15
  refine o_aloadN X15 d1_97 rfl rfl 98 rfl ?_
  exact o_retA X15 rfl rfl d1_98 (by decide) (by decide) (hQ _ _ ⟨_, rfl, H15⟩)
set_option maxRecDepth 65536 in
set_option maxHeartbeats 40000000 in
theorem c_halves_7 (l : Launch) (Z : State) (a0 : Array Value) (hw : ∀ d ∈ tables_1, d.before a0 Z = true) (ws : List Jvm.Cond) (n0 : Nat) (h0 : Heap) (hn0 : n0 ≤ h0.size) (xa xb : Addr) (xx xy : Int32) (L' : List (Addr × (Cell → Prop))) (H0 : OL n0 h0 ((xa, OA Z .boolean [(f_bit xx (0 : Int32)), (f_bit xx (1 : Int32)), (f_bit xx (2 : Int32)), (f_bit xx (3 : Int32)), (f_bit xx (4 : Int32)), (f_bit xx (5 : Int32)), (f_bit xx (6 : Int32))]) :: (xb, OA Z .boolean [(f_bit xy (0 : Int32)), (f_bit xy (1 : Int32)), (f_bit xy (2 : Int32)), (f_bit xy (3 : Int32)), (f_bit xy (4 : Int32)), (f_bit xy (5 : Int32)), (f_bit xy (6 : Int32))]) :: L')) :
    OC l Z (⟨"com/example/eratosthenes/eratosthenes/tune/GeneticSearch", "halves", "([Z[Z)[Z"⟩ : MethodName) prog_27_method_4_code 3 (some (.array .boolean)) ws ({ frames := 1, cells := 1, slots := 7, locals := 32 } : Room) n0 #[(.ref xa), (.ref xb)] h0 (fun r h => ∃ a, r = some (.ref a) ∧ OL n0 h ((a, OA Z .boolean [(f_bit xx (0 : Int32)), (f_bit xx (1 : Int32)), (f_bit xx (2 : Int32)), (f_bit xy (3 : Int32)), (f_bit xy (4 : Int32)), (f_bit xy (5 : Int32)), (f_bit xy (6 : Int32))]) :: (xa, OA Z .boolean [(f_bit xx (0 : Int32)), (f_bit xx (1 : Int32)), (f_bit xx (2 : Int32)), (f_bit xx (3 : Int32)), (f_bit xx (4 : Int32)), (f_bit xx (5 : Int32)), (f_bit xx (6 : Int32))]) :: (xb, OA Z .boolean [(f_bit xy (0 : Int32)), (f_bit xy (1 : Int32)), (f_bit xy (2 : Int32)), (f_bit xy (3 : Int32)), (f_bit xy (4 : Int32)), (f_bit xy (5 : Int32)), (f_bit xy (6 : Int32))]) :: L')) := by
  refine OC.of pn_1 hn0 #[.val (.ref xa), .val (.ref xb), .unset] (fun m => by first | (simp [entryFrame, mkF, argsToLocals, Value.category, maxLocals]; done) | rfl) ?_
  intro p e s m below meth cd0 T0 X0 Q' hQ
  refine o_aloadN X0 d2_0 rfl rfl 1 rfl ?_
  refine o_clone X0 H0 1 rfl d2_1 (by decide) (hw _ (List.mem_of_getElem? (i := 9) rfl)) (hw _ (List.mem_of_getElem? (i := 10) rfl)) (hw _ (List.mem_of_getElem? (i := 14) rfl)) (hw _ (List.mem_of_getElem? (i := 12) rfl)) (hw _ (List.mem_of_getElem? (i := 13) rfl)) (hw _ (List.mem_of_getElem? (i := 15) rfl)) (by show 7 < 2 ^ 31; decide) 7 (by show 7 ≤ 7; decide) rfl (by decide) 0 (Nat.le_of_eq rfl) (by decide) 1 7 rfl rfl (by decide) (by decide) 4 rfl ?_
  intro T1 h1 b1 X1 H1
  refine o_checkcast X1 H1 0 rfl d2_4 (by decide) (hw _ (List.mem_of_getElem? (i := 16) rfl)) 7 rfl ?_
  intro T2 X2
  refine o_astoreN X2 d2_7 rfl #[.val (.ref xa), .val (.ref xb), .val (.ref b1)] rfl 8 rfl ?_
  refine o_aloadN X2 d2_8 rfl rfl 9 rfl ?_
  refine o_iconst (v := (0 : Int32)) X2 d2_9 rfl 10 rfl ?_
  refine o_aloadN X2 d2_10 rfl rfl 11 rfl ?_
  refine o_iconst (v := (0 : Int32)) X2 d2_11 rfl 12 rfl ?_
  refine o_aloadN X2 d2_12 rfl rfl 13 rfl ?_
  refine o_arraylength X2 H1 1 rfl d2_13 (7 : Int32) rfl 14 rfl ?_
  refine o_iconst (v := (2 : Int32)) X2 d2_14 rfl 15 rfl ?_
  refine o_idiv X2 d2_15 (by decide) 16 rfl ?_
  refine o_arraycopy X2 H1 1 0 rfl rfl d2_16 (hw _ (List.mem_of_getElem? (i := 18) rfl)) (hw _ (List.mem_of_getElem? (i := 21) rfl)) (hw _ (List.mem_of_getElem? (i := 19) rfl)) (hw _ (List.mem_of_getElem? (i := 20) rfl)) rfl (by show 7 < 2 ^ 31; decide) (by show 7 < 2 ^ 31; decide) 0 0 3 rfl rfl rfl (by show 3 ≤ 7; decide) (by show 3 ≤ 7; decide) rfl (by decide) 0 (Nat.le_of_eq rfl) (by decide) 19 rfl ?_
  intro T3 h3 X3 H3
  replace H3 : OL n0 h3 ((b1, OA Z .boolean [(f_bit xx (0 : Int32)), (f_bit xx (1 : Int32)), (f_bit xx (2 : Int32)), (f_bit xy (3 : Int32)), (f_bit xy (4 : Int32)), (f_bit xy (5 : Int32)), (f_bit xy (6 : Int32))]) :: (xa, OA Z .boolean [(f_bit xx (0 : Int32)), (f_bit xx (1 : Int32)), (f_bit xx (2 : Int32)), (f_bit xx (3 : Int32)), (f_bit xx (4 : Int32)), (f_bit xx (5 : Int32)), (f_bit xx (6 : Int32))]) :: (xb, OA Z .boolean [(f_bit xy (0 : Int32)), (f_bit xy (1 : Int32)), (f_bit xy (2 : Int32)), (f_bit xy (3 : Int32)), (f_bit xy (4 : Int32)), (f_bit xy (5 : Int32)), (f_bit xy (6 : Int32))]) :: L') := H3
  refine o_aloadN X3 d2_19 rfl rfl 20 rfl ?_
  exact o_retA X3 rfl rfl d2_20 (by decide) (by decide) (hQ _ _ ⟨_, rfl, H3⟩)
set_option maxRecDepth 65536 in
set_option maxHeartbeats 40000000 in
theorem c_all_7 (l : Launch) (Z : State) (a0 : Array Value) (hw : ∀ d ∈ tables_1, d.before a0 Z = true) (ws : List Jvm.Cond) (n0 : Nat) (h0 : Heap) (hn0 : n0 ≤ h0.size) (xa : Addr) (xv : Int32) (L' : List (Addr × (Cell → Prop))) (H0 : OL n0 h0 ((xa, OA Z .boolean [(f_bit xv (0 : Int32)), (f_bit xv (1 : Int32)), (f_bit xv (2 : Int32)), (f_bit xv (3 : Int32)), (f_bit xv (4 : Int32)), (f_bit xv (5 : Int32)), (f_bit xv (6 : Int32))]) :: L')) :
    OC l Z (⟨"com/example/eratosthenes/eratosthenes/tune/GeneticSearchHalvesPinLaw", "allKept", "([ZII)Z"⟩ : MethodName) method_6_code 3 (some .boolean) ws ({ frames := 2, cells := 0, slots := 0, locals := 29 } : Room) n0 #[(.ref xa), (.int (7 : Int32)), (.int xv)] h0 (fun r h => r = some (.int 1) ∧ h0 = h) := by
  refine OC.of pn_0 hn0 #[.val (.ref xa), .val (.int (7 : Int32)), .val (.int xv)] (fun m => by first | (simp [entryFrame, mkF, argsToLocals, Value.category, maxLocals]; done) | rfl) ?_
  intro p e s m below meth cd0 T0 X0 Q' hQ
  refine o_aloadN X0 d4_0 rfl rfl 1 rfl ?_
  refine o_iconst (v := (0 : Int32)) X0 d4_1 rfl 2 rfl ?_
  refine o_iloadN X0 d4_2 rfl 3 rfl ?_
  refine o_iloadN X0 d4_3 rfl 4 rfl ?_
  refine o_callS X0 d4_4 (rest := []) (c_kept_7_0 l Z a0 hw [] n0 _ X0.size xa xv L' H0) (hw _ (List.mem_of_getElem? (i := 28) rfl)) (hw _ (List.mem_of_getElem? (i := 29) rfl)) (hw _ (List.mem_of_getElem? (i := 2) rfl)) (hw _ (List.mem_of_getElem? (i := 30) rfl)) (by decide) 0 (by decide) (by decide) rfl [(.ref xa), (.int (0 : Int32)), (.int (7 : Int32)), (.int xv)] rfl pd_5 rfl rfl (Nat.le_of_eq rfl) 0 0 rfl rfl (by decide) (by decide) 7 rfl ?_
  rintro _ T1 _ X1 ⟨rfl, rfl⟩
  show OE p e ({ frames := 2, cells := 0, slots := 0, locals := 29 } : Room) below s n0 Q' T1 (mkF m 7 #[.val (.ref xa), .val (.int (7 : Int32)), .val (.int xv)] [(.int (1 : Int32))])
  refine o_ifEq X1 d4_7 75 10 (by decide) (by decide) rfl (fun q => by exfalso; exact absurd q (by decide)) ?_
  intro hc7
  refine o_aloadN X1 d4_10 rfl rfl 11 rfl ?_
  refine o_iconst (v := (1 : Int32)) X1 d4_11 rfl 12 rfl ?_
  refine o_iloadN X1 d4_12 rfl 13 rfl ?_
  refine o_iloadN X1 d4_13 rfl 14 rfl ?_
  refine o_callS X1 d4_14 (rest := []) (c_kept_7_1 l Z a0 hw [] n0 _ X1.size xa xv L' H0) (hw _ (List.mem_of_getElem? (i := 28) rfl)) (hw _ (List.mem_of_getElem? (i := 29) rfl)) (hw _ (List.mem_of_getElem? (i := 2) rfl)) (hw _ (List.mem_of_getElem? (i := 30) rfl)) (by decide) 0 (by decide) (by decide) rfl [(.ref xa), (.int (1 : Int32)), (.int (7 : Int32)), (.int xv)] rfl pd_5 rfl rfl (Nat.le_of_eq rfl) 0 0 rfl rfl (by decide) (by decide) 17 rfl ?_
  rintro _ T2 _ X2 ⟨rfl, rfl⟩
  show OE p e ({ frames := 2, cells := 0, slots := 0, locals := 29 } : Room) below s n0 Q' T2 (mkF m 17 #[.val (.ref xa), .val (.int (7 : Int32)), .val (.int xv)] [(.int (1 : Int32))])
  refine o_ifEq X2 d4_17 75 20 (by decide) (by decide) rfl (fun q => by exfalso; exact absurd q (by decide)) ?_
  intro hc17
  refine o_aloadN X2 d4_20 rfl rfl 21 rfl ?_
  refine o_iconst (v := (2 : Int32)) X2 d4_21 rfl 22 rfl ?_
  refine o_iloadN X2 d4_22 rfl 23 rfl ?_
  refine o_iloadN X2 d4_23 rfl 24 rfl ?_
  refine o_callS X2 d4_24 (rest := []) (c_kept_7_2 l Z a0 hw [] n0 _ X2.size xa xv L' H0) (hw _ (List.mem_of_getElem? (i := 28) rfl)) (hw _ (List.mem_of_getElem? (i := 29) rfl)) (hw _ (List.mem_of_getElem? (i := 2) rfl)) (hw _ (List.mem_of_getElem? (i := 30) rfl)) (by decide) 0 (by decide) (by decide) rfl [(.ref xa), (.int (2 : Int32)), (.int (7 : Int32)), (.int xv)] rfl pd_5 rfl rfl (Nat.le_of_eq rfl) 0 0 rfl rfl (by decide) (by decide) 27 rfl ?_
  rintro _ T3 _ X3 ⟨rfl, rfl⟩
  show OE p e ({ frames := 2, cells := 0, slots := 0, locals := 29 } : Room) below s n0 Q' T3 (mkF m 27 #[.val (.ref xa), .val (.int (7 : Int32)), .val (.int xv)] [(.int (1 : Int32))])
  refine o_ifEq X3 d4_27 75 30 (by decide) (by decide) rfl (fun q => by exfalso; exact absurd q (by decide)) ?_
  intro hc27
  refine o_aloadN X3 d4_30 rfl rfl 31 rfl ?_
  refine o_iconst (v := (3 : Int32)) X3 d4_31 rfl 32 rfl ?_
  refine o_iloadN X3 d4_32 rfl 33 rfl ?_
  refine o_iloadN X3 d4_33 rfl 34 rfl ?_
  refine o_callS X3 d4_34 (rest := []) (c_kept_7_3 l Z a0 hw [] n0 _ X3.size xa xv L' H0) (hw _ (List.mem_of_getElem? (i := 28) rfl)) (hw _ (List.mem_of_getElem? (i := 29) rfl)) (hw _ (List.mem_of_getElem? (i := 2) rfl)) (hw _ (List.mem_of_getElem? (i := 30) rfl)) (by decide) 0 (by decide) (by decide) rfl [(.ref xa), (.int (3 : Int32)), (.int (7 : Int32)), (.int xv)] rfl pd_5 rfl rfl (Nat.le_of_eq rfl) 0 0 rfl rfl (by decide) (by decide) 37 rfl ?_
  rintro _ T4 _ X4 ⟨rfl, rfl⟩
  show OE p e ({ frames := 2, cells := 0, slots := 0, locals := 29 } : Room) below s n0 Q' T4 (mkF m 37 #[.val (.ref xa), .val (.int (7 : Int32)), .val (.int xv)] [(.int (1 : Int32))])
  refine o_ifEq X4 d4_37 75 40 (by decide) (by decide) rfl (fun q => by exfalso; exact absurd q (by decide)) ?_
  intro hc37
  refine o_aloadN X4 d4_40 rfl rfl 41 rfl ?_
  refine o_iconst (v := (4 : Int32)) X4 d4_41 rfl 42 rfl ?_
  refine o_iloadN X4 d4_42 rfl 43 rfl ?_
  refine o_iloadN X4 d4_43 rfl 44 rfl ?_
  refine o_callS X4 d4_44 (rest := []) (c_kept_7_4 l Z a0 hw [] n0 _ X4.size xa xv L' H0) (hw _ (List.mem_of_getElem? (i := 28) rfl)) (hw _ (List.mem_of_getElem? (i := 29) rfl)) (hw _ (List.mem_of_getElem? (i := 2) rfl)) (hw _ (List.mem_of_getElem? (i := 30) rfl)) (by decide) 0 (by decide) (by decide) rfl [(.ref xa), (.int (4 : Int32)), (.int (7 : Int32)), (.int xv)] rfl pd_5 rfl rfl (Nat.le_of_eq rfl) 0 0 rfl rfl (by decide) (by decide) 47 rfl ?_
  rintro _ T5 _ X5 ⟨rfl, rfl⟩
  show OE p e ({ frames := 2, cells := 0, slots := 0, locals := 29 } : Room) below s n0 Q' T5 (mkF m 47 #[.val (.ref xa), .val (.int (7 : Int32)), .val (.int xv)] [(.int (1 : Int32))])
  refine o_ifEq X5 d4_47 75 50 (by decide) (by decide) rfl (fun q => by exfalso; exact absurd q (by decide)) ?_
  intro hc47
  refine o_aloadN X5 d4_50 rfl rfl 51 rfl ?_
  refine o_iconst (v := (5 : Int32)) X5 d4_51 rfl 52 rfl ?_
  refine o_iloadN X5 d4_52 rfl 53 rfl ?_
  refine o_iloadN X5 d4_53 rfl 54 rfl ?_
  refine o_callS X5 d4_54 (rest := []) (c_kept_7_5 l Z a0 hw [] n0 _ X5.size xa xv L' H0) (hw _ (List.mem_of_getElem? (i := 28) rfl)) (hw _ (List.mem_of_getElem? (i := 29) rfl)) (hw _ (List.mem_of_getElem? (i := 2) rfl)) (hw _ (List.mem_of_getElem? (i := 30) rfl)) (by decide) 0 (by decide) (by decide) rfl [(.ref xa), (.int (5 : Int32)), (.int (7 : Int32)), (.int xv)] rfl pd_5 rfl rfl (Nat.le_of_eq rfl) 0 0 rfl rfl (by decide) (by decide) 57 rfl ?_
  rintro _ T6 _ X6 ⟨rfl, rfl⟩
  show OE p e ({ frames := 2, cells := 0, slots := 0, locals := 29 } : Room) below s n0 Q' T6 (mkF m 57 #[.val (.ref xa), .val (.int (7 : Int32)), .val (.int xv)] [(.int (1 : Int32))])
  refine o_ifEq X6 d4_57 75 60 (by decide) (by decide) rfl (fun q => by exfalso; exact absurd q (by decide)) ?_
  intro hc57
  refine o_aloadN X6 d4_60 rfl rfl 61 rfl ?_
  refine o_bipush (v := (6 : Int32)) X6 d4_61 rfl 63 rfl ?_
  refine o_iloadN X6 d4_63 rfl 64 rfl ?_
  refine o_iloadN X6 d4_64 rfl 65 rfl ?_
  refine o_callS X6 d4_65 (rest := []) (c_kept_7_6 l Z a0 hw [] n0 _ X6.size xa xv L' H0) (hw _ (List.mem_of_getElem? (i := 28) rfl)) (hw _ (List.mem_of_getElem? (i := 29) rfl)) (hw _ (List.mem_of_getElem? (i := 2) rfl)) (hw _ (List.mem_of_getElem? (i := 30) rfl)) (by decide) 0 (by decide) (by decide) rfl [(.ref xa), (.int (6 : Int32)), (.int (7 : Int32)), (.int xv)] rfl pd_5 rfl rfl (Nat.le_of_eq rfl) 0 0 rfl rfl (by decide) (by decide) 68 rfl ?_
  rintro _ T7 _ X7 ⟨rfl, rfl⟩
  show OE p e ({ frames := 2, cells := 0, slots := 0, locals := 29 } : Room) below s n0 Q' T7 (mkF m 68 #[.val (.ref xa), .val (.int (7 : Int32)), .val (.int xv)] [(.int (1 : Int32))])
  refine o_ifEq X7 d4_68 75 71 (by decide) (by decide) rfl (fun q => by exfalso; exact absurd q (by decide)) ?_
  intro hc68
  refine o_iconst (v := (1 : Int32)) X7 d4_71 rfl 72 rfl ?_
  refine o_goto X7 d4_72 76 (by decide) (by decide) ?_
  exact o_retZ X7 d4_76 (by decide) (by decide) (hQ _ _ ⟨rfl, rfl⟩)
set_option maxRecDepth 65536 in
set_option maxHeartbeats 40000000 in
theorem c_law (l : Launch) (Z : State) (a0 : Array Value) (hw : ∀ d ∈ tables_1, d.before a0 Z = true) (ws : List Jvm.Cond) (n0 : Nat) (h0 : Heap) (hn0 : n0 ≤ h0.size) (xl : Int32) (xx : Int32) (xy : Int32) :
    OC l Z x code maxLocals ret ws room_1 n0 #[(.int xl), (.int xx), (.int xy)] h0 (fun r h => r = some (.int 1)) := by
  refine OC.of pn_0 hn0 #[.val (.int xl), .val (.int xx), .val (.int xy), .unset, .unset, .unset, .unset, .unset] (fun m => by first | (simp [entryFrame, mkF, argsToLocals, Value.category, maxLocals]; done) | rfl) ?_
  intro p e s m below meth cd0 T0 X0 Q' hQ
  refine o_iloadN X0 at_0 rfl 1 rfl ?_
  refine o_bipush (v := (7 : Int32)) X0 at_1 rfl 3 rfl ?_
  refine o_iand X0 at_3 4 rfl ?_
  refine o_istoreN X0 at_4 #[.val (.int xl), .val (.int xx), .val (.int xy), .val (.int (xl &&& (7 : Int32))), .unset, .unset, .unset, .unset] rfl 5 rfl ?_
  rcases v_n xl with hv | hv | hv | hv | hv | hv | hv | hv
  · rw [hv]
    refine o_iloadN X0 at_5 rfl 6 rfl ?_
    refine o_bipush (v := (7 : Int32)) X0 at_6 rfl 8 rfl ?_
    refine o_icmpNe X0 at_8 14 11 (by decide) (by decide) rfl ?_ (fun q => by exfalso; exact absurd q (by decide))
    intro hc8
    refine o_iloadN X0 at_14 rfl 15 rfl ?_
    refine o_iloadN X0 at_15 rfl 16 rfl ?_
    refine o_callS X0 at_16 (rest := []) (c_make_0 l Z a0 hw [] n0 _ X0.size xx [] OL.nil) (hw _ (List.mem_of_getElem? (i := 0) rfl)) (hw _ (List.mem_of_getElem? (i := 1) rfl)) (hw _ (List.mem_of_getElem? (i := 2) rfl)) (hw _ (List.mem_of_getElem? (i := 3) rfl)) (by decide) 0 (by decide) (by decide) rfl [(.int xx), (.int (0 : Int32))] rfl pd_1 rfl rfl (Nat.le_of_eq rfl) 1 0 rfl rfl (by decide) (by decide) 19 rfl ?_
    rintro _ T1 h1 X1 ⟨a1, rfl, H1⟩
    replace H1 : OL n0 h1 ((a1, OA Z .boolean []) :: []) := H1
    show OE p e room_1 below s n0 Q' T1 (mkF m 19 #[.val (.int xl), .val (.int xx), .val (.int xy), .val (.int (0 : Int32)), .unset, .unset, .unset, .unset] [(.ref a1)])
    refine o_astore X1 at_19 rfl #[.val (.int xl), .val (.int xx), .val (.int xy), .val (.int (0 : Int32)), .val (.ref a1), .unset, .unset, .unset] rfl 21 rfl ?_
    refine o_iloadN X1 at_21 rfl 22 rfl ?_
    refine o_iloadN X1 at_22 rfl 23 rfl ?_
    refine o_callS X1 at_23 (rest := []) (c_make_0 l Z a0 hw [] n0 _ X1.size xy ((a1, OA Z .boolean []) :: []) H1) (hw _ (List.mem_of_getElem? (i := 0) rfl)) (hw _ (List.mem_of_getElem? (i := 1) rfl)) (hw _ (List.mem_of_getElem? (i := 2) rfl)) (hw _ (List.mem_of_getElem? (i := 3) rfl)) (by decide) 0 (by decide) (by decide) rfl [(.int xy), (.int (0 : Int32))] rfl pd_1 rfl rfl (Nat.le_of_eq rfl) 2 0 rfl rfl (by decide) (by decide) 26 rfl ?_
    rintro _ T2 h2 X2 ⟨a2, rfl, H2⟩
    replace H2 : OL n0 h2 ((a2, OA Z .boolean []) :: (a1, OA Z .boolean []) :: []) := H2
    show OE p e room_1 below s n0 Q' T2 (mkF m 26 #[.val (.int xl), .val (.int xx), .val (.int xy), .val (.int (0 : Int32)), .val (.ref a1), .unset, .unset, .unset] [(.ref a2)])
    refine o_astore X2 at_26 rfl #[.val (.int xl), .val (.int xx), .val (.int xy), .val (.int (0 : Int32)), .val (.ref a1), .val (.ref a2), .unset, .unset] rfl 28 rfl ?_
    refine o_aload X2 at_28 rfl rfl 30 rfl ?_
    refine o_aload X2 at_30 rfl rfl 32 rfl ?_
    have H4 : OL n0 h2 ((a1, OA Z .boolean []) :: (a2, OA Z .boolean []) :: []) := H2.front 1 rfl
    refine o_callS X2 at_32 (rest := []) (c_halves_0 l Z a0 hw [] n0 _ X2.size a1 a2 xx xy [] H4) (hw _ (List.mem_of_getElem? (i := 5) rfl)) (hw _ (List.mem_of_getElem? (i := 6) rfl)) (hw _ (List.mem_of_getElem? (i := 7) rfl)) (hw _ (List.mem_of_getElem? (i := 8) rfl)) (by decide) 0 (by decide) (by decide) rfl [(.ref a1), (.ref a2)] rfl pd_2 rfl rfl (Nat.le_of_eq rfl) 3 0 rfl rfl (by decide) (by decide) 35 rfl ?_
    rintro _ T3 h3 X3 ⟨a3, rfl, H3⟩
    replace H3 : OL n0 h3 ((a3, OA Z .boolean []) :: (a1, OA Z .boolean []) :: (a2, OA Z .boolean []) :: []) := H3
    show OE p e room_1 below s n0 Q' T3 (mkF m 35 #[.val (.int xl), .val (.int xx), .val (.int xy), .val (.int (0 : Int32)), .val (.ref a1), .val (.ref a2), .unset, .unset] [(.ref a3)])
    refine o_astore X3 at_35 rfl #[.val (.int xl), .val (.int xx), .val (.int xy), .val (.int (0 : Int32)), .val (.ref a1), .val (.ref a2), .val (.ref a3), .unset] rfl 37 rfl ?_
    refine o_aload X3 at_37 rfl rfl 39 rfl ?_
    refine o_ifnullR X3 at_39 42 rfl ?_
    refine o_aload X3 at_42 rfl rfl 44 rfl ?_
    refine o_aload X3 at_44 rfl rfl 46 rfl ?_
    refine o_acmpEqN X3 at_46 (H3.ne (i := 0) (j := 1) rfl rfl (by decide)) 49 rfl ?_
    refine o_aload X3 at_49 rfl rfl 51 rfl ?_
    refine o_aload X3 at_51 rfl rfl 53 rfl ?_
    refine o_acmpNeY X3 at_53 (H3.ne (i := 0) (j := 2) rfl rfl (by decide)) 58 (by decide) (by decide) ?_
    refine o_aload X3 at_58 rfl rfl 60 rfl ?_
    refine o_arraylength X3 H3 0 rfl at_60 (0 : Int32) rfl 61 rfl ?_
    refine o_iloadN X3 at_61 rfl 62 rfl ?_
    refine o_icmpEq X3 at_62 67 65 (by decide) (by decide) rfl ?_ (fun q => by exfalso; exact absurd q (by decide))
    intro hc62
    refine o_aload X3 at_67 rfl rfl 69 rfl ?_
    refine o_iconst (v := (0 : Int32)) X3 at_69 rfl 70 rfl ?_
    refine o_iloadN X3 at_70 rfl 71 rfl ?_
    refine o_iloadN X3 at_71 rfl 72 rfl ?_
    refine o_iloadN X3 at_72 rfl 73 rfl ?_
    refine o_callS X3 at_73 (rest := []) (c_at_0_0 l Z a0 hw [] n0 _ X3.size a3 xx xy ((a1, OA Z .boolean []) :: (a2, OA Z .boolean []) :: []) H3) (hw _ (List.mem_of_getElem? (i := 22) rfl)) (hw _ (List.mem_of_getElem? (i := 23) rfl)) (hw _ (List.mem_of_getElem? (i := 2) rfl)) (hw _ (List.mem_of_getElem? (i := 24) rfl)) (by decide) 0 (by decide) (by decide) rfl [(.ref a3), (.int (0 : Int32)), (.int (0 : Int32)), (.int xx), (.int xy)] rfl pd_3 rfl rfl (Nat.le_of_eq rfl) 3 0 rfl rfl (by decide) (by decide) 76 rfl ?_
    rintro _ T5 _ X5 ⟨rfl, rfl⟩
    show OE p e room_1 below s n0 Q' T5 (mkF m 76 #[.val (.int xl), .val (.int xx), .val (.int xy), .val (.int (0 : Int32)), .val (.ref a1), .val (.ref a2), .val (.ref a3), .unset] [(.int (1 : Int32))])
    refine o_ifEq X5 at_76 156 79 (by decide) (by decide) rfl (fun q => by exfalso; exact absurd q (by decide)) ?_
    intro hc76
    refine o_aload X5 at_79 rfl rfl 81 rfl ?_
    refine o_iconst (v := (1 : Int32)) X5 at_81 rfl 82 rfl ?_
    refine o_iloadN X5 at_82 rfl 83 rfl ?_
    refine o_iloadN X5 at_83 rfl 84 rfl ?_
    refine o_iloadN X5 at_84 rfl 85 rfl ?_
    refine o_callS X5 at_85 (rest := []) (c_at_0_1 l Z a0 hw [] n0 _ X5.size a3 xx xy ((a1, OA Z .boolean []) :: (a2, OA Z .boolean []) :: []) H3) (hw _ (List.mem_of_getElem? (i := 22) rfl)) (hw _ (List.mem_of_getElem? (i := 23) rfl)) (hw _ (List.mem_of_getElem? (i := 2) rfl)) (hw _ (List.mem_of_getElem? (i := 24) rfl)) (by decide) 0 (by decide) (by decide) rfl [(.ref a3), (.int (1 : Int32)), (.int (0 : Int32)), (.int xx), (.int xy)] rfl pd_3 rfl rfl (Nat.le_of_eq rfl) 3 0 rfl rfl (by decide) (by decide) 88 rfl ?_
    rintro _ T6 _ X6 ⟨rfl, rfl⟩
    show OE p e room_1 below s n0 Q' T6 (mkF m 88 #[.val (.int xl), .val (.int xx), .val (.int xy), .val (.int (0 : Int32)), .val (.ref a1), .val (.ref a2), .val (.ref a3), .unset] [(.int (1 : Int32))])
    refine o_ifEq X6 at_88 156 91 (by decide) (by decide) rfl (fun q => by exfalso; exact absurd q (by decide)) ?_
    intro hc88
    refine o_aload X6 at_91 rfl rfl 93 rfl ?_
    refine o_iconst (v := (2 : Int32)) X6 at_93 rfl 94 rfl ?_
    refine o_iloadN X6 at_94 rfl 95 rfl ?_
    refine o_iloadN X6 at_95 rfl 96 rfl ?_
    refine o_iloadN X6 at_96 rfl 97 rfl ?_
    refine o_callS X6 at_97 (rest := []) (c_at_0_2 l Z a0 hw [] n0 _ X6.size a3 xx xy ((a1, OA Z .boolean []) :: (a2, OA Z .boolean []) :: []) H3) (hw _ (List.mem_of_getElem? (i := 22) rfl)) (hw _ (List.mem_of_getElem? (i := 23) rfl)) (hw _ (List.mem_of_getElem? (i := 2) rfl)) (hw _ (List.mem_of_getElem? (i := 24) rfl)) (by decide) 0 (by decide) (by decide) rfl [(.ref a3), (.int (2 : Int32)), (.int (0 : Int32)), (.int xx), (.int xy)] rfl pd_3 rfl rfl (Nat.le_of_eq rfl) 3 0 rfl rfl (by decide) (by decide) 100 rfl ?_
    rintro _ T7 _ X7 ⟨rfl, rfl⟩
    show OE p e room_1 below s n0 Q' T7 (mkF m 100 #[.val (.int xl), .val (.int xx), .val (.int xy), .val (.int (0 : Int32)), .val (.ref a1), .val (.ref a2), .val (.ref a3), .unset] [(.int (1 : Int32))])
    refine o_ifEq X7 at_100 156 103 (by decide) (by decide) rfl (fun q => by exfalso; exact absurd q (by decide)) ?_
    intro hc100
    refine o_aload X7 at_103 rfl rfl 105 rfl ?_
    refine o_iconst (v := (3 : Int32)) X7 at_105 rfl 106 rfl ?_
    refine o_iloadN X7 at_106 rfl 107 rfl ?_
    refine o_iloadN X7 at_107 rfl 108 rfl ?_
    refine o_iloadN X7 at_108 rfl 109 rfl ?_
    refine o_callS X7 at_109 (rest := []) (c_at_0_3 l Z a0 hw [] n0 _ X7.size a3 xx xy ((a1, OA Z .boolean []) :: (a2, OA Z .boolean []) :: []) H3) (hw _ (List.mem_of_getElem? (i := 22) rfl)) (hw _ (List.mem_of_getElem? (i := 23) rfl)) (hw _ (List.mem_of_getElem? (i := 2) rfl)) (hw _ (List.mem_of_getElem? (i := 24) rfl)) (by decide) 0 (by decide) (by decide) rfl [(.ref a3), (.int (3 : Int32)), (.int (0 : Int32)), (.int xx), (.int xy)] rfl pd_3 rfl rfl (Nat.le_of_eq rfl) 3 0 rfl rfl (by decide) (by decide) 112 rfl ?_
    rintro _ T8 _ X8 ⟨rfl, rfl⟩
    show OE p e room_1 below s n0 Q' T8 (mkF m 112 #[.val (.int xl), .val (.int xx), .val (.int xy), .val (.int (0 : Int32)), .val (.ref a1), .val (.ref a2), .val (.ref a3), .unset] [(.int (1 : Int32))])
    refine o_ifEq X8 at_112 156 115 (by decide) (by decide) rfl (fun q => by exfalso; exact absurd q (by decide)) ?_
    intro hc112
    refine o_aload X8 at_115 rfl rfl 117 rfl ?_
    refine o_iconst (v := (4 : Int32)) X8 at_117 rfl 118 rfl ?_
    refine o_iloadN X8 at_118 rfl 119 rfl ?_
    refine o_iloadN X8 at_119 rfl 120 rfl ?_
    refine o_iloadN X8 at_120 rfl 121 rfl ?_
    refine o_callS X8 at_121 (rest := []) (c_at_0_4 l Z a0 hw [] n0 _ X8.size a3 xx xy ((a1, OA Z .boolean []) :: (a2, OA Z .boolean []) :: []) H3) (hw _ (List.mem_of_getElem? (i := 22) rfl)) (hw _ (List.mem_of_getElem? (i := 23) rfl)) (hw _ (List.mem_of_getElem? (i := 2) rfl)) (hw _ (List.mem_of_getElem? (i := 24) rfl)) (by decide) 0 (by decide) (by decide) rfl [(.ref a3), (.int (4 : Int32)), (.int (0 : Int32)), (.int xx), (.int xy)] rfl pd_3 rfl rfl (Nat.le_of_eq rfl) 3 0 rfl rfl (by decide) (by decide) 124 rfl ?_
    rintro _ T9 _ X9 ⟨rfl, rfl⟩
    show OE p e room_1 below s n0 Q' T9 (mkF m 124 #[.val (.int xl), .val (.int xx), .val (.int xy), .val (.int (0 : Int32)), .val (.ref a1), .val (.ref a2), .val (.ref a3), .unset] [(.int (1 : Int32))])
    refine o_ifEq X9 at_124 156 127 (by decide) (by decide) rfl (fun q => by exfalso; exact absurd q (by decide)) ?_
    intro hc124
    refine o_aload X9 at_127 rfl rfl 129 rfl ?_
    refine o_iconst (v := (5 : Int32)) X9 at_129 rfl 130 rfl ?_
    refine o_iloadN X9 at_130 rfl 131 rfl ?_
    refine o_iloadN X9 at_131 rfl 132 rfl ?_
    refine o_iloadN X9 at_132 rfl 133 rfl ?_
    refine o_callS X9 at_133 (rest := []) (c_at_0_5 l Z a0 hw [] n0 _ X9.size a3 xx xy ((a1, OA Z .boolean []) :: (a2, OA Z .boolean []) :: []) H3) (hw _ (List.mem_of_getElem? (i := 22) rfl)) (hw _ (List.mem_of_getElem? (i := 23) rfl)) (hw _ (List.mem_of_getElem? (i := 2) rfl)) (hw _ (List.mem_of_getElem? (i := 24) rfl)) (by decide) 0 (by decide) (by decide) rfl [(.ref a3), (.int (5 : Int32)), (.int (0 : Int32)), (.int xx), (.int xy)] rfl pd_3 rfl rfl (Nat.le_of_eq rfl) 3 0 rfl rfl (by decide) (by decide) 136 rfl ?_
    rintro _ T10 _ X10 ⟨rfl, rfl⟩
    show OE p e room_1 below s n0 Q' T10 (mkF m 136 #[.val (.int xl), .val (.int xx), .val (.int xy), .val (.int (0 : Int32)), .val (.ref a1), .val (.ref a2), .val (.ref a3), .unset] [(.int (1 : Int32))])
    refine o_ifEq X10 at_136 156 139 (by decide) (by decide) rfl (fun q => by exfalso; exact absurd q (by decide)) ?_
    intro hc136
    refine o_aload X10 at_139 rfl rfl 141 rfl ?_
    refine o_bipush (v := (6 : Int32)) X10 at_141 rfl 143 rfl ?_
    refine o_iloadN X10 at_143 rfl 144 rfl ?_
    refine o_iloadN X10 at_144 rfl 145 rfl ?_
    refine o_iloadN X10 at_145 rfl 146 rfl ?_
    refine o_callS X10 at_146 (rest := []) (c_at_0_6 l Z a0 hw [] n0 _ X10.size a3 xx xy ((a1, OA Z .boolean []) :: (a2, OA Z .boolean []) :: []) H3) (hw _ (List.mem_of_getElem? (i := 22) rfl)) (hw _ (List.mem_of_getElem? (i := 23) rfl)) (hw _ (List.mem_of_getElem? (i := 2) rfl)) (hw _ (List.mem_of_getElem? (i := 24) rfl)) (by decide) 0 (by decide) (by decide) rfl [(.ref a3), (.int (6 : Int32)), (.int (0 : Int32)), (.int xx), (.int xy)] rfl pd_3 rfl rfl (Nat.le_of_eq rfl) 3 0 rfl rfl (by decide) (by decide) 149 rfl ?_
    rintro _ T11 _ X11 ⟨rfl, rfl⟩
    show OE p e room_1 below s n0 Q' T11 (mkF m 149 #[.val (.int xl), .val (.int xx), .val (.int xy), .val (.int (0 : Int32)), .val (.ref a1), .val (.ref a2), .val (.ref a3), .unset] [(.int (1 : Int32))])
    refine o_ifEq X11 at_149 156 152 (by decide) (by decide) rfl (fun q => by exfalso; exact absurd q (by decide)) ?_
    intro hc149
    refine o_iconst (v := (1 : Int32)) X11 at_152 rfl 153 rfl ?_
    refine o_goto X11 at_153 157 (by decide) (by decide) ?_
    refine o_istore X11 at_157 #[.val (.int xl), .val (.int xx), .val (.int xy), .val (.int (0 : Int32)), .val (.ref a1), .val (.ref a2), .val (.ref a3), .val (.int (1 : Int32))] rfl 159 rfl ?_
    refine o_iload X11 at_159 rfl 161 rfl ?_
    refine o_ifEq X11 at_161 188 164 (by decide) (by decide) rfl (fun q => by exfalso; exact absurd q (by decide)) ?_
    intro hc161
    refine o_aload X11 at_164 rfl rfl 166 rfl ?_
    refine o_iloadN X11 at_166 rfl 167 rfl ?_
    refine o_iloadN X11 at_167 rfl 168 rfl ?_
    have H13 : OL n0 h3 ((a1, OA Z .boolean []) :: (a3, OA Z .boolean []) :: (a2, OA Z .boolean []) :: []) := H3.front 1 rfl
    refine o_callS X11 at_168 (rest := []) (c_all_0 l Z a0 hw [] n0 _ X11.size a1 xx ((a3, OA Z .boolean []) :: (a2, OA Z .boolean []) :: []) H13) (hw _ (List.mem_of_getElem? (i := 25) rfl)) (hw _ (List.mem_of_getElem? (i := 26) rfl)) (hw _ (List.mem_of_getElem? (i := 2) rfl)) (hw _ (List.mem_of_getElem? (i := 27) rfl)) (by decide) 0 (by decide) (by decide) rfl [(.ref a1), (.int (0 : Int32)), (.int xx)] rfl pd_4 rfl rfl (Nat.le_of_eq rfl) 3 0 rfl rfl (by decide) (by decide) 171 rfl ?_
    rintro _ T12 _ X12 ⟨rfl, rfl⟩
    show OE p e room_1 below s n0 Q' T12 (mkF m 171 #[.val (.int xl), .val (.int xx), .val (.int xy), .val (.int (0 : Int32)), .val (.ref a1), .val (.ref a2), .val (.ref a3), .val (.int (1 : Int32))] [(.int (1 : Int32))])
    refine o_ifEq X12 at_171 188 174 (by decide) (by decide) rfl (fun q => by exfalso; exact absurd q (by decide)) ?_
    intro hc171
    refine o_aload X12 at_174 rfl rfl 176 rfl ?_
    refine o_iloadN X12 at_176 rfl 177 rfl ?_
    refine o_iloadN X12 at_177 rfl 178 rfl ?_
    have H15 : OL n0 h3 ((a2, OA Z .boolean []) :: (a1, OA Z .boolean []) :: (a3, OA Z .boolean []) :: []) := H13.front 2 rfl
    refine o_callS X12 at_178 (rest := []) (c_all_0 l Z a0 hw [] n0 _ X12.size a2 xy ((a1, OA Z .boolean []) :: (a3, OA Z .boolean []) :: []) H15) (hw _ (List.mem_of_getElem? (i := 25) rfl)) (hw _ (List.mem_of_getElem? (i := 26) rfl)) (hw _ (List.mem_of_getElem? (i := 2) rfl)) (hw _ (List.mem_of_getElem? (i := 27) rfl)) (by decide) 0 (by decide) (by decide) rfl [(.ref a2), (.int (0 : Int32)), (.int xy)] rfl pd_4 rfl rfl (Nat.le_of_eq rfl) 3 0 rfl rfl (by decide) (by decide) 181 rfl ?_
    rintro _ T14 _ X14 ⟨rfl, rfl⟩
    show OE p e room_1 below s n0 Q' T14 (mkF m 181 #[.val (.int xl), .val (.int xx), .val (.int xy), .val (.int (0 : Int32)), .val (.ref a1), .val (.ref a2), .val (.ref a3), .val (.int (1 : Int32))] [(.int (1 : Int32))])
    refine o_ifEq X14 at_181 188 184 (by decide) (by decide) rfl (fun q => by exfalso; exact absurd q (by decide)) ?_
    intro hc181
    refine o_iconst (v := (1 : Int32)) X14 at_184 rfl 185 rfl ?_
    refine o_goto X14 at_185 189 (by decide) (by decide) ?_
    exact o_retZ X14 at_189 (by decide) (by decide) (hQ _ _ rfl)
  · rw [hv]
    refine o_iloadN X0 at_5 rfl 6 rfl ?_
    refine o_bipush (v := (7 : Int32)) X0 at_6 rfl 8 rfl ?_
    refine o_icmpNe X0 at_8 14 11 (by decide) (by decide) rfl ?_ (fun q => by exfalso; exact absurd q (by decide))
    intro hc8
    refine o_iloadN X0 at_14 rfl 15 rfl ?_
    refine o_iloadN X0 at_15 rfl 16 rfl ?_
    refine o_callS X0 at_16 (rest := []) (c_make_1 l Z a0 hw [] n0 _ X0.size xx [] OL.nil) (hw _ (List.mem_of_getElem? (i := 0) rfl)) (hw _ (List.mem_of_getElem? (i := 1) rfl)) (hw _ (List.mem_of_getElem? (i := 2) rfl)) (hw _ (List.mem_of_getElem? (i := 3) rfl)) (by decide) 0 (by decide) (by decide) rfl [(.int xx), (.int (1 : Int32))] rfl pd_1 rfl rfl (Nat.le_of_eq rfl) 1 1 rfl rfl (by decide) (by decide) 19 rfl ?_
    rintro _ T16 h16 X16 ⟨a16, rfl, H16⟩
    replace H16 : OL n0 h16 ((a16, OA Z .boolean [(f_bit xx (0 : Int32))]) :: []) := H16
    show OE p e room_1 below s n0 Q' T16 (mkF m 19 #[.val (.int xl), .val (.int xx), .val (.int xy), .val (.int (1 : Int32)), .unset, .unset, .unset, .unset] [(.ref a16)])
    refine o_astore X16 at_19 rfl #[.val (.int xl), .val (.int xx), .val (.int xy), .val (.int (1 : Int32)), .val (.ref a16), .unset, .unset, .unset] rfl 21 rfl ?_
    refine o_iloadN X16 at_21 rfl 22 rfl ?_
    refine o_iloadN X16 at_22 rfl 23 rfl ?_
    refine o_callS X16 at_23 (rest := []) (c_make_1 l Z a0 hw [] n0 _ X16.size xy ((a16, OA Z .boolean [(f_bit xx (0 : Int32))]) :: []) H16) (hw _ (List.mem_of_getElem? (i := 0) rfl)) (hw _ (List.mem_of_getElem? (i := 1) rfl)) (hw _ (List.mem_of_getElem? (i := 2) rfl)) (hw _ (List.mem_of_getElem? (i := 3) rfl)) (by decide) 0 (by decide) (by decide) rfl [(.int xy), (.int (1 : Int32))] rfl pd_1 rfl rfl (Nat.le_of_eq rfl) 2 2 rfl rfl (by decide) (by decide) 26 rfl ?_
    rintro _ T17 h17 X17 ⟨a17, rfl, H17⟩
    replace H17 : OL n0 h17 ((a17, OA Z .boolean [(f_bit xy (0 : Int32))]) :: (a16, OA Z .boolean [(f_bit xx (0 : Int32))]) :: []) := H17
    show OE p e room_1 below s n0 Q' T17 (mkF m 26 #[.val (.int xl), .val (.int xx), .val (.int xy), .val (.int (1 : Int32)), .val (.ref a16), .unset, .unset, .unset] [(.ref a17)])
    refine o_astore X17 at_26 rfl #[.val (.int xl), .val (.int xx), .val (.int xy), .val (.int (1 : Int32)), .val (.ref a16), .val (.ref a17), .unset, .unset] rfl 28 rfl ?_
    refine o_aload X17 at_28 rfl rfl 30 rfl ?_
    refine o_aload X17 at_30 rfl rfl 32 rfl ?_
    have H19 : OL n0 h17 ((a16, OA Z .boolean [(f_bit xx (0 : Int32))]) :: (a17, OA Z .boolean [(f_bit xy (0 : Int32))]) :: []) := H17.front 1 rfl
    refine o_callS X17 at_32 (rest := []) (c_halves_1 l Z a0 hw [] n0 _ X17.size a16 a17 xx xy [] H19) (hw _ (List.mem_of_getElem? (i := 5) rfl)) (hw _ (List.mem_of_getElem? (i := 6) rfl)) (hw _ (List.mem_of_getElem? (i := 7) rfl)) (hw _ (List.mem_of_getElem? (i := 8) rfl)) (by decide) 0 (by decide) (by decide) rfl [(.ref a16), (.ref a17)] rfl pd_2 rfl rfl (Nat.le_of_eq rfl) 3 3 rfl rfl (by decide) (by decide) 35 rfl ?_
    rintro _ T18 h18 X18 ⟨a18, rfl, H18⟩
    replace H18 : OL n0 h18 ((a18, OA Z .boolean [(f_bit xy (0 : Int32))]) :: (a16, OA Z .boolean [(f_bit xx (0 : Int32))]) :: (a17, OA Z .boolean [(f_bit xy (0 : Int32))]) :: []) := H18
    show OE p e room_1 below s n0 Q' T18 (mkF m 35 #[.val (.int xl), .val (.int xx), .val (.int xy), .val (.int (1 : Int32)), .val (.ref a16), .val (.ref a17), .unset, .unset] [(.ref a18)])
    refine o_astore X18 at_35 rfl #[.val (.int xl), .val (.int xx), .val (.int xy), .val (.int (1 : Int32)), .val (.ref a16), .val (.ref a17), .val (.ref a18), .unset] rfl 37 rfl ?_
    refine o_aload X18 at_37 rfl rfl 39 rfl ?_
    refine o_ifnullR X18 at_39 42 rfl ?_
    refine o_aload X18 at_42 rfl rfl 44 rfl ?_
    refine o_aload X18 at_44 rfl rfl 46 rfl ?_
    refine o_acmpEqN X18 at_46 (H18.ne (i := 0) (j := 1) rfl rfl (by decide)) 49 rfl ?_
    refine o_aload X18 at_49 rfl rfl 51 rfl ?_
    refine o_aload X18 at_51 rfl rfl 53 rfl ?_
    refine o_acmpNeY X18 at_53 (H18.ne (i := 0) (j := 2) rfl rfl (by decide)) 58 (by decide) (by decide) ?_
    refine o_aload X18 at_58 rfl rfl 60 rfl ?_
    refine o_arraylength X18 H18 0 rfl at_60 (1 : Int32) rfl 61 rfl ?_
    refine o_iloadN X18 at_61 rfl 62 rfl ?_
    refine o_icmpEq X18 at_62 67 65 (by decide) (by decide) rfl ?_ (fun q => by exfalso; exact absurd q (by decide))
    intro hc62
    refine o_aload X18 at_67 rfl rfl 69 rfl ?_
    refine o_iconst (v := (0 : Int32)) X18 at_69 rfl 70 rfl ?_
    refine o_iloadN X18 at_70 rfl 71 rfl ?_
    refine o_iloadN X18 at_71 rfl 72 rfl ?_
    refine o_iloadN X18 at_72 rfl 73 rfl ?_
    refine o_callS X18 at_73 (rest := []) (c_at_1_0 l Z a0 hw [] n0 _ X18.size a18 xx xy ((a16, OA Z .boolean [(f_bit xx (0 : Int32))]) :: (a17, OA Z .boolean [(f_bit xy (0 : Int32))]) :: []) H18) (hw _ (List.mem_of_getElem? (i := 22) rfl)) (hw _ (List.mem_of_getElem? (i := 23) rfl)) (hw _ (List.mem_of_getElem? (i := 2) rfl)) (hw _ (List.mem_of_getElem? (i := 24) rfl)) (by decide) 0 (by decide) (by decide) rfl [(.ref a18), (.int (0 : Int32)), (.int (1 : Int32)), (.int xx), (.int xy)] rfl pd_3 rfl rfl (Nat.le_of_eq rfl) 3 3 rfl rfl (by decide) (by decide) 76 rfl ?_
    rintro _ T20 _ X20 ⟨rfl, rfl⟩
    show OE p e room_1 below s n0 Q' T20 (mkF m 76 #[.val (.int xl), .val (.int xx), .val (.int xy), .val (.int (1 : Int32)), .val (.ref a16), .val (.ref a17), .val (.ref a18), .unset] [(.int (1 : Int32))])
    refine o_ifEq X20 at_76 156 79 (by decide) (by decide) rfl (fun q => by exfalso; exact absurd q (by decide)) ?_
    intro hc76
    refine o_aload X20 at_79 rfl rfl 81 rfl ?_
    refine o_iconst (v := (1 : Int32)) X20 at_81 rfl 82 rfl ?_
    refine o_iloadN X20 at_82 rfl 83 rfl ?_
    refine o_iloadN X20 at_83 rfl 84 rfl ?_
    refine o_iloadN X20 at_84 rfl 85 rfl ?_
    refine o_callS X20 at_85 (rest := []) (c_at_1_1 l Z a0 hw [] n0 _ X20.size a18 xx xy ((a16, OA Z .boolean [(f_bit xx (0 : Int32))]) :: (a17, OA Z .boolean [(f_bit xy (0 : Int32))]) :: []) H18) (hw _ (List.mem_of_getElem? (i := 22) rfl)) (hw _ (List.mem_of_getElem? (i := 23) rfl)) (hw _ (List.mem_of_getElem? (i := 2) rfl)) (hw _ (List.mem_of_getElem? (i := 24) rfl)) (by decide) 0 (by decide) (by decide) rfl [(.ref a18), (.int (1 : Int32)), (.int (1 : Int32)), (.int xx), (.int xy)] rfl pd_3 rfl rfl (Nat.le_of_eq rfl) 3 3 rfl rfl (by decide) (by decide) 88 rfl ?_
    rintro _ T21 _ X21 ⟨rfl, rfl⟩
    show OE p e room_1 below s n0 Q' T21 (mkF m 88 #[.val (.int xl), .val (.int xx), .val (.int xy), .val (.int (1 : Int32)), .val (.ref a16), .val (.ref a17), .val (.ref a18), .unset] [(.int (1 : Int32))])
    refine o_ifEq X21 at_88 156 91 (by decide) (by decide) rfl (fun q => by exfalso; exact absurd q (by decide)) ?_
    intro hc88
    refine o_aload X21 at_91 rfl rfl 93 rfl ?_
    refine o_iconst (v := (2 : Int32)) X21 at_93 rfl 94 rfl ?_
    refine o_iloadN X21 at_94 rfl 95 rfl ?_
    refine o_iloadN X21 at_95 rfl 96 rfl ?_
    refine o_iloadN X21 at_96 rfl 97 rfl ?_
    refine o_callS X21 at_97 (rest := []) (c_at_1_2 l Z a0 hw [] n0 _ X21.size a18 xx xy ((a16, OA Z .boolean [(f_bit xx (0 : Int32))]) :: (a17, OA Z .boolean [(f_bit xy (0 : Int32))]) :: []) H18) (hw _ (List.mem_of_getElem? (i := 22) rfl)) (hw _ (List.mem_of_getElem? (i := 23) rfl)) (hw _ (List.mem_of_getElem? (i := 2) rfl)) (hw _ (List.mem_of_getElem? (i := 24) rfl)) (by decide) 0 (by decide) (by decide) rfl [(.ref a18), (.int (2 : Int32)), (.int (1 : Int32)), (.int xx), (.int xy)] rfl pd_3 rfl rfl (Nat.le_of_eq rfl) 3 3 rfl rfl (by decide) (by decide) 100 rfl ?_
    rintro _ T22 _ X22 ⟨rfl, rfl⟩
    show OE p e room_1 below s n0 Q' T22 (mkF m 100 #[.val (.int xl), .val (.int xx), .val (.int xy), .val (.int (1 : Int32)), .val (.ref a16), .val (.ref a17), .val (.ref a18), .unset] [(.int (1 : Int32))])
    refine o_ifEq X22 at_100 156 103 (by decide) (by decide) rfl (fun q => by exfalso; exact absurd q (by decide)) ?_
    intro hc100
    refine o_aload X22 at_103 rfl rfl 105 rfl ?_
    refine o_iconst (v := (3 : Int32)) X22 at_105 rfl 106 rfl ?_
    refine o_iloadN X22 at_106 rfl 107 rfl ?_
    refine o_iloadN X22 at_107 rfl 108 rfl ?_
    refine o_iloadN X22 at_108 rfl 109 rfl ?_
    refine o_callS X22 at_109 (rest := []) (c_at_1_3 l Z a0 hw [] n0 _ X22.size a18 xx xy ((a16, OA Z .boolean [(f_bit xx (0 : Int32))]) :: (a17, OA Z .boolean [(f_bit xy (0 : Int32))]) :: []) H18) (hw _ (List.mem_of_getElem? (i := 22) rfl)) (hw _ (List.mem_of_getElem? (i := 23) rfl)) (hw _ (List.mem_of_getElem? (i := 2) rfl)) (hw _ (List.mem_of_getElem? (i := 24) rfl)) (by decide) 0 (by decide) (by decide) rfl [(.ref a18), (.int (3 : Int32)), (.int (1 : Int32)), (.int xx), (.int xy)] rfl pd_3 rfl rfl (Nat.le_of_eq rfl) 3 3 rfl rfl (by decide) (by decide) 112 rfl ?_
    rintro _ T23 _ X23 ⟨rfl, rfl⟩
    show OE p e room_1 below s n0 Q' T23 (mkF m 112 #[.val (.int xl), .val (.int xx), .val (.int xy), .val (.int (1 : Int32)), .val (.ref a16), .val (.ref a17), .val (.ref a18), .unset] [(.int (1 : Int32))])
    refine o_ifEq X23 at_112 156 115 (by decide) (by decide) rfl (fun q => by exfalso; exact absurd q (by decide)) ?_
    intro hc112
    refine o_aload X23 at_115 rfl rfl 117 rfl ?_
    refine o_iconst (v := (4 : Int32)) X23 at_117 rfl 118 rfl ?_
    refine o_iloadN X23 at_118 rfl 119 rfl ?_
    refine o_iloadN X23 at_119 rfl 120 rfl ?_
    refine o_iloadN X23 at_120 rfl 121 rfl ?_
    refine o_callS X23 at_121 (rest := []) (c_at_1_4 l Z a0 hw [] n0 _ X23.size a18 xx xy ((a16, OA Z .boolean [(f_bit xx (0 : Int32))]) :: (a17, OA Z .boolean [(f_bit xy (0 : Int32))]) :: []) H18) (hw _ (List.mem_of_getElem? (i := 22) rfl)) (hw _ (List.mem_of_getElem? (i := 23) rfl)) (hw _ (List.mem_of_getElem? (i := 2) rfl)) (hw _ (List.mem_of_getElem? (i := 24) rfl)) (by decide) 0 (by decide) (by decide) rfl [(.ref a18), (.int (4 : Int32)), (.int (1 : Int32)), (.int xx), (.int xy)] rfl pd_3 rfl rfl (Nat.le_of_eq rfl) 3 3 rfl rfl (by decide) (by decide) 124 rfl ?_
    rintro _ T24 _ X24 ⟨rfl, rfl⟩
    show OE p e room_1 below s n0 Q' T24 (mkF m 124 #[.val (.int xl), .val (.int xx), .val (.int xy), .val (.int (1 : Int32)), .val (.ref a16), .val (.ref a17), .val (.ref a18), .unset] [(.int (1 : Int32))])
    refine o_ifEq X24 at_124 156 127 (by decide) (by decide) rfl (fun q => by exfalso; exact absurd q (by decide)) ?_
    intro hc124
    refine o_aload X24 at_127 rfl rfl 129 rfl ?_
    refine o_iconst (v := (5 : Int32)) X24 at_129 rfl 130 rfl ?_
    refine o_iloadN X24 at_130 rfl 131 rfl ?_
    refine o_iloadN X24 at_131 rfl 132 rfl ?_
    refine o_iloadN X24 at_132 rfl 133 rfl ?_
    refine o_callS X24 at_133 (rest := []) (c_at_1_5 l Z a0 hw [] n0 _ X24.size a18 xx xy ((a16, OA Z .boolean [(f_bit xx (0 : Int32))]) :: (a17, OA Z .boolean [(f_bit xy (0 : Int32))]) :: []) H18) (hw _ (List.mem_of_getElem? (i := 22) rfl)) (hw _ (List.mem_of_getElem? (i := 23) rfl)) (hw _ (List.mem_of_getElem? (i := 2) rfl)) (hw _ (List.mem_of_getElem? (i := 24) rfl)) (by decide) 0 (by decide) (by decide) rfl [(.ref a18), (.int (5 : Int32)), (.int (1 : Int32)), (.int xx), (.int xy)] rfl pd_3 rfl rfl (Nat.le_of_eq rfl) 3 3 rfl rfl (by decide) (by decide) 136 rfl ?_
    rintro _ T25 _ X25 ⟨rfl, rfl⟩
    show OE p e room_1 below s n0 Q' T25 (mkF m 136 #[.val (.int xl), .val (.int xx), .val (.int xy), .val (.int (1 : Int32)), .val (.ref a16), .val (.ref a17), .val (.ref a18), .unset] [(.int (1 : Int32))])
    refine o_ifEq X25 at_136 156 139 (by decide) (by decide) rfl (fun q => by exfalso; exact absurd q (by decide)) ?_
    intro hc136
    refine o_aload X25 at_139 rfl rfl 141 rfl ?_
    refine o_bipush (v := (6 : Int32)) X25 at_141 rfl 143 rfl ?_
    refine o_iloadN X25 at_143 rfl 144 rfl ?_
    refine o_iloadN X25 at_144 rfl 145 rfl ?_
    refine o_iloadN X25 at_145 rfl 146 rfl ?_
    refine o_callS X25 at_146 (rest := []) (c_at_1_6 l Z a0 hw [] n0 _ X25.size a18 xx xy ((a16, OA Z .boolean [(f_bit xx (0 : Int32))]) :: (a17, OA Z .boolean [(f_bit xy (0 : Int32))]) :: []) H18) (hw _ (List.mem_of_getElem? (i := 22) rfl)) (hw _ (List.mem_of_getElem? (i := 23) rfl)) (hw _ (List.mem_of_getElem? (i := 2) rfl)) (hw _ (List.mem_of_getElem? (i := 24) rfl)) (by decide) 0 (by decide) (by decide) rfl [(.ref a18), (.int (6 : Int32)), (.int (1 : Int32)), (.int xx), (.int xy)] rfl pd_3 rfl rfl (Nat.le_of_eq rfl) 3 3 rfl rfl (by decide) (by decide) 149 rfl ?_
    rintro _ T26 _ X26 ⟨rfl, rfl⟩
    show OE p e room_1 below s n0 Q' T26 (mkF m 149 #[.val (.int xl), .val (.int xx), .val (.int xy), .val (.int (1 : Int32)), .val (.ref a16), .val (.ref a17), .val (.ref a18), .unset] [(.int (1 : Int32))])
    refine o_ifEq X26 at_149 156 152 (by decide) (by decide) rfl (fun q => by exfalso; exact absurd q (by decide)) ?_
    intro hc149
    refine o_iconst (v := (1 : Int32)) X26 at_152 rfl 153 rfl ?_
    refine o_goto X26 at_153 157 (by decide) (by decide) ?_
    refine o_istore X26 at_157 #[.val (.int xl), .val (.int xx), .val (.int xy), .val (.int (1 : Int32)), .val (.ref a16), .val (.ref a17), .val (.ref a18), .val (.int (1 : Int32))] rfl 159 rfl ?_
    refine o_iload X26 at_159 rfl 161 rfl ?_
    refine o_ifEq X26 at_161 188 164 (by decide) (by decide) rfl (fun q => by exfalso; exact absurd q (by decide)) ?_
    intro hc161
    refine o_aload X26 at_164 rfl rfl 166 rfl ?_
    refine o_iloadN X26 at_166 rfl 167 rfl ?_
    refine o_iloadN X26 at_167 rfl 168 rfl ?_
    have H28 : OL n0 h18 ((a16, OA Z .boolean [(f_bit xx (0 : Int32))]) :: (a18, OA Z .boolean [(f_bit xy (0 : Int32))]) :: (a17, OA Z .boolean [(f_bit xy (0 : Int32))]) :: []) := H18.front 1 rfl
    refine o_callS X26 at_168 (rest := []) (c_all_1 l Z a0 hw [] n0 _ X26.size a16 xx ((a18, OA Z .boolean [(f_bit xy (0 : Int32))]) :: (a17, OA Z .boolean [(f_bit xy (0 : Int32))]) :: []) H28) (hw _ (List.mem_of_getElem? (i := 25) rfl)) (hw _ (List.mem_of_getElem? (i := 26) rfl)) (hw _ (List.mem_of_getElem? (i := 2) rfl)) (hw _ (List.mem_of_getElem? (i := 27) rfl)) (by decide) 0 (by decide) (by decide) rfl [(.ref a16), (.int (1 : Int32)), (.int xx)] rfl pd_4 rfl rfl (Nat.le_of_eq rfl) 3 3 rfl rfl (by decide) (by decide) 171 rfl ?_
    rintro _ T27 _ X27 ⟨rfl, rfl⟩
    show OE p e room_1 below s n0 Q' T27 (mkF m 171 #[.val (.int xl), .val (.int xx), .val (.int xy), .val (.int (1 : Int32)), .val (.ref a16), .val (.ref a17), .val (.ref a18), .val (.int (1 : Int32))] [(.int (1 : Int32))])
    refine o_ifEq X27 at_171 188 174 (by decide) (by decide) rfl (fun q => by exfalso; exact absurd q (by decide)) ?_
    intro hc171
    refine o_aload X27 at_174 rfl rfl 176 rfl ?_
    refine o_iloadN X27 at_176 rfl 177 rfl ?_
    refine o_iloadN X27 at_177 rfl 178 rfl ?_
    have H30 : OL n0 h18 ((a17, OA Z .boolean [(f_bit xy (0 : Int32))]) :: (a16, OA Z .boolean [(f_bit xx (0 : Int32))]) :: (a18, OA Z .boolean [(f_bit xy (0 : Int32))]) :: []) := H28.front 2 rfl
    refine o_callS X27 at_178 (rest := []) (c_all_1 l Z a0 hw [] n0 _ X27.size a17 xy ((a16, OA Z .boolean [(f_bit xx (0 : Int32))]) :: (a18, OA Z .boolean [(f_bit xy (0 : Int32))]) :: []) H30) (hw _ (List.mem_of_getElem? (i := 25) rfl)) (hw _ (List.mem_of_getElem? (i := 26) rfl)) (hw _ (List.mem_of_getElem? (i := 2) rfl)) (hw _ (List.mem_of_getElem? (i := 27) rfl)) (by decide) 0 (by decide) (by decide) rfl [(.ref a17), (.int (1 : Int32)), (.int xy)] rfl pd_4 rfl rfl (Nat.le_of_eq rfl) 3 3 rfl rfl (by decide) (by decide) 181 rfl ?_
    rintro _ T29 _ X29 ⟨rfl, rfl⟩
    show OE p e room_1 below s n0 Q' T29 (mkF m 181 #[.val (.int xl), .val (.int xx), .val (.int xy), .val (.int (1 : Int32)), .val (.ref a16), .val (.ref a17), .val (.ref a18), .val (.int (1 : Int32))] [(.int (1 : Int32))])
    refine o_ifEq X29 at_181 188 184 (by decide) (by decide) rfl (fun q => by exfalso; exact absurd q (by decide)) ?_
    intro hc181
    refine o_iconst (v := (1 : Int32)) X29 at_184 rfl 185 rfl ?_
    refine o_goto X29 at_185 189 (by decide) (by decide) ?_
    exact o_retZ X29 at_189 (by decide) (by decide) (hQ _ _ rfl)
  · rw [hv]
    refine o_iloadN X0 at_5 rfl 6 rfl ?_
    refine o_bipush (v := (7 : Int32)) X0 at_6 rfl 8 rfl ?_
    refine o_icmpNe X0 at_8 14 11 (by decide) (by decide) rfl ?_ (fun q => by exfalso; exact absurd q (by decide))
    intro hc8
    refine o_iloadN X0 at_14 rfl 15 rfl ?_
    refine o_iloadN X0 at_15 rfl 16 rfl ?_
    refine o_callS X0 at_16 (rest := []) (c_make_2 l Z a0 hw [] n0 _ X0.size xx [] OL.nil) (hw _ (List.mem_of_getElem? (i := 0) rfl)) (hw _ (List.mem_of_getElem? (i := 1) rfl)) (hw _ (List.mem_of_getElem? (i := 2) rfl)) (hw _ (List.mem_of_getElem? (i := 3) rfl)) (by decide) 0 (by decide) (by decide) rfl [(.int xx), (.int (2 : Int32))] rfl pd_1 rfl rfl (Nat.le_of_eq rfl) 1 2 rfl rfl (by decide) (by decide) 19 rfl ?_
    rintro _ T31 h31 X31 ⟨a31, rfl, H31⟩
    replace H31 : OL n0 h31 ((a31, OA Z .boolean [(f_bit xx (0 : Int32)), (f_bit xx (1 : Int32))]) :: []) := H31
    show OE p e room_1 below s n0 Q' T31 (mkF m 19 #[.val (.int xl), .val (.int xx), .val (.int xy), .val (.int (2 : Int32)), .unset, .unset, .unset, .unset] [(.ref a31)])
    refine o_astore X31 at_19 rfl #[.val (.int xl), .val (.int xx), .val (.int xy), .val (.int (2 : Int32)), .val (.ref a31), .unset, .unset, .unset] rfl 21 rfl ?_
    refine o_iloadN X31 at_21 rfl 22 rfl ?_
    refine o_iloadN X31 at_22 rfl 23 rfl ?_
    refine o_callS X31 at_23 (rest := []) (c_make_2 l Z a0 hw [] n0 _ X31.size xy ((a31, OA Z .boolean [(f_bit xx (0 : Int32)), (f_bit xx (1 : Int32))]) :: []) H31) (hw _ (List.mem_of_getElem? (i := 0) rfl)) (hw _ (List.mem_of_getElem? (i := 1) rfl)) (hw _ (List.mem_of_getElem? (i := 2) rfl)) (hw _ (List.mem_of_getElem? (i := 3) rfl)) (by decide) 0 (by decide) (by decide) rfl [(.int xy), (.int (2 : Int32))] rfl pd_1 rfl rfl (Nat.le_of_eq rfl) 2 4 rfl rfl (by decide) (by decide) 26 rfl ?_
    rintro _ T32 h32 X32 ⟨a32, rfl, H32⟩
    replace H32 : OL n0 h32 ((a32, OA Z .boolean [(f_bit xy (0 : Int32)), (f_bit xy (1 : Int32))]) :: (a31, OA Z .boolean [(f_bit xx (0 : Int32)), (f_bit xx (1 : Int32))]) :: []) := H32
    show OE p e room_1 below s n0 Q' T32 (mkF m 26 #[.val (.int xl), .val (.int xx), .val (.int xy), .val (.int (2 : Int32)), .val (.ref a31), .unset, .unset, .unset] [(.ref a32)])
    refine o_astore X32 at_26 rfl #[.val (.int xl), .val (.int xx), .val (.int xy), .val (.int (2 : Int32)), .val (.ref a31), .val (.ref a32), .unset, .unset] rfl 28 rfl ?_
    refine o_aload X32 at_28 rfl rfl 30 rfl ?_
    refine o_aload X32 at_30 rfl rfl 32 rfl ?_
    have H34 : OL n0 h32 ((a31, OA Z .boolean [(f_bit xx (0 : Int32)), (f_bit xx (1 : Int32))]) :: (a32, OA Z .boolean [(f_bit xy (0 : Int32)), (f_bit xy (1 : Int32))]) :: []) := H32.front 1 rfl
    refine o_callS X32 at_32 (rest := []) (c_halves_2 l Z a0 hw [] n0 _ X32.size a31 a32 xx xy [] H34) (hw _ (List.mem_of_getElem? (i := 5) rfl)) (hw _ (List.mem_of_getElem? (i := 6) rfl)) (hw _ (List.mem_of_getElem? (i := 7) rfl)) (hw _ (List.mem_of_getElem? (i := 8) rfl)) (by decide) 0 (by decide) (by decide) rfl [(.ref a31), (.ref a32)] rfl pd_2 rfl rfl (Nat.le_of_eq rfl) 3 6 rfl rfl (by decide) (by decide) 35 rfl ?_
    rintro _ T33 h33 X33 ⟨a33, rfl, H33⟩
    replace H33 : OL n0 h33 ((a33, OA Z .boolean [(f_bit xx (0 : Int32)), (f_bit xy (1 : Int32))]) :: (a31, OA Z .boolean [(f_bit xx (0 : Int32)), (f_bit xx (1 : Int32))]) :: (a32, OA Z .boolean [(f_bit xy (0 : Int32)), (f_bit xy (1 : Int32))]) :: []) := H33
    show OE p e room_1 below s n0 Q' T33 (mkF m 35 #[.val (.int xl), .val (.int xx), .val (.int xy), .val (.int (2 : Int32)), .val (.ref a31), .val (.ref a32), .unset, .unset] [(.ref a33)])
    refine o_astore X33 at_35 rfl #[.val (.int xl), .val (.int xx), .val (.int xy), .val (.int (2 : Int32)), .val (.ref a31), .val (.ref a32), .val (.ref a33), .unset] rfl 37 rfl ?_
    refine o_aload X33 at_37 rfl rfl 39 rfl ?_
    refine o_ifnullR X33 at_39 42 rfl ?_
    refine o_aload X33 at_42 rfl rfl 44 rfl ?_
    refine o_aload X33 at_44 rfl rfl 46 rfl ?_
    refine o_acmpEqN X33 at_46 (H33.ne (i := 0) (j := 1) rfl rfl (by decide)) 49 rfl ?_
    refine o_aload X33 at_49 rfl rfl 51 rfl ?_
    refine o_aload X33 at_51 rfl rfl 53 rfl ?_
    refine o_acmpNeY X33 at_53 (H33.ne (i := 0) (j := 2) rfl rfl (by decide)) 58 (by decide) (by decide) ?_
    refine o_aload X33 at_58 rfl rfl 60 rfl ?_
    refine o_arraylength X33 H33 0 rfl at_60 (2 : Int32) rfl 61 rfl ?_
    refine o_iloadN X33 at_61 rfl 62 rfl ?_
    refine o_icmpEq X33 at_62 67 65 (by decide) (by decide) rfl ?_ (fun q => by exfalso; exact absurd q (by decide))
    intro hc62
    refine o_aload X33 at_67 rfl rfl 69 rfl ?_
    refine o_iconst (v := (0 : Int32)) X33 at_69 rfl 70 rfl ?_
    refine o_iloadN X33 at_70 rfl 71 rfl ?_
    refine o_iloadN X33 at_71 rfl 72 rfl ?_
    refine o_iloadN X33 at_72 rfl 73 rfl ?_
    refine o_callS X33 at_73 (rest := []) (c_at_2_0 l Z a0 hw [] n0 _ X33.size a33 xx xy ((a31, OA Z .boolean [(f_bit xx (0 : Int32)), (f_bit xx (1 : Int32))]) :: (a32, OA Z .boolean [(f_bit xy (0 : Int32)), (f_bit xy (1 : Int32))]) :: []) H33) (hw _ (List.mem_of_getElem? (i := 22) rfl)) (hw _ (List.mem_of_getElem? (i := 23) rfl)) (hw _ (List.mem_of_getElem? (i := 2) rfl)) (hw _ (List.mem_of_getElem? (i := 24) rfl)) (by decide) 0 (by decide) (by decide) rfl [(.ref a33), (.int (0 : Int32)), (.int (2 : Int32)), (.int xx), (.int xy)] rfl pd_3 rfl rfl (Nat.le_of_eq rfl) 3 6 rfl rfl (by decide) (by decide) 76 rfl ?_
    rintro _ T35 _ X35 ⟨rfl, rfl⟩
    show OE p e room_1 below s n0 Q' T35 (mkF m 76 #[.val (.int xl), .val (.int xx), .val (.int xy), .val (.int (2 : Int32)), .val (.ref a31), .val (.ref a32), .val (.ref a33), .unset] [(.int (1 : Int32))])
    refine o_ifEq X35 at_76 156 79 (by decide) (by decide) rfl (fun q => by exfalso; exact absurd q (by decide)) ?_
    intro hc76
    refine o_aload X35 at_79 rfl rfl 81 rfl ?_
    refine o_iconst (v := (1 : Int32)) X35 at_81 rfl 82 rfl ?_
    refine o_iloadN X35 at_82 rfl 83 rfl ?_
    refine o_iloadN X35 at_83 rfl 84 rfl ?_
    refine o_iloadN X35 at_84 rfl 85 rfl ?_
    refine o_callS X35 at_85 (rest := []) (c_at_2_1 l Z a0 hw [] n0 _ X35.size a33 xx xy ((a31, OA Z .boolean [(f_bit xx (0 : Int32)), (f_bit xx (1 : Int32))]) :: (a32, OA Z .boolean [(f_bit xy (0 : Int32)), (f_bit xy (1 : Int32))]) :: []) H33) (hw _ (List.mem_of_getElem? (i := 22) rfl)) (hw _ (List.mem_of_getElem? (i := 23) rfl)) (hw _ (List.mem_of_getElem? (i := 2) rfl)) (hw _ (List.mem_of_getElem? (i := 24) rfl)) (by decide) 0 (by decide) (by decide) rfl [(.ref a33), (.int (1 : Int32)), (.int (2 : Int32)), (.int xx), (.int xy)] rfl pd_3 rfl rfl (Nat.le_of_eq rfl) 3 6 rfl rfl (by decide) (by decide) 88 rfl ?_
    rintro _ T36 _ X36 ⟨rfl, rfl⟩
    show OE p e room_1 below s n0 Q' T36 (mkF m 88 #[.val (.int xl), .val (.int xx), .val (.int xy), .val (.int (2 : Int32)), .val (.ref a31), .val (.ref a32), .val (.ref a33), .unset] [(.int (1 : Int32))])
    refine o_ifEq X36 at_88 156 91 (by decide) (by decide) rfl (fun q => by exfalso; exact absurd q (by decide)) ?_
    intro hc88
    refine o_aload X36 at_91 rfl rfl 93 rfl ?_
    refine o_iconst (v := (2 : Int32)) X36 at_93 rfl 94 rfl ?_
    refine o_iloadN X36 at_94 rfl 95 rfl ?_
    refine o_iloadN X36 at_95 rfl 96 rfl ?_
    refine o_iloadN X36 at_96 rfl 97 rfl ?_
    refine o_callS X36 at_97 (rest := []) (c_at_2_2 l Z a0 hw [] n0 _ X36.size a33 xx xy ((a31, OA Z .boolean [(f_bit xx (0 : Int32)), (f_bit xx (1 : Int32))]) :: (a32, OA Z .boolean [(f_bit xy (0 : Int32)), (f_bit xy (1 : Int32))]) :: []) H33) (hw _ (List.mem_of_getElem? (i := 22) rfl)) (hw _ (List.mem_of_getElem? (i := 23) rfl)) (hw _ (List.mem_of_getElem? (i := 2) rfl)) (hw _ (List.mem_of_getElem? (i := 24) rfl)) (by decide) 0 (by decide) (by decide) rfl [(.ref a33), (.int (2 : Int32)), (.int (2 : Int32)), (.int xx), (.int xy)] rfl pd_3 rfl rfl (Nat.le_of_eq rfl) 3 6 rfl rfl (by decide) (by decide) 100 rfl ?_
    rintro _ T37 _ X37 ⟨rfl, rfl⟩
    show OE p e room_1 below s n0 Q' T37 (mkF m 100 #[.val (.int xl), .val (.int xx), .val (.int xy), .val (.int (2 : Int32)), .val (.ref a31), .val (.ref a32), .val (.ref a33), .unset] [(.int (1 : Int32))])
    refine o_ifEq X37 at_100 156 103 (by decide) (by decide) rfl (fun q => by exfalso; exact absurd q (by decide)) ?_
    intro hc100
    refine o_aload X37 at_103 rfl rfl 105 rfl ?_
    refine o_iconst (v := (3 : Int32)) X37 at_105 rfl 106 rfl ?_
    refine o_iloadN X37 at_106 rfl 107 rfl ?_
    refine o_iloadN X37 at_107 rfl 108 rfl ?_
    refine o_iloadN X37 at_108 rfl 109 rfl ?_
    refine o_callS X37 at_109 (rest := []) (c_at_2_3 l Z a0 hw [] n0 _ X37.size a33 xx xy ((a31, OA Z .boolean [(f_bit xx (0 : Int32)), (f_bit xx (1 : Int32))]) :: (a32, OA Z .boolean [(f_bit xy (0 : Int32)), (f_bit xy (1 : Int32))]) :: []) H33) (hw _ (List.mem_of_getElem? (i := 22) rfl)) (hw _ (List.mem_of_getElem? (i := 23) rfl)) (hw _ (List.mem_of_getElem? (i := 2) rfl)) (hw _ (List.mem_of_getElem? (i := 24) rfl)) (by decide) 0 (by decide) (by decide) rfl [(.ref a33), (.int (3 : Int32)), (.int (2 : Int32)), (.int xx), (.int xy)] rfl pd_3 rfl rfl (Nat.le_of_eq rfl) 3 6 rfl rfl (by decide) (by decide) 112 rfl ?_
    rintro _ T38 _ X38 ⟨rfl, rfl⟩
    show OE p e room_1 below s n0 Q' T38 (mkF m 112 #[.val (.int xl), .val (.int xx), .val (.int xy), .val (.int (2 : Int32)), .val (.ref a31), .val (.ref a32), .val (.ref a33), .unset] [(.int (1 : Int32))])
    refine o_ifEq X38 at_112 156 115 (by decide) (by decide) rfl (fun q => by exfalso; exact absurd q (by decide)) ?_
    intro hc112
    refine o_aload X38 at_115 rfl rfl 117 rfl ?_
    refine o_iconst (v := (4 : Int32)) X38 at_117 rfl 118 rfl ?_
    refine o_iloadN X38 at_118 rfl 119 rfl ?_
    refine o_iloadN X38 at_119 rfl 120 rfl ?_
    refine o_iloadN X38 at_120 rfl 121 rfl ?_
    refine o_callS X38 at_121 (rest := []) (c_at_2_4 l Z a0 hw [] n0 _ X38.size a33 xx xy ((a31, OA Z .boolean [(f_bit xx (0 : Int32)), (f_bit xx (1 : Int32))]) :: (a32, OA Z .boolean [(f_bit xy (0 : Int32)), (f_bit xy (1 : Int32))]) :: []) H33) (hw _ (List.mem_of_getElem? (i := 22) rfl)) (hw _ (List.mem_of_getElem? (i := 23) rfl)) (hw _ (List.mem_of_getElem? (i := 2) rfl)) (hw _ (List.mem_of_getElem? (i := 24) rfl)) (by decide) 0 (by decide) (by decide) rfl [(.ref a33), (.int (4 : Int32)), (.int (2 : Int32)), (.int xx), (.int xy)] rfl pd_3 rfl rfl (Nat.le_of_eq rfl) 3 6 rfl rfl (by decide) (by decide) 124 rfl ?_
    rintro _ T39 _ X39 ⟨rfl, rfl⟩
    show OE p e room_1 below s n0 Q' T39 (mkF m 124 #[.val (.int xl), .val (.int xx), .val (.int xy), .val (.int (2 : Int32)), .val (.ref a31), .val (.ref a32), .val (.ref a33), .unset] [(.int (1 : Int32))])
    refine o_ifEq X39 at_124 156 127 (by decide) (by decide) rfl (fun q => by exfalso; exact absurd q (by decide)) ?_
    intro hc124
    refine o_aload X39 at_127 rfl rfl 129 rfl ?_
    refine o_iconst (v := (5 : Int32)) X39 at_129 rfl 130 rfl ?_
    refine o_iloadN X39 at_130 rfl 131 rfl ?_
    refine o_iloadN X39 at_131 rfl 132 rfl ?_
    refine o_iloadN X39 at_132 rfl 133 rfl ?_
    refine o_callS X39 at_133 (rest := []) (c_at_2_5 l Z a0 hw [] n0 _ X39.size a33 xx xy ((a31, OA Z .boolean [(f_bit xx (0 : Int32)), (f_bit xx (1 : Int32))]) :: (a32, OA Z .boolean [(f_bit xy (0 : Int32)), (f_bit xy (1 : Int32))]) :: []) H33) (hw _ (List.mem_of_getElem? (i := 22) rfl)) (hw _ (List.mem_of_getElem? (i := 23) rfl)) (hw _ (List.mem_of_getElem? (i := 2) rfl)) (hw _ (List.mem_of_getElem? (i := 24) rfl)) (by decide) 0 (by decide) (by decide) rfl [(.ref a33), (.int (5 : Int32)), (.int (2 : Int32)), (.int xx), (.int xy)] rfl pd_3 rfl rfl (Nat.le_of_eq rfl) 3 6 rfl rfl (by decide) (by decide) 136 rfl ?_
    rintro _ T40 _ X40 ⟨rfl, rfl⟩
    show OE p e room_1 below s n0 Q' T40 (mkF m 136 #[.val (.int xl), .val (.int xx), .val (.int xy), .val (.int (2 : Int32)), .val (.ref a31), .val (.ref a32), .val (.ref a33), .unset] [(.int (1 : Int32))])
    refine o_ifEq X40 at_136 156 139 (by decide) (by decide) rfl (fun q => by exfalso; exact absurd q (by decide)) ?_
    intro hc136
    refine o_aload X40 at_139 rfl rfl 141 rfl ?_
    refine o_bipush (v := (6 : Int32)) X40 at_141 rfl 143 rfl ?_
    refine o_iloadN X40 at_143 rfl 144 rfl ?_
    refine o_iloadN X40 at_144 rfl 145 rfl ?_
    refine o_iloadN X40 at_145 rfl 146 rfl ?_
    refine o_callS X40 at_146 (rest := []) (c_at_2_6 l Z a0 hw [] n0 _ X40.size a33 xx xy ((a31, OA Z .boolean [(f_bit xx (0 : Int32)), (f_bit xx (1 : Int32))]) :: (a32, OA Z .boolean [(f_bit xy (0 : Int32)), (f_bit xy (1 : Int32))]) :: []) H33) (hw _ (List.mem_of_getElem? (i := 22) rfl)) (hw _ (List.mem_of_getElem? (i := 23) rfl)) (hw _ (List.mem_of_getElem? (i := 2) rfl)) (hw _ (List.mem_of_getElem? (i := 24) rfl)) (by decide) 0 (by decide) (by decide) rfl [(.ref a33), (.int (6 : Int32)), (.int (2 : Int32)), (.int xx), (.int xy)] rfl pd_3 rfl rfl (Nat.le_of_eq rfl) 3 6 rfl rfl (by decide) (by decide) 149 rfl ?_
    rintro _ T41 _ X41 ⟨rfl, rfl⟩
    show OE p e room_1 below s n0 Q' T41 (mkF m 149 #[.val (.int xl), .val (.int xx), .val (.int xy), .val (.int (2 : Int32)), .val (.ref a31), .val (.ref a32), .val (.ref a33), .unset] [(.int (1 : Int32))])
    refine o_ifEq X41 at_149 156 152 (by decide) (by decide) rfl (fun q => by exfalso; exact absurd q (by decide)) ?_
    intro hc149
    refine o_iconst (v := (1 : Int32)) X41 at_152 rfl 153 rfl ?_
    refine o_goto X41 at_153 157 (by decide) (by decide) ?_
    refine o_istore X41 at_157 #[.val (.int xl), .val (.int xx), .val (.int xy), .val (.int (2 : Int32)), .val (.ref a31), .val (.ref a32), .val (.ref a33), .val (.int (1 : Int32))] rfl 159 rfl ?_
    refine o_iload X41 at_159 rfl 161 rfl ?_
    refine o_ifEq X41 at_161 188 164 (by decide) (by decide) rfl (fun q => by exfalso; exact absurd q (by decide)) ?_
    intro hc161
    refine o_aload X41 at_164 rfl rfl 166 rfl ?_
    refine o_iloadN X41 at_166 rfl 167 rfl ?_
    refine o_iloadN X41 at_167 rfl 168 rfl ?_
    have H43 : OL n0 h33 ((a31, OA Z .boolean [(f_bit xx (0 : Int32)), (f_bit xx (1 : Int32))]) :: (a33, OA Z .boolean [(f_bit xx (0 : Int32)), (f_bit xy (1 : Int32))]) :: (a32, OA Z .boolean [(f_bit xy (0 : Int32)), (f_bit xy (1 : Int32))]) :: []) := H33.front 1 rfl
    refine o_callS X41 at_168 (rest := []) (c_all_2 l Z a0 hw [] n0 _ X41.size a31 xx ((a33, OA Z .boolean [(f_bit xx (0 : Int32)), (f_bit xy (1 : Int32))]) :: (a32, OA Z .boolean [(f_bit xy (0 : Int32)), (f_bit xy (1 : Int32))]) :: []) H43) (hw _ (List.mem_of_getElem? (i := 25) rfl)) (hw _ (List.mem_of_getElem? (i := 26) rfl)) (hw _ (List.mem_of_getElem? (i := 2) rfl)) (hw _ (List.mem_of_getElem? (i := 27) rfl)) (by decide) 0 (by decide) (by decide) rfl [(.ref a31), (.int (2 : Int32)), (.int xx)] rfl pd_4 rfl rfl (Nat.le_of_eq rfl) 3 6 rfl rfl (by decide) (by decide) 171 rfl ?_
    rintro _ T42 _ X42 ⟨rfl, rfl⟩
    show OE p e room_1 below s n0 Q' T42 (mkF m 171 #[.val (.int xl), .val (.int xx), .val (.int xy), .val (.int (2 : Int32)), .val (.ref a31), .val (.ref a32), .val (.ref a33), .val (.int (1 : Int32))] [(.int (1 : Int32))])
    refine o_ifEq X42 at_171 188 174 (by decide) (by decide) rfl (fun q => by exfalso; exact absurd q (by decide)) ?_
    intro hc171
    refine o_aload X42 at_174 rfl rfl 176 rfl ?_
    refine o_iloadN X42 at_176 rfl 177 rfl ?_
    refine o_iloadN X42 at_177 rfl 178 rfl ?_
    have H45 : OL n0 h33 ((a32, OA Z .boolean [(f_bit xy (0 : Int32)), (f_bit xy (1 : Int32))]) :: (a31, OA Z .boolean [(f_bit xx (0 : Int32)), (f_bit xx (1 : Int32))]) :: (a33, OA Z .boolean [(f_bit xx (0 : Int32)), (f_bit xy (1 : Int32))]) :: []) := H43.front 2 rfl
    refine o_callS X42 at_178 (rest := []) (c_all_2 l Z a0 hw [] n0 _ X42.size a32 xy ((a31, OA Z .boolean [(f_bit xx (0 : Int32)), (f_bit xx (1 : Int32))]) :: (a33, OA Z .boolean [(f_bit xx (0 : Int32)), (f_bit xy (1 : Int32))]) :: []) H45) (hw _ (List.mem_of_getElem? (i := 25) rfl)) (hw _ (List.mem_of_getElem? (i := 26) rfl)) (hw _ (List.mem_of_getElem? (i := 2) rfl)) (hw _ (List.mem_of_getElem? (i := 27) rfl)) (by decide) 0 (by decide) (by decide) rfl [(.ref a32), (.int (2 : Int32)), (.int xy)] rfl pd_4 rfl rfl (Nat.le_of_eq rfl) 3 6 rfl rfl (by decide) (by decide) 181 rfl ?_
    rintro _ T44 _ X44 ⟨rfl, rfl⟩
    show OE p e room_1 below s n0 Q' T44 (mkF m 181 #[.val (.int xl), .val (.int xx), .val (.int xy), .val (.int (2 : Int32)), .val (.ref a31), .val (.ref a32), .val (.ref a33), .val (.int (1 : Int32))] [(.int (1 : Int32))])
    refine o_ifEq X44 at_181 188 184 (by decide) (by decide) rfl (fun q => by exfalso; exact absurd q (by decide)) ?_
    intro hc181
    refine o_iconst (v := (1 : Int32)) X44 at_184 rfl 185 rfl ?_
    refine o_goto X44 at_185 189 (by decide) (by decide) ?_
    exact o_retZ X44 at_189 (by decide) (by decide) (hQ _ _ rfl)
  · rw [hv]
    refine o_iloadN X0 at_5 rfl 6 rfl ?_
    refine o_bipush (v := (7 : Int32)) X0 at_6 rfl 8 rfl ?_
    refine o_icmpNe X0 at_8 14 11 (by decide) (by decide) rfl ?_ (fun q => by exfalso; exact absurd q (by decide))
    intro hc8
    refine o_iloadN X0 at_14 rfl 15 rfl ?_
    refine o_iloadN X0 at_15 rfl 16 rfl ?_
    refine o_callS X0 at_16 (rest := []) (c_make_3 l Z a0 hw [] n0 _ X0.size xx [] OL.nil) (hw _ (List.mem_of_getElem? (i := 0) rfl)) (hw _ (List.mem_of_getElem? (i := 1) rfl)) (hw _ (List.mem_of_getElem? (i := 2) rfl)) (hw _ (List.mem_of_getElem? (i := 3) rfl)) (by decide) 0 (by decide) (by decide) rfl [(.int xx), (.int (3 : Int32))] rfl pd_1 rfl rfl (Nat.le_of_eq rfl) 1 3 rfl rfl (by decide) (by decide) 19 rfl ?_
    rintro _ T46 h46 X46 ⟨a46, rfl, H46⟩
    replace H46 : OL n0 h46 ((a46, OA Z .boolean [(f_bit xx (0 : Int32)), (f_bit xx (1 : Int32)), (f_bit xx (2 : Int32))]) :: []) := H46
    show OE p e room_1 below s n0 Q' T46 (mkF m 19 #[.val (.int xl), .val (.int xx), .val (.int xy), .val (.int (3 : Int32)), .unset, .unset, .unset, .unset] [(.ref a46)])
    refine o_astore X46 at_19 rfl #[.val (.int xl), .val (.int xx), .val (.int xy), .val (.int (3 : Int32)), .val (.ref a46), .unset, .unset, .unset] rfl 21 rfl ?_
    refine o_iloadN X46 at_21 rfl 22 rfl ?_
    refine o_iloadN X46 at_22 rfl 23 rfl ?_
    refine o_callS X46 at_23 (rest := []) (c_make_3 l Z a0 hw [] n0 _ X46.size xy ((a46, OA Z .boolean [(f_bit xx (0 : Int32)), (f_bit xx (1 : Int32)), (f_bit xx (2 : Int32))]) :: []) H46) (hw _ (List.mem_of_getElem? (i := 0) rfl)) (hw _ (List.mem_of_getElem? (i := 1) rfl)) (hw _ (List.mem_of_getElem? (i := 2) rfl)) (hw _ (List.mem_of_getElem? (i := 3) rfl)) (by decide) 0 (by decide) (by decide) rfl [(.int xy), (.int (3 : Int32))] rfl pd_1 rfl rfl (Nat.le_of_eq rfl) 2 6 rfl rfl (by decide) (by decide) 26 rfl ?_
    rintro _ T47 h47 X47 ⟨a47, rfl, H47⟩
    replace H47 : OL n0 h47 ((a47, OA Z .boolean [(f_bit xy (0 : Int32)), (f_bit xy (1 : Int32)), (f_bit xy (2 : Int32))]) :: (a46, OA Z .boolean [(f_bit xx (0 : Int32)), (f_bit xx (1 : Int32)), (f_bit xx (2 : Int32))]) :: []) := H47
    show OE p e room_1 below s n0 Q' T47 (mkF m 26 #[.val (.int xl), .val (.int xx), .val (.int xy), .val (.int (3 : Int32)), .val (.ref a46), .unset, .unset, .unset] [(.ref a47)])
    refine o_astore X47 at_26 rfl #[.val (.int xl), .val (.int xx), .val (.int xy), .val (.int (3 : Int32)), .val (.ref a46), .val (.ref a47), .unset, .unset] rfl 28 rfl ?_
    refine o_aload X47 at_28 rfl rfl 30 rfl ?_
    refine o_aload X47 at_30 rfl rfl 32 rfl ?_
    have H49 : OL n0 h47 ((a46, OA Z .boolean [(f_bit xx (0 : Int32)), (f_bit xx (1 : Int32)), (f_bit xx (2 : Int32))]) :: (a47, OA Z .boolean [(f_bit xy (0 : Int32)), (f_bit xy (1 : Int32)), (f_bit xy (2 : Int32))]) :: []) := H47.front 1 rfl
    refine o_callS X47 at_32 (rest := []) (c_halves_3 l Z a0 hw [] n0 _ X47.size a46 a47 xx xy [] H49) (hw _ (List.mem_of_getElem? (i := 5) rfl)) (hw _ (List.mem_of_getElem? (i := 6) rfl)) (hw _ (List.mem_of_getElem? (i := 7) rfl)) (hw _ (List.mem_of_getElem? (i := 8) rfl)) (by decide) 0 (by decide) (by decide) rfl [(.ref a46), (.ref a47)] rfl pd_2 rfl rfl (Nat.le_of_eq rfl) 3 9 rfl rfl (by decide) (by decide) 35 rfl ?_
    rintro _ T48 h48 X48 ⟨a48, rfl, H48⟩
    replace H48 : OL n0 h48 ((a48, OA Z .boolean [(f_bit xx (0 : Int32)), (f_bit xy (1 : Int32)), (f_bit xy (2 : Int32))]) :: (a46, OA Z .boolean [(f_bit xx (0 : Int32)), (f_bit xx (1 : Int32)), (f_bit xx (2 : Int32))]) :: (a47, OA Z .boolean [(f_bit xy (0 : Int32)), (f_bit xy (1 : Int32)), (f_bit xy (2 : Int32))]) :: []) := H48
    show OE p e room_1 below s n0 Q' T48 (mkF m 35 #[.val (.int xl), .val (.int xx), .val (.int xy), .val (.int (3 : Int32)), .val (.ref a46), .val (.ref a47), .unset, .unset] [(.ref a48)])
    refine o_astore X48 at_35 rfl #[.val (.int xl), .val (.int xx), .val (.int xy), .val (.int (3 : Int32)), .val (.ref a46), .val (.ref a47), .val (.ref a48), .unset] rfl 37 rfl ?_
    refine o_aload X48 at_37 rfl rfl 39 rfl ?_
    refine o_ifnullR X48 at_39 42 rfl ?_
    refine o_aload X48 at_42 rfl rfl 44 rfl ?_
    refine o_aload X48 at_44 rfl rfl 46 rfl ?_
    refine o_acmpEqN X48 at_46 (H48.ne (i := 0) (j := 1) rfl rfl (by decide)) 49 rfl ?_
    refine o_aload X48 at_49 rfl rfl 51 rfl ?_
    refine o_aload X48 at_51 rfl rfl 53 rfl ?_
    refine o_acmpNeY X48 at_53 (H48.ne (i := 0) (j := 2) rfl rfl (by decide)) 58 (by decide) (by decide) ?_
    refine o_aload X48 at_58 rfl rfl 60 rfl ?_
    refine o_arraylength X48 H48 0 rfl at_60 (3 : Int32) rfl 61 rfl ?_
    refine o_iloadN X48 at_61 rfl 62 rfl ?_
    refine o_icmpEq X48 at_62 67 65 (by decide) (by decide) rfl ?_ (fun q => by exfalso; exact absurd q (by decide))
    intro hc62
    refine o_aload X48 at_67 rfl rfl 69 rfl ?_
    refine o_iconst (v := (0 : Int32)) X48 at_69 rfl 70 rfl ?_
    refine o_iloadN X48 at_70 rfl 71 rfl ?_
    refine o_iloadN X48 at_71 rfl 72 rfl ?_
    refine o_iloadN X48 at_72 rfl 73 rfl ?_
    refine o_callS X48 at_73 (rest := []) (c_at_3_0 l Z a0 hw [] n0 _ X48.size a48 xx xy ((a46, OA Z .boolean [(f_bit xx (0 : Int32)), (f_bit xx (1 : Int32)), (f_bit xx (2 : Int32))]) :: (a47, OA Z .boolean [(f_bit xy (0 : Int32)), (f_bit xy (1 : Int32)), (f_bit xy (2 : Int32))]) :: []) H48) (hw _ (List.mem_of_getElem? (i := 22) rfl)) (hw _ (List.mem_of_getElem? (i := 23) rfl)) (hw _ (List.mem_of_getElem? (i := 2) rfl)) (hw _ (List.mem_of_getElem? (i := 24) rfl)) (by decide) 0 (by decide) (by decide) rfl [(.ref a48), (.int (0 : Int32)), (.int (3 : Int32)), (.int xx), (.int xy)] rfl pd_3 rfl rfl (Nat.le_of_eq rfl) 3 9 rfl rfl (by decide) (by decide) 76 rfl ?_
    rintro _ T50 _ X50 ⟨rfl, rfl⟩
    show OE p e room_1 below s n0 Q' T50 (mkF m 76 #[.val (.int xl), .val (.int xx), .val (.int xy), .val (.int (3 : Int32)), .val (.ref a46), .val (.ref a47), .val (.ref a48), .unset] [(.int (1 : Int32))])
    refine o_ifEq X50 at_76 156 79 (by decide) (by decide) rfl (fun q => by exfalso; exact absurd q (by decide)) ?_
    intro hc76
    refine o_aload X50 at_79 rfl rfl 81 rfl ?_
    refine o_iconst (v := (1 : Int32)) X50 at_81 rfl 82 rfl ?_
    refine o_iloadN X50 at_82 rfl 83 rfl ?_
    refine o_iloadN X50 at_83 rfl 84 rfl ?_
    refine o_iloadN X50 at_84 rfl 85 rfl ?_
    refine o_callS X50 at_85 (rest := []) (c_at_3_1 l Z a0 hw [] n0 _ X50.size a48 xx xy ((a46, OA Z .boolean [(f_bit xx (0 : Int32)), (f_bit xx (1 : Int32)), (f_bit xx (2 : Int32))]) :: (a47, OA Z .boolean [(f_bit xy (0 : Int32)), (f_bit xy (1 : Int32)), (f_bit xy (2 : Int32))]) :: []) H48) (hw _ (List.mem_of_getElem? (i := 22) rfl)) (hw _ (List.mem_of_getElem? (i := 23) rfl)) (hw _ (List.mem_of_getElem? (i := 2) rfl)) (hw _ (List.mem_of_getElem? (i := 24) rfl)) (by decide) 0 (by decide) (by decide) rfl [(.ref a48), (.int (1 : Int32)), (.int (3 : Int32)), (.int xx), (.int xy)] rfl pd_3 rfl rfl (Nat.le_of_eq rfl) 3 9 rfl rfl (by decide) (by decide) 88 rfl ?_
    rintro _ T51 _ X51 ⟨rfl, rfl⟩
    show OE p e room_1 below s n0 Q' T51 (mkF m 88 #[.val (.int xl), .val (.int xx), .val (.int xy), .val (.int (3 : Int32)), .val (.ref a46), .val (.ref a47), .val (.ref a48), .unset] [(.int (1 : Int32))])
    refine o_ifEq X51 at_88 156 91 (by decide) (by decide) rfl (fun q => by exfalso; exact absurd q (by decide)) ?_
    intro hc88
    refine o_aload X51 at_91 rfl rfl 93 rfl ?_
    refine o_iconst (v := (2 : Int32)) X51 at_93 rfl 94 rfl ?_
    refine o_iloadN X51 at_94 rfl 95 rfl ?_
    refine o_iloadN X51 at_95 rfl 96 rfl ?_
    refine o_iloadN X51 at_96 rfl 97 rfl ?_
    refine o_callS X51 at_97 (rest := []) (c_at_3_2 l Z a0 hw [] n0 _ X51.size a48 xx xy ((a46, OA Z .boolean [(f_bit xx (0 : Int32)), (f_bit xx (1 : Int32)), (f_bit xx (2 : Int32))]) :: (a47, OA Z .boolean [(f_bit xy (0 : Int32)), (f_bit xy (1 : Int32)), (f_bit xy (2 : Int32))]) :: []) H48) (hw _ (List.mem_of_getElem? (i := 22) rfl)) (hw _ (List.mem_of_getElem? (i := 23) rfl)) (hw _ (List.mem_of_getElem? (i := 2) rfl)) (hw _ (List.mem_of_getElem? (i := 24) rfl)) (by decide) 0 (by decide) (by decide) rfl [(.ref a48), (.int (2 : Int32)), (.int (3 : Int32)), (.int xx), (.int xy)] rfl pd_3 rfl rfl (Nat.le_of_eq rfl) 3 9 rfl rfl (by decide) (by decide) 100 rfl ?_
    rintro _ T52 _ X52 ⟨rfl, rfl⟩
    show OE p e room_1 below s n0 Q' T52 (mkF m 100 #[.val (.int xl), .val (.int xx), .val (.int xy), .val (.int (3 : Int32)), .val (.ref a46), .val (.ref a47), .val (.ref a48), .unset] [(.int (1 : Int32))])
    refine o_ifEq X52 at_100 156 103 (by decide) (by decide) rfl (fun q => by exfalso; exact absurd q (by decide)) ?_
    intro hc100
    refine o_aload X52 at_103 rfl rfl 105 rfl ?_
    refine o_iconst (v := (3 : Int32)) X52 at_105 rfl 106 rfl ?_
    refine o_iloadN X52 at_106 rfl 107 rfl ?_
    refine o_iloadN X52 at_107 rfl 108 rfl ?_
    refine o_iloadN X52 at_108 rfl 109 rfl ?_
    refine o_callS X52 at_109 (rest := []) (c_at_3_3 l Z a0 hw [] n0 _ X52.size a48 xx xy ((a46, OA Z .boolean [(f_bit xx (0 : Int32)), (f_bit xx (1 : Int32)), (f_bit xx (2 : Int32))]) :: (a47, OA Z .boolean [(f_bit xy (0 : Int32)), (f_bit xy (1 : Int32)), (f_bit xy (2 : Int32))]) :: []) H48) (hw _ (List.mem_of_getElem? (i := 22) rfl)) (hw _ (List.mem_of_getElem? (i := 23) rfl)) (hw _ (List.mem_of_getElem? (i := 2) rfl)) (hw _ (List.mem_of_getElem? (i := 24) rfl)) (by decide) 0 (by decide) (by decide) rfl [(.ref a48), (.int (3 : Int32)), (.int (3 : Int32)), (.int xx), (.int xy)] rfl pd_3 rfl rfl (Nat.le_of_eq rfl) 3 9 rfl rfl (by decide) (by decide) 112 rfl ?_
    rintro _ T53 _ X53 ⟨rfl, rfl⟩
    show OE p e room_1 below s n0 Q' T53 (mkF m 112 #[.val (.int xl), .val (.int xx), .val (.int xy), .val (.int (3 : Int32)), .val (.ref a46), .val (.ref a47), .val (.ref a48), .unset] [(.int (1 : Int32))])
    refine o_ifEq X53 at_112 156 115 (by decide) (by decide) rfl (fun q => by exfalso; exact absurd q (by decide)) ?_
    intro hc112
    refine o_aload X53 at_115 rfl rfl 117 rfl ?_
    refine o_iconst (v := (4 : Int32)) X53 at_117 rfl 118 rfl ?_
    refine o_iloadN X53 at_118 rfl 119 rfl ?_
    refine o_iloadN X53 at_119 rfl 120 rfl ?_
    refine o_iloadN X53 at_120 rfl 121 rfl ?_
    refine o_callS X53 at_121 (rest := []) (c_at_3_4 l Z a0 hw [] n0 _ X53.size a48 xx xy ((a46, OA Z .boolean [(f_bit xx (0 : Int32)), (f_bit xx (1 : Int32)), (f_bit xx (2 : Int32))]) :: (a47, OA Z .boolean [(f_bit xy (0 : Int32)), (f_bit xy (1 : Int32)), (f_bit xy (2 : Int32))]) :: []) H48) (hw _ (List.mem_of_getElem? (i := 22) rfl)) (hw _ (List.mem_of_getElem? (i := 23) rfl)) (hw _ (List.mem_of_getElem? (i := 2) rfl)) (hw _ (List.mem_of_getElem? (i := 24) rfl)) (by decide) 0 (by decide) (by decide) rfl [(.ref a48), (.int (4 : Int32)), (.int (3 : Int32)), (.int xx), (.int xy)] rfl pd_3 rfl rfl (Nat.le_of_eq rfl) 3 9 rfl rfl (by decide) (by decide) 124 rfl ?_
    rintro _ T54 _ X54 ⟨rfl, rfl⟩
    show OE p e room_1 below s n0 Q' T54 (mkF m 124 #[.val (.int xl), .val (.int xx), .val (.int xy), .val (.int (3 : Int32)), .val (.ref a46), .val (.ref a47), .val (.ref a48), .unset] [(.int (1 : Int32))])
    refine o_ifEq X54 at_124 156 127 (by decide) (by decide) rfl (fun q => by exfalso; exact absurd q (by decide)) ?_
    intro hc124
    refine o_aload X54 at_127 rfl rfl 129 rfl ?_
    refine o_iconst (v := (5 : Int32)) X54 at_129 rfl 130 rfl ?_
    refine o_iloadN X54 at_130 rfl 131 rfl ?_
    refine o_iloadN X54 at_131 rfl 132 rfl ?_
    refine o_iloadN X54 at_132 rfl 133 rfl ?_
    refine o_callS X54 at_133 (rest := []) (c_at_3_5 l Z a0 hw [] n0 _ X54.size a48 xx xy ((a46, OA Z .boolean [(f_bit xx (0 : Int32)), (f_bit xx (1 : Int32)), (f_bit xx (2 : Int32))]) :: (a47, OA Z .boolean [(f_bit xy (0 : Int32)), (f_bit xy (1 : Int32)), (f_bit xy (2 : Int32))]) :: []) H48) (hw _ (List.mem_of_getElem? (i := 22) rfl)) (hw _ (List.mem_of_getElem? (i := 23) rfl)) (hw _ (List.mem_of_getElem? (i := 2) rfl)) (hw _ (List.mem_of_getElem? (i := 24) rfl)) (by decide) 0 (by decide) (by decide) rfl [(.ref a48), (.int (5 : Int32)), (.int (3 : Int32)), (.int xx), (.int xy)] rfl pd_3 rfl rfl (Nat.le_of_eq rfl) 3 9 rfl rfl (by decide) (by decide) 136 rfl ?_
    rintro _ T55 _ X55 ⟨rfl, rfl⟩
    show OE p e room_1 below s n0 Q' T55 (mkF m 136 #[.val (.int xl), .val (.int xx), .val (.int xy), .val (.int (3 : Int32)), .val (.ref a46), .val (.ref a47), .val (.ref a48), .unset] [(.int (1 : Int32))])
    refine o_ifEq X55 at_136 156 139 (by decide) (by decide) rfl (fun q => by exfalso; exact absurd q (by decide)) ?_
    intro hc136
    refine o_aload X55 at_139 rfl rfl 141 rfl ?_
    refine o_bipush (v := (6 : Int32)) X55 at_141 rfl 143 rfl ?_
    refine o_iloadN X55 at_143 rfl 144 rfl ?_
    refine o_iloadN X55 at_144 rfl 145 rfl ?_
    refine o_iloadN X55 at_145 rfl 146 rfl ?_
    refine o_callS X55 at_146 (rest := []) (c_at_3_6 l Z a0 hw [] n0 _ X55.size a48 xx xy ((a46, OA Z .boolean [(f_bit xx (0 : Int32)), (f_bit xx (1 : Int32)), (f_bit xx (2 : Int32))]) :: (a47, OA Z .boolean [(f_bit xy (0 : Int32)), (f_bit xy (1 : Int32)), (f_bit xy (2 : Int32))]) :: []) H48) (hw _ (List.mem_of_getElem? (i := 22) rfl)) (hw _ (List.mem_of_getElem? (i := 23) rfl)) (hw _ (List.mem_of_getElem? (i := 2) rfl)) (hw _ (List.mem_of_getElem? (i := 24) rfl)) (by decide) 0 (by decide) (by decide) rfl [(.ref a48), (.int (6 : Int32)), (.int (3 : Int32)), (.int xx), (.int xy)] rfl pd_3 rfl rfl (Nat.le_of_eq rfl) 3 9 rfl rfl (by decide) (by decide) 149 rfl ?_
    rintro _ T56 _ X56 ⟨rfl, rfl⟩
    show OE p e room_1 below s n0 Q' T56 (mkF m 149 #[.val (.int xl), .val (.int xx), .val (.int xy), .val (.int (3 : Int32)), .val (.ref a46), .val (.ref a47), .val (.ref a48), .unset] [(.int (1 : Int32))])
    refine o_ifEq X56 at_149 156 152 (by decide) (by decide) rfl (fun q => by exfalso; exact absurd q (by decide)) ?_
    intro hc149
    refine o_iconst (v := (1 : Int32)) X56 at_152 rfl 153 rfl ?_
    refine o_goto X56 at_153 157 (by decide) (by decide) ?_
    refine o_istore X56 at_157 #[.val (.int xl), .val (.int xx), .val (.int xy), .val (.int (3 : Int32)), .val (.ref a46), .val (.ref a47), .val (.ref a48), .val (.int (1 : Int32))] rfl 159 rfl ?_
    refine o_iload X56 at_159 rfl 161 rfl ?_
    refine o_ifEq X56 at_161 188 164 (by decide) (by decide) rfl (fun q => by exfalso; exact absurd q (by decide)) ?_
    intro hc161
    refine o_aload X56 at_164 rfl rfl 166 rfl ?_
    refine o_iloadN X56 at_166 rfl 167 rfl ?_
    refine o_iloadN X56 at_167 rfl 168 rfl ?_
    have H58 : OL n0 h48 ((a46, OA Z .boolean [(f_bit xx (0 : Int32)), (f_bit xx (1 : Int32)), (f_bit xx (2 : Int32))]) :: (a48, OA Z .boolean [(f_bit xx (0 : Int32)), (f_bit xy (1 : Int32)), (f_bit xy (2 : Int32))]) :: (a47, OA Z .boolean [(f_bit xy (0 : Int32)), (f_bit xy (1 : Int32)), (f_bit xy (2 : Int32))]) :: []) := H48.front 1 rfl
    refine o_callS X56 at_168 (rest := []) (c_all_3 l Z a0 hw [] n0 _ X56.size a46 xx ((a48, OA Z .boolean [(f_bit xx (0 : Int32)), (f_bit xy (1 : Int32)), (f_bit xy (2 : Int32))]) :: (a47, OA Z .boolean [(f_bit xy (0 : Int32)), (f_bit xy (1 : Int32)), (f_bit xy (2 : Int32))]) :: []) H58) (hw _ (List.mem_of_getElem? (i := 25) rfl)) (hw _ (List.mem_of_getElem? (i := 26) rfl)) (hw _ (List.mem_of_getElem? (i := 2) rfl)) (hw _ (List.mem_of_getElem? (i := 27) rfl)) (by decide) 0 (by decide) (by decide) rfl [(.ref a46), (.int (3 : Int32)), (.int xx)] rfl pd_4 rfl rfl (Nat.le_of_eq rfl) 3 9 rfl rfl (by decide) (by decide) 171 rfl ?_
    rintro _ T57 _ X57 ⟨rfl, rfl⟩
    show OE p e room_1 below s n0 Q' T57 (mkF m 171 #[.val (.int xl), .val (.int xx), .val (.int xy), .val (.int (3 : Int32)), .val (.ref a46), .val (.ref a47), .val (.ref a48), .val (.int (1 : Int32))] [(.int (1 : Int32))])
    refine o_ifEq X57 at_171 188 174 (by decide) (by decide) rfl (fun q => by exfalso; exact absurd q (by decide)) ?_
    intro hc171
    refine o_aload X57 at_174 rfl rfl 176 rfl ?_
    refine o_iloadN X57 at_176 rfl 177 rfl ?_
    refine o_iloadN X57 at_177 rfl 178 rfl ?_
    have H60 : OL n0 h48 ((a47, OA Z .boolean [(f_bit xy (0 : Int32)), (f_bit xy (1 : Int32)), (f_bit xy (2 : Int32))]) :: (a46, OA Z .boolean [(f_bit xx (0 : Int32)), (f_bit xx (1 : Int32)), (f_bit xx (2 : Int32))]) :: (a48, OA Z .boolean [(f_bit xx (0 : Int32)), (f_bit xy (1 : Int32)), (f_bit xy (2 : Int32))]) :: []) := H58.front 2 rfl
    refine o_callS X57 at_178 (rest := []) (c_all_3 l Z a0 hw [] n0 _ X57.size a47 xy ((a46, OA Z .boolean [(f_bit xx (0 : Int32)), (f_bit xx (1 : Int32)), (f_bit xx (2 : Int32))]) :: (a48, OA Z .boolean [(f_bit xx (0 : Int32)), (f_bit xy (1 : Int32)), (f_bit xy (2 : Int32))]) :: []) H60) (hw _ (List.mem_of_getElem? (i := 25) rfl)) (hw _ (List.mem_of_getElem? (i := 26) rfl)) (hw _ (List.mem_of_getElem? (i := 2) rfl)) (hw _ (List.mem_of_getElem? (i := 27) rfl)) (by decide) 0 (by decide) (by decide) rfl [(.ref a47), (.int (3 : Int32)), (.int xy)] rfl pd_4 rfl rfl (Nat.le_of_eq rfl) 3 9 rfl rfl (by decide) (by decide) 181 rfl ?_
    rintro _ T59 _ X59 ⟨rfl, rfl⟩
    show OE p e room_1 below s n0 Q' T59 (mkF m 181 #[.val (.int xl), .val (.int xx), .val (.int xy), .val (.int (3 : Int32)), .val (.ref a46), .val (.ref a47), .val (.ref a48), .val (.int (1 : Int32))] [(.int (1 : Int32))])
    refine o_ifEq X59 at_181 188 184 (by decide) (by decide) rfl (fun q => by exfalso; exact absurd q (by decide)) ?_
    intro hc181
    refine o_iconst (v := (1 : Int32)) X59 at_184 rfl 185 rfl ?_
    refine o_goto X59 at_185 189 (by decide) (by decide) ?_
    exact o_retZ X59 at_189 (by decide) (by decide) (hQ _ _ rfl)
  · rw [hv]
    refine o_iloadN X0 at_5 rfl 6 rfl ?_
    refine o_bipush (v := (7 : Int32)) X0 at_6 rfl 8 rfl ?_
    refine o_icmpNe X0 at_8 14 11 (by decide) (by decide) rfl ?_ (fun q => by exfalso; exact absurd q (by decide))
    intro hc8
    refine o_iloadN X0 at_14 rfl 15 rfl ?_
    refine o_iloadN X0 at_15 rfl 16 rfl ?_
    refine o_callS X0 at_16 (rest := []) (c_make_4 l Z a0 hw [] n0 _ X0.size xx [] OL.nil) (hw _ (List.mem_of_getElem? (i := 0) rfl)) (hw _ (List.mem_of_getElem? (i := 1) rfl)) (hw _ (List.mem_of_getElem? (i := 2) rfl)) (hw _ (List.mem_of_getElem? (i := 3) rfl)) (by decide) 0 (by decide) (by decide) rfl [(.int xx), (.int (4 : Int32))] rfl pd_1 rfl rfl (Nat.le_of_eq rfl) 1 4 rfl rfl (by decide) (by decide) 19 rfl ?_
    rintro _ T61 h61 X61 ⟨a61, rfl, H61⟩
    replace H61 : OL n0 h61 ((a61, OA Z .boolean [(f_bit xx (0 : Int32)), (f_bit xx (1 : Int32)), (f_bit xx (2 : Int32)), (f_bit xx (3 : Int32))]) :: []) := H61
    show OE p e room_1 below s n0 Q' T61 (mkF m 19 #[.val (.int xl), .val (.int xx), .val (.int xy), .val (.int (4 : Int32)), .unset, .unset, .unset, .unset] [(.ref a61)])
    refine o_astore X61 at_19 rfl #[.val (.int xl), .val (.int xx), .val (.int xy), .val (.int (4 : Int32)), .val (.ref a61), .unset, .unset, .unset] rfl 21 rfl ?_
    refine o_iloadN X61 at_21 rfl 22 rfl ?_
    refine o_iloadN X61 at_22 rfl 23 rfl ?_
    refine o_callS X61 at_23 (rest := []) (c_make_4 l Z a0 hw [] n0 _ X61.size xy ((a61, OA Z .boolean [(f_bit xx (0 : Int32)), (f_bit xx (1 : Int32)), (f_bit xx (2 : Int32)), (f_bit xx (3 : Int32))]) :: []) H61) (hw _ (List.mem_of_getElem? (i := 0) rfl)) (hw _ (List.mem_of_getElem? (i := 1) rfl)) (hw _ (List.mem_of_getElem? (i := 2) rfl)) (hw _ (List.mem_of_getElem? (i := 3) rfl)) (by decide) 0 (by decide) (by decide) rfl [(.int xy), (.int (4 : Int32))] rfl pd_1 rfl rfl (Nat.le_of_eq rfl) 2 8 rfl rfl (by decide) (by decide) 26 rfl ?_
    rintro _ T62 h62 X62 ⟨a62, rfl, H62⟩
    replace H62 : OL n0 h62 ((a62, OA Z .boolean [(f_bit xy (0 : Int32)), (f_bit xy (1 : Int32)), (f_bit xy (2 : Int32)), (f_bit xy (3 : Int32))]) :: (a61, OA Z .boolean [(f_bit xx (0 : Int32)), (f_bit xx (1 : Int32)), (f_bit xx (2 : Int32)), (f_bit xx (3 : Int32))]) :: []) := H62
    show OE p e room_1 below s n0 Q' T62 (mkF m 26 #[.val (.int xl), .val (.int xx), .val (.int xy), .val (.int (4 : Int32)), .val (.ref a61), .unset, .unset, .unset] [(.ref a62)])
    refine o_astore X62 at_26 rfl #[.val (.int xl), .val (.int xx), .val (.int xy), .val (.int (4 : Int32)), .val (.ref a61), .val (.ref a62), .unset, .unset] rfl 28 rfl ?_
    refine o_aload X62 at_28 rfl rfl 30 rfl ?_
    refine o_aload X62 at_30 rfl rfl 32 rfl ?_
    have H64 : OL n0 h62 ((a61, OA Z .boolean [(f_bit xx (0 : Int32)), (f_bit xx (1 : Int32)), (f_bit xx (2 : Int32)), (f_bit xx (3 : Int32))]) :: (a62, OA Z .boolean [(f_bit xy (0 : Int32)), (f_bit xy (1 : Int32)), (f_bit xy (2 : Int32)), (f_bit xy (3 : Int32))]) :: []) := H62.front 1 rfl
    refine o_callS X62 at_32 (rest := []) (c_halves_4 l Z a0 hw [] n0 _ X62.size a61 a62 xx xy [] H64) (hw _ (List.mem_of_getElem? (i := 5) rfl)) (hw _ (List.mem_of_getElem? (i := 6) rfl)) (hw _ (List.mem_of_getElem? (i := 7) rfl)) (hw _ (List.mem_of_getElem? (i := 8) rfl)) (by decide) 0 (by decide) (by decide) rfl [(.ref a61), (.ref a62)] rfl pd_2 rfl rfl (Nat.le_of_eq rfl) 3 12 rfl rfl (by decide) (by decide) 35 rfl ?_
    rintro _ T63 h63 X63 ⟨a63, rfl, H63⟩
    replace H63 : OL n0 h63 ((a63, OA Z .boolean [(f_bit xx (0 : Int32)), (f_bit xx (1 : Int32)), (f_bit xy (2 : Int32)), (f_bit xy (3 : Int32))]) :: (a61, OA Z .boolean [(f_bit xx (0 : Int32)), (f_bit xx (1 : Int32)), (f_bit xx (2 : Int32)), (f_bit xx (3 : Int32))]) :: (a62, OA Z .boolean [(f_bit xy (0 : Int32)), (f_bit xy (1 : Int32)), (f_bit xy (2 : Int32)), (f_bit xy (3 : Int32))]) :: []) := H63
    show OE p e room_1 below s n0 Q' T63 (mkF m 35 #[.val (.int xl), .val (.int xx), .val (.int xy), .val (.int (4 : Int32)), .val (.ref a61), .val (.ref a62), .unset, .unset] [(.ref a63)])
    refine o_astore X63 at_35 rfl #[.val (.int xl), .val (.int xx), .val (.int xy), .val (.int (4 : Int32)), .val (.ref a61), .val (.ref a62), .val (.ref a63), .unset] rfl 37 rfl ?_
    refine o_aload X63 at_37 rfl rfl 39 rfl ?_
    refine o_ifnullR X63 at_39 42 rfl ?_
    refine o_aload X63 at_42 rfl rfl 44 rfl ?_
    refine o_aload X63 at_44 rfl rfl 46 rfl ?_
    refine o_acmpEqN X63 at_46 (H63.ne (i := 0) (j := 1) rfl rfl (by decide)) 49 rfl ?_
    refine o_aload X63 at_49 rfl rfl 51 rfl ?_
    refine o_aload X63 at_51 rfl rfl 53 rfl ?_
    refine o_acmpNeY X63 at_53 (H63.ne (i := 0) (j := 2) rfl rfl (by decide)) 58 (by decide) (by decide) ?_
    refine o_aload X63 at_58 rfl rfl 60 rfl ?_
    refine o_arraylength X63 H63 0 rfl at_60 (4 : Int32) rfl 61 rfl ?_
    refine o_iloadN X63 at_61 rfl 62 rfl ?_
    refine o_icmpEq X63 at_62 67 65 (by decide) (by decide) rfl ?_ (fun q => by exfalso; exact absurd q (by decide))
    intro hc62
    refine o_aload X63 at_67 rfl rfl 69 rfl ?_
    refine o_iconst (v := (0 : Int32)) X63 at_69 rfl 70 rfl ?_
    refine o_iloadN X63 at_70 rfl 71 rfl ?_
    refine o_iloadN X63 at_71 rfl 72 rfl ?_
    refine o_iloadN X63 at_72 rfl 73 rfl ?_
    refine o_callS X63 at_73 (rest := []) (c_at_4_0 l Z a0 hw [] n0 _ X63.size a63 xx xy ((a61, OA Z .boolean [(f_bit xx (0 : Int32)), (f_bit xx (1 : Int32)), (f_bit xx (2 : Int32)), (f_bit xx (3 : Int32))]) :: (a62, OA Z .boolean [(f_bit xy (0 : Int32)), (f_bit xy (1 : Int32)), (f_bit xy (2 : Int32)), (f_bit xy (3 : Int32))]) :: []) H63) (hw _ (List.mem_of_getElem? (i := 22) rfl)) (hw _ (List.mem_of_getElem? (i := 23) rfl)) (hw _ (List.mem_of_getElem? (i := 2) rfl)) (hw _ (List.mem_of_getElem? (i := 24) rfl)) (by decide) 0 (by decide) (by decide) rfl [(.ref a63), (.int (0 : Int32)), (.int (4 : Int32)), (.int xx), (.int xy)] rfl pd_3 rfl rfl (Nat.le_of_eq rfl) 3 12 rfl rfl (by decide) (by decide) 76 rfl ?_
    rintro _ T65 _ X65 ⟨rfl, rfl⟩
    show OE p e room_1 below s n0 Q' T65 (mkF m 76 #[.val (.int xl), .val (.int xx), .val (.int xy), .val (.int (4 : Int32)), .val (.ref a61), .val (.ref a62), .val (.ref a63), .unset] [(.int (1 : Int32))])
    refine o_ifEq X65 at_76 156 79 (by decide) (by decide) rfl (fun q => by exfalso; exact absurd q (by decide)) ?_
    intro hc76
    refine o_aload X65 at_79 rfl rfl 81 rfl ?_
    refine o_iconst (v := (1 : Int32)) X65 at_81 rfl 82 rfl ?_
    refine o_iloadN X65 at_82 rfl 83 rfl ?_
    refine o_iloadN X65 at_83 rfl 84 rfl ?_
    refine o_iloadN X65 at_84 rfl 85 rfl ?_
    refine o_callS X65 at_85 (rest := []) (c_at_4_1 l Z a0 hw [] n0 _ X65.size a63 xx xy ((a61, OA Z .boolean [(f_bit xx (0 : Int32)), (f_bit xx (1 : Int32)), (f_bit xx (2 : Int32)), (f_bit xx (3 : Int32))]) :: (a62, OA Z .boolean [(f_bit xy (0 : Int32)), (f_bit xy (1 : Int32)), (f_bit xy (2 : Int32)), (f_bit xy (3 : Int32))]) :: []) H63) (hw _ (List.mem_of_getElem? (i := 22) rfl)) (hw _ (List.mem_of_getElem? (i := 23) rfl)) (hw _ (List.mem_of_getElem? (i := 2) rfl)) (hw _ (List.mem_of_getElem? (i := 24) rfl)) (by decide) 0 (by decide) (by decide) rfl [(.ref a63), (.int (1 : Int32)), (.int (4 : Int32)), (.int xx), (.int xy)] rfl pd_3 rfl rfl (Nat.le_of_eq rfl) 3 12 rfl rfl (by decide) (by decide) 88 rfl ?_
    rintro _ T66 _ X66 ⟨rfl, rfl⟩
    show OE p e room_1 below s n0 Q' T66 (mkF m 88 #[.val (.int xl), .val (.int xx), .val (.int xy), .val (.int (4 : Int32)), .val (.ref a61), .val (.ref a62), .val (.ref a63), .unset] [(.int (1 : Int32))])
    refine o_ifEq X66 at_88 156 91 (by decide) (by decide) rfl (fun q => by exfalso; exact absurd q (by decide)) ?_
    intro hc88
    refine o_aload X66 at_91 rfl rfl 93 rfl ?_
    refine o_iconst (v := (2 : Int32)) X66 at_93 rfl 94 rfl ?_
    refine o_iloadN X66 at_94 rfl 95 rfl ?_
    refine o_iloadN X66 at_95 rfl 96 rfl ?_
    refine o_iloadN X66 at_96 rfl 97 rfl ?_
    refine o_callS X66 at_97 (rest := []) (c_at_4_2 l Z a0 hw [] n0 _ X66.size a63 xx xy ((a61, OA Z .boolean [(f_bit xx (0 : Int32)), (f_bit xx (1 : Int32)), (f_bit xx (2 : Int32)), (f_bit xx (3 : Int32))]) :: (a62, OA Z .boolean [(f_bit xy (0 : Int32)), (f_bit xy (1 : Int32)), (f_bit xy (2 : Int32)), (f_bit xy (3 : Int32))]) :: []) H63) (hw _ (List.mem_of_getElem? (i := 22) rfl)) (hw _ (List.mem_of_getElem? (i := 23) rfl)) (hw _ (List.mem_of_getElem? (i := 2) rfl)) (hw _ (List.mem_of_getElem? (i := 24) rfl)) (by decide) 0 (by decide) (by decide) rfl [(.ref a63), (.int (2 : Int32)), (.int (4 : Int32)), (.int xx), (.int xy)] rfl pd_3 rfl rfl (Nat.le_of_eq rfl) 3 12 rfl rfl (by decide) (by decide) 100 rfl ?_
    rintro _ T67 _ X67 ⟨rfl, rfl⟩
    show OE p e room_1 below s n0 Q' T67 (mkF m 100 #[.val (.int xl), .val (.int xx), .val (.int xy), .val (.int (4 : Int32)), .val (.ref a61), .val (.ref a62), .val (.ref a63), .unset] [(.int (1 : Int32))])
    refine o_ifEq X67 at_100 156 103 (by decide) (by decide) rfl (fun q => by exfalso; exact absurd q (by decide)) ?_
    intro hc100
    refine o_aload X67 at_103 rfl rfl 105 rfl ?_
    refine o_iconst (v := (3 : Int32)) X67 at_105 rfl 106 rfl ?_
    refine o_iloadN X67 at_106 rfl 107 rfl ?_
    refine o_iloadN X67 at_107 rfl 108 rfl ?_
    refine o_iloadN X67 at_108 rfl 109 rfl ?_
    refine o_callS X67 at_109 (rest := []) (c_at_4_3 l Z a0 hw [] n0 _ X67.size a63 xx xy ((a61, OA Z .boolean [(f_bit xx (0 : Int32)), (f_bit xx (1 : Int32)), (f_bit xx (2 : Int32)), (f_bit xx (3 : Int32))]) :: (a62, OA Z .boolean [(f_bit xy (0 : Int32)), (f_bit xy (1 : Int32)), (f_bit xy (2 : Int32)), (f_bit xy (3 : Int32))]) :: []) H63) (hw _ (List.mem_of_getElem? (i := 22) rfl)) (hw _ (List.mem_of_getElem? (i := 23) rfl)) (hw _ (List.mem_of_getElem? (i := 2) rfl)) (hw _ (List.mem_of_getElem? (i := 24) rfl)) (by decide) 0 (by decide) (by decide) rfl [(.ref a63), (.int (3 : Int32)), (.int (4 : Int32)), (.int xx), (.int xy)] rfl pd_3 rfl rfl (Nat.le_of_eq rfl) 3 12 rfl rfl (by decide) (by decide) 112 rfl ?_
    rintro _ T68 _ X68 ⟨rfl, rfl⟩
    show OE p e room_1 below s n0 Q' T68 (mkF m 112 #[.val (.int xl), .val (.int xx), .val (.int xy), .val (.int (4 : Int32)), .val (.ref a61), .val (.ref a62), .val (.ref a63), .unset] [(.int (1 : Int32))])
    refine o_ifEq X68 at_112 156 115 (by decide) (by decide) rfl (fun q => by exfalso; exact absurd q (by decide)) ?_
    intro hc112
    refine o_aload X68 at_115 rfl rfl 117 rfl ?_
    refine o_iconst (v := (4 : Int32)) X68 at_117 rfl 118 rfl ?_
    refine o_iloadN X68 at_118 rfl 119 rfl ?_
    refine o_iloadN X68 at_119 rfl 120 rfl ?_
    refine o_iloadN X68 at_120 rfl 121 rfl ?_
    refine o_callS X68 at_121 (rest := []) (c_at_4_4 l Z a0 hw [] n0 _ X68.size a63 xx xy ((a61, OA Z .boolean [(f_bit xx (0 : Int32)), (f_bit xx (1 : Int32)), (f_bit xx (2 : Int32)), (f_bit xx (3 : Int32))]) :: (a62, OA Z .boolean [(f_bit xy (0 : Int32)), (f_bit xy (1 : Int32)), (f_bit xy (2 : Int32)), (f_bit xy (3 : Int32))]) :: []) H63) (hw _ (List.mem_of_getElem? (i := 22) rfl)) (hw _ (List.mem_of_getElem? (i := 23) rfl)) (hw _ (List.mem_of_getElem? (i := 2) rfl)) (hw _ (List.mem_of_getElem? (i := 24) rfl)) (by decide) 0 (by decide) (by decide) rfl [(.ref a63), (.int (4 : Int32)), (.int (4 : Int32)), (.int xx), (.int xy)] rfl pd_3 rfl rfl (Nat.le_of_eq rfl) 3 12 rfl rfl (by decide) (by decide) 124 rfl ?_
    rintro _ T69 _ X69 ⟨rfl, rfl⟩
    show OE p e room_1 below s n0 Q' T69 (mkF m 124 #[.val (.int xl), .val (.int xx), .val (.int xy), .val (.int (4 : Int32)), .val (.ref a61), .val (.ref a62), .val (.ref a63), .unset] [(.int (1 : Int32))])
    refine o_ifEq X69 at_124 156 127 (by decide) (by decide) rfl (fun q => by exfalso; exact absurd q (by decide)) ?_
    intro hc124
    refine o_aload X69 at_127 rfl rfl 129 rfl ?_
    refine o_iconst (v := (5 : Int32)) X69 at_129 rfl 130 rfl ?_
    refine o_iloadN X69 at_130 rfl 131 rfl ?_
    refine o_iloadN X69 at_131 rfl 132 rfl ?_
    refine o_iloadN X69 at_132 rfl 133 rfl ?_
    refine o_callS X69 at_133 (rest := []) (c_at_4_5 l Z a0 hw [] n0 _ X69.size a63 xx xy ((a61, OA Z .boolean [(f_bit xx (0 : Int32)), (f_bit xx (1 : Int32)), (f_bit xx (2 : Int32)), (f_bit xx (3 : Int32))]) :: (a62, OA Z .boolean [(f_bit xy (0 : Int32)), (f_bit xy (1 : Int32)), (f_bit xy (2 : Int32)), (f_bit xy (3 : Int32))]) :: []) H63) (hw _ (List.mem_of_getElem? (i := 22) rfl)) (hw _ (List.mem_of_getElem? (i := 23) rfl)) (hw _ (List.mem_of_getElem? (i := 2) rfl)) (hw _ (List.mem_of_getElem? (i := 24) rfl)) (by decide) 0 (by decide) (by decide) rfl [(.ref a63), (.int (5 : Int32)), (.int (4 : Int32)), (.int xx), (.int xy)] rfl pd_3 rfl rfl (Nat.le_of_eq rfl) 3 12 rfl rfl (by decide) (by decide) 136 rfl ?_
    rintro _ T70 _ X70 ⟨rfl, rfl⟩
    show OE p e room_1 below s n0 Q' T70 (mkF m 136 #[.val (.int xl), .val (.int xx), .val (.int xy), .val (.int (4 : Int32)), .val (.ref a61), .val (.ref a62), .val (.ref a63), .unset] [(.int (1 : Int32))])
    refine o_ifEq X70 at_136 156 139 (by decide) (by decide) rfl (fun q => by exfalso; exact absurd q (by decide)) ?_
    intro hc136
    refine o_aload X70 at_139 rfl rfl 141 rfl ?_
    refine o_bipush (v := (6 : Int32)) X70 at_141 rfl 143 rfl ?_
    refine o_iloadN X70 at_143 rfl 144 rfl ?_
    refine o_iloadN X70 at_144 rfl 145 rfl ?_
    refine o_iloadN X70 at_145 rfl 146 rfl ?_
    refine o_callS X70 at_146 (rest := []) (c_at_4_6 l Z a0 hw [] n0 _ X70.size a63 xx xy ((a61, OA Z .boolean [(f_bit xx (0 : Int32)), (f_bit xx (1 : Int32)), (f_bit xx (2 : Int32)), (f_bit xx (3 : Int32))]) :: (a62, OA Z .boolean [(f_bit xy (0 : Int32)), (f_bit xy (1 : Int32)), (f_bit xy (2 : Int32)), (f_bit xy (3 : Int32))]) :: []) H63) (hw _ (List.mem_of_getElem? (i := 22) rfl)) (hw _ (List.mem_of_getElem? (i := 23) rfl)) (hw _ (List.mem_of_getElem? (i := 2) rfl)) (hw _ (List.mem_of_getElem? (i := 24) rfl)) (by decide) 0 (by decide) (by decide) rfl [(.ref a63), (.int (6 : Int32)), (.int (4 : Int32)), (.int xx), (.int xy)] rfl pd_3 rfl rfl (Nat.le_of_eq rfl) 3 12 rfl rfl (by decide) (by decide) 149 rfl ?_
    rintro _ T71 _ X71 ⟨rfl, rfl⟩
    show OE p e room_1 below s n0 Q' T71 (mkF m 149 #[.val (.int xl), .val (.int xx), .val (.int xy), .val (.int (4 : Int32)), .val (.ref a61), .val (.ref a62), .val (.ref a63), .unset] [(.int (1 : Int32))])
    refine o_ifEq X71 at_149 156 152 (by decide) (by decide) rfl (fun q => by exfalso; exact absurd q (by decide)) ?_
    intro hc149
    refine o_iconst (v := (1 : Int32)) X71 at_152 rfl 153 rfl ?_
    refine o_goto X71 at_153 157 (by decide) (by decide) ?_
    refine o_istore X71 at_157 #[.val (.int xl), .val (.int xx), .val (.int xy), .val (.int (4 : Int32)), .val (.ref a61), .val (.ref a62), .val (.ref a63), .val (.int (1 : Int32))] rfl 159 rfl ?_
    refine o_iload X71 at_159 rfl 161 rfl ?_
    refine o_ifEq X71 at_161 188 164 (by decide) (by decide) rfl (fun q => by exfalso; exact absurd q (by decide)) ?_
    intro hc161
    refine o_aload X71 at_164 rfl rfl 166 rfl ?_
    refine o_iloadN X71 at_166 rfl 167 rfl ?_
    refine o_iloadN X71 at_167 rfl 168 rfl ?_
    have H73 : OL n0 h63 ((a61, OA Z .boolean [(f_bit xx (0 : Int32)), (f_bit xx (1 : Int32)), (f_bit xx (2 : Int32)), (f_bit xx (3 : Int32))]) :: (a63, OA Z .boolean [(f_bit xx (0 : Int32)), (f_bit xx (1 : Int32)), (f_bit xy (2 : Int32)), (f_bit xy (3 : Int32))]) :: (a62, OA Z .boolean [(f_bit xy (0 : Int32)), (f_bit xy (1 : Int32)), (f_bit xy (2 : Int32)), (f_bit xy (3 : Int32))]) :: []) := H63.front 1 rfl
    refine o_callS X71 at_168 (rest := []) (c_all_4 l Z a0 hw [] n0 _ X71.size a61 xx ((a63, OA Z .boolean [(f_bit xx (0 : Int32)), (f_bit xx (1 : Int32)), (f_bit xy (2 : Int32)), (f_bit xy (3 : Int32))]) :: (a62, OA Z .boolean [(f_bit xy (0 : Int32)), (f_bit xy (1 : Int32)), (f_bit xy (2 : Int32)), (f_bit xy (3 : Int32))]) :: []) H73) (hw _ (List.mem_of_getElem? (i := 25) rfl)) (hw _ (List.mem_of_getElem? (i := 26) rfl)) (hw _ (List.mem_of_getElem? (i := 2) rfl)) (hw _ (List.mem_of_getElem? (i := 27) rfl)) (by decide) 0 (by decide) (by decide) rfl [(.ref a61), (.int (4 : Int32)), (.int xx)] rfl pd_4 rfl rfl (Nat.le_of_eq rfl) 3 12 rfl rfl (by decide) (by decide) 171 rfl ?_
    rintro _ T72 _ X72 ⟨rfl, rfl⟩
    show OE p e room_1 below s n0 Q' T72 (mkF m 171 #[.val (.int xl), .val (.int xx), .val (.int xy), .val (.int (4 : Int32)), .val (.ref a61), .val (.ref a62), .val (.ref a63), .val (.int (1 : Int32))] [(.int (1 : Int32))])
    refine o_ifEq X72 at_171 188 174 (by decide) (by decide) rfl (fun q => by exfalso; exact absurd q (by decide)) ?_
    intro hc171
    refine o_aload X72 at_174 rfl rfl 176 rfl ?_
    refine o_iloadN X72 at_176 rfl 177 rfl ?_
    refine o_iloadN X72 at_177 rfl 178 rfl ?_
    have H75 : OL n0 h63 ((a62, OA Z .boolean [(f_bit xy (0 : Int32)), (f_bit xy (1 : Int32)), (f_bit xy (2 : Int32)), (f_bit xy (3 : Int32))]) :: (a61, OA Z .boolean [(f_bit xx (0 : Int32)), (f_bit xx (1 : Int32)), (f_bit xx (2 : Int32)), (f_bit xx (3 : Int32))]) :: (a63, OA Z .boolean [(f_bit xx (0 : Int32)), (f_bit xx (1 : Int32)), (f_bit xy (2 : Int32)), (f_bit xy (3 : Int32))]) :: []) := H73.front 2 rfl
    refine o_callS X72 at_178 (rest := []) (c_all_4 l Z a0 hw [] n0 _ X72.size a62 xy ((a61, OA Z .boolean [(f_bit xx (0 : Int32)), (f_bit xx (1 : Int32)), (f_bit xx (2 : Int32)), (f_bit xx (3 : Int32))]) :: (a63, OA Z .boolean [(f_bit xx (0 : Int32)), (f_bit xx (1 : Int32)), (f_bit xy (2 : Int32)), (f_bit xy (3 : Int32))]) :: []) H75) (hw _ (List.mem_of_getElem? (i := 25) rfl)) (hw _ (List.mem_of_getElem? (i := 26) rfl)) (hw _ (List.mem_of_getElem? (i := 2) rfl)) (hw _ (List.mem_of_getElem? (i := 27) rfl)) (by decide) 0 (by decide) (by decide) rfl [(.ref a62), (.int (4 : Int32)), (.int xy)] rfl pd_4 rfl rfl (Nat.le_of_eq rfl) 3 12 rfl rfl (by decide) (by decide) 181 rfl ?_
    rintro _ T74 _ X74 ⟨rfl, rfl⟩
    show OE p e room_1 below s n0 Q' T74 (mkF m 181 #[.val (.int xl), .val (.int xx), .val (.int xy), .val (.int (4 : Int32)), .val (.ref a61), .val (.ref a62), .val (.ref a63), .val (.int (1 : Int32))] [(.int (1 : Int32))])
    refine o_ifEq X74 at_181 188 184 (by decide) (by decide) rfl (fun q => by exfalso; exact absurd q (by decide)) ?_
    intro hc181
    refine o_iconst (v := (1 : Int32)) X74 at_184 rfl 185 rfl ?_
    refine o_goto X74 at_185 189 (by decide) (by decide) ?_
    exact o_retZ X74 at_189 (by decide) (by decide) (hQ _ _ rfl)
  · rw [hv]
    refine o_iloadN X0 at_5 rfl 6 rfl ?_
    refine o_bipush (v := (7 : Int32)) X0 at_6 rfl 8 rfl ?_
    refine o_icmpNe X0 at_8 14 11 (by decide) (by decide) rfl ?_ (fun q => by exfalso; exact absurd q (by decide))
    intro hc8
    refine o_iloadN X0 at_14 rfl 15 rfl ?_
    refine o_iloadN X0 at_15 rfl 16 rfl ?_
    refine o_callS X0 at_16 (rest := []) (c_make_5 l Z a0 hw [] n0 _ X0.size xx [] OL.nil) (hw _ (List.mem_of_getElem? (i := 0) rfl)) (hw _ (List.mem_of_getElem? (i := 1) rfl)) (hw _ (List.mem_of_getElem? (i := 2) rfl)) (hw _ (List.mem_of_getElem? (i := 3) rfl)) (by decide) 0 (by decide) (by decide) rfl [(.int xx), (.int (5 : Int32))] rfl pd_1 rfl rfl (Nat.le_of_eq rfl) 1 5 rfl rfl (by decide) (by decide) 19 rfl ?_
    rintro _ T76 h76 X76 ⟨a76, rfl, H76⟩
    replace H76 : OL n0 h76 ((a76, OA Z .boolean [(f_bit xx (0 : Int32)), (f_bit xx (1 : Int32)), (f_bit xx (2 : Int32)), (f_bit xx (3 : Int32)), (f_bit xx (4 : Int32))]) :: []) := H76
    show OE p e room_1 below s n0 Q' T76 (mkF m 19 #[.val (.int xl), .val (.int xx), .val (.int xy), .val (.int (5 : Int32)), .unset, .unset, .unset, .unset] [(.ref a76)])
    refine o_astore X76 at_19 rfl #[.val (.int xl), .val (.int xx), .val (.int xy), .val (.int (5 : Int32)), .val (.ref a76), .unset, .unset, .unset] rfl 21 rfl ?_
    refine o_iloadN X76 at_21 rfl 22 rfl ?_
    refine o_iloadN X76 at_22 rfl 23 rfl ?_
    refine o_callS X76 at_23 (rest := []) (c_make_5 l Z a0 hw [] n0 _ X76.size xy ((a76, OA Z .boolean [(f_bit xx (0 : Int32)), (f_bit xx (1 : Int32)), (f_bit xx (2 : Int32)), (f_bit xx (3 : Int32)), (f_bit xx (4 : Int32))]) :: []) H76) (hw _ (List.mem_of_getElem? (i := 0) rfl)) (hw _ (List.mem_of_getElem? (i := 1) rfl)) (hw _ (List.mem_of_getElem? (i := 2) rfl)) (hw _ (List.mem_of_getElem? (i := 3) rfl)) (by decide) 0 (by decide) (by decide) rfl [(.int xy), (.int (5 : Int32))] rfl pd_1 rfl rfl (Nat.le_of_eq rfl) 2 10 rfl rfl (by decide) (by decide) 26 rfl ?_
    rintro _ T77 h77 X77 ⟨a77, rfl, H77⟩
    replace H77 : OL n0 h77 ((a77, OA Z .boolean [(f_bit xy (0 : Int32)), (f_bit xy (1 : Int32)), (f_bit xy (2 : Int32)), (f_bit xy (3 : Int32)), (f_bit xy (4 : Int32))]) :: (a76, OA Z .boolean [(f_bit xx (0 : Int32)), (f_bit xx (1 : Int32)), (f_bit xx (2 : Int32)), (f_bit xx (3 : Int32)), (f_bit xx (4 : Int32))]) :: []) := H77
    show OE p e room_1 below s n0 Q' T77 (mkF m 26 #[.val (.int xl), .val (.int xx), .val (.int xy), .val (.int (5 : Int32)), .val (.ref a76), .unset, .unset, .unset] [(.ref a77)])
    refine o_astore X77 at_26 rfl #[.val (.int xl), .val (.int xx), .val (.int xy), .val (.int (5 : Int32)), .val (.ref a76), .val (.ref a77), .unset, .unset] rfl 28 rfl ?_
    refine o_aload X77 at_28 rfl rfl 30 rfl ?_
    refine o_aload X77 at_30 rfl rfl 32 rfl ?_
    have H79 : OL n0 h77 ((a76, OA Z .boolean [(f_bit xx (0 : Int32)), (f_bit xx (1 : Int32)), (f_bit xx (2 : Int32)), (f_bit xx (3 : Int32)), (f_bit xx (4 : Int32))]) :: (a77, OA Z .boolean [(f_bit xy (0 : Int32)), (f_bit xy (1 : Int32)), (f_bit xy (2 : Int32)), (f_bit xy (3 : Int32)), (f_bit xy (4 : Int32))]) :: []) := H77.front 1 rfl
    refine o_callS X77 at_32 (rest := []) (c_halves_5 l Z a0 hw [] n0 _ X77.size a76 a77 xx xy [] H79) (hw _ (List.mem_of_getElem? (i := 5) rfl)) (hw _ (List.mem_of_getElem? (i := 6) rfl)) (hw _ (List.mem_of_getElem? (i := 7) rfl)) (hw _ (List.mem_of_getElem? (i := 8) rfl)) (by decide) 0 (by decide) (by decide) rfl [(.ref a76), (.ref a77)] rfl pd_2 rfl rfl (Nat.le_of_eq rfl) 3 15 rfl rfl (by decide) (by decide) 35 rfl ?_
    rintro _ T78 h78 X78 ⟨a78, rfl, H78⟩
    replace H78 : OL n0 h78 ((a78, OA Z .boolean [(f_bit xx (0 : Int32)), (f_bit xx (1 : Int32)), (f_bit xy (2 : Int32)), (f_bit xy (3 : Int32)), (f_bit xy (4 : Int32))]) :: (a76, OA Z .boolean [(f_bit xx (0 : Int32)), (f_bit xx (1 : Int32)), (f_bit xx (2 : Int32)), (f_bit xx (3 : Int32)), (f_bit xx (4 : Int32))]) :: (a77, OA Z .boolean [(f_bit xy (0 : Int32)), (f_bit xy (1 : Int32)), (f_bit xy (2 : Int32)), (f_bit xy (3 : Int32)), (f_bit xy (4 : Int32))]) :: []) := H78
    show OE p e room_1 below s n0 Q' T78 (mkF m 35 #[.val (.int xl), .val (.int xx), .val (.int xy), .val (.int (5 : Int32)), .val (.ref a76), .val (.ref a77), .unset, .unset] [(.ref a78)])
    refine o_astore X78 at_35 rfl #[.val (.int xl), .val (.int xx), .val (.int xy), .val (.int (5 : Int32)), .val (.ref a76), .val (.ref a77), .val (.ref a78), .unset] rfl 37 rfl ?_
    refine o_aload X78 at_37 rfl rfl 39 rfl ?_
    refine o_ifnullR X78 at_39 42 rfl ?_
    refine o_aload X78 at_42 rfl rfl 44 rfl ?_
    refine o_aload X78 at_44 rfl rfl 46 rfl ?_
    refine o_acmpEqN X78 at_46 (H78.ne (i := 0) (j := 1) rfl rfl (by decide)) 49 rfl ?_
    refine o_aload X78 at_49 rfl rfl 51 rfl ?_
    refine o_aload X78 at_51 rfl rfl 53 rfl ?_
    refine o_acmpNeY X78 at_53 (H78.ne (i := 0) (j := 2) rfl rfl (by decide)) 58 (by decide) (by decide) ?_
    refine o_aload X78 at_58 rfl rfl 60 rfl ?_
    refine o_arraylength X78 H78 0 rfl at_60 (5 : Int32) rfl 61 rfl ?_
    refine o_iloadN X78 at_61 rfl 62 rfl ?_
    refine o_icmpEq X78 at_62 67 65 (by decide) (by decide) rfl ?_ (fun q => by exfalso; exact absurd q (by decide))
    intro hc62
    refine o_aload X78 at_67 rfl rfl 69 rfl ?_
    refine o_iconst (v := (0 : Int32)) X78 at_69 rfl 70 rfl ?_
    refine o_iloadN X78 at_70 rfl 71 rfl ?_
    refine o_iloadN X78 at_71 rfl 72 rfl ?_
    refine o_iloadN X78 at_72 rfl 73 rfl ?_
    refine o_callS X78 at_73 (rest := []) (c_at_5_0 l Z a0 hw [] n0 _ X78.size a78 xx xy ((a76, OA Z .boolean [(f_bit xx (0 : Int32)), (f_bit xx (1 : Int32)), (f_bit xx (2 : Int32)), (f_bit xx (3 : Int32)), (f_bit xx (4 : Int32))]) :: (a77, OA Z .boolean [(f_bit xy (0 : Int32)), (f_bit xy (1 : Int32)), (f_bit xy (2 : Int32)), (f_bit xy (3 : Int32)), (f_bit xy (4 : Int32))]) :: []) H78) (hw _ (List.mem_of_getElem? (i := 22) rfl)) (hw _ (List.mem_of_getElem? (i := 23) rfl)) (hw _ (List.mem_of_getElem? (i := 2) rfl)) (hw _ (List.mem_of_getElem? (i := 24) rfl)) (by decide) 0 (by decide) (by decide) rfl [(.ref a78), (.int (0 : Int32)), (.int (5 : Int32)), (.int xx), (.int xy)] rfl pd_3 rfl rfl (Nat.le_of_eq rfl) 3 15 rfl rfl (by decide) (by decide) 76 rfl ?_
    rintro _ T80 _ X80 ⟨rfl, rfl⟩
    show OE p e room_1 below s n0 Q' T80 (mkF m 76 #[.val (.int xl), .val (.int xx), .val (.int xy), .val (.int (5 : Int32)), .val (.ref a76), .val (.ref a77), .val (.ref a78), .unset] [(.int (1 : Int32))])
    refine o_ifEq X80 at_76 156 79 (by decide) (by decide) rfl (fun q => by exfalso; exact absurd q (by decide)) ?_
    intro hc76
    refine o_aload X80 at_79 rfl rfl 81 rfl ?_
    refine o_iconst (v := (1 : Int32)) X80 at_81 rfl 82 rfl ?_
    refine o_iloadN X80 at_82 rfl 83 rfl ?_
    refine o_iloadN X80 at_83 rfl 84 rfl ?_
    refine o_iloadN X80 at_84 rfl 85 rfl ?_
    refine o_callS X80 at_85 (rest := []) (c_at_5_1 l Z a0 hw [] n0 _ X80.size a78 xx xy ((a76, OA Z .boolean [(f_bit xx (0 : Int32)), (f_bit xx (1 : Int32)), (f_bit xx (2 : Int32)), (f_bit xx (3 : Int32)), (f_bit xx (4 : Int32))]) :: (a77, OA Z .boolean [(f_bit xy (0 : Int32)), (f_bit xy (1 : Int32)), (f_bit xy (2 : Int32)), (f_bit xy (3 : Int32)), (f_bit xy (4 : Int32))]) :: []) H78) (hw _ (List.mem_of_getElem? (i := 22) rfl)) (hw _ (List.mem_of_getElem? (i := 23) rfl)) (hw _ (List.mem_of_getElem? (i := 2) rfl)) (hw _ (List.mem_of_getElem? (i := 24) rfl)) (by decide) 0 (by decide) (by decide) rfl [(.ref a78), (.int (1 : Int32)), (.int (5 : Int32)), (.int xx), (.int xy)] rfl pd_3 rfl rfl (Nat.le_of_eq rfl) 3 15 rfl rfl (by decide) (by decide) 88 rfl ?_
    rintro _ T81 _ X81 ⟨rfl, rfl⟩
    show OE p e room_1 below s n0 Q' T81 (mkF m 88 #[.val (.int xl), .val (.int xx), .val (.int xy), .val (.int (5 : Int32)), .val (.ref a76), .val (.ref a77), .val (.ref a78), .unset] [(.int (1 : Int32))])
    refine o_ifEq X81 at_88 156 91 (by decide) (by decide) rfl (fun q => by exfalso; exact absurd q (by decide)) ?_
    intro hc88
    refine o_aload X81 at_91 rfl rfl 93 rfl ?_
    refine o_iconst (v := (2 : Int32)) X81 at_93 rfl 94 rfl ?_
    refine o_iloadN X81 at_94 rfl 95 rfl ?_
    refine o_iloadN X81 at_95 rfl 96 rfl ?_
    refine o_iloadN X81 at_96 rfl 97 rfl ?_
    refine o_callS X81 at_97 (rest := []) (c_at_5_2 l Z a0 hw [] n0 _ X81.size a78 xx xy ((a76, OA Z .boolean [(f_bit xx (0 : Int32)), (f_bit xx (1 : Int32)), (f_bit xx (2 : Int32)), (f_bit xx (3 : Int32)), (f_bit xx (4 : Int32))]) :: (a77, OA Z .boolean [(f_bit xy (0 : Int32)), (f_bit xy (1 : Int32)), (f_bit xy (2 : Int32)), (f_bit xy (3 : Int32)), (f_bit xy (4 : Int32))]) :: []) H78) (hw _ (List.mem_of_getElem? (i := 22) rfl)) (hw _ (List.mem_of_getElem? (i := 23) rfl)) (hw _ (List.mem_of_getElem? (i := 2) rfl)) (hw _ (List.mem_of_getElem? (i := 24) rfl)) (by decide) 0 (by decide) (by decide) rfl [(.ref a78), (.int (2 : Int32)), (.int (5 : Int32)), (.int xx), (.int xy)] rfl pd_3 rfl rfl (Nat.le_of_eq rfl) 3 15 rfl rfl (by decide) (by decide) 100 rfl ?_
    rintro _ T82 _ X82 ⟨rfl, rfl⟩
    show OE p e room_1 below s n0 Q' T82 (mkF m 100 #[.val (.int xl), .val (.int xx), .val (.int xy), .val (.int (5 : Int32)), .val (.ref a76), .val (.ref a77), .val (.ref a78), .unset] [(.int (1 : Int32))])
    refine o_ifEq X82 at_100 156 103 (by decide) (by decide) rfl (fun q => by exfalso; exact absurd q (by decide)) ?_
    intro hc100
    refine o_aload X82 at_103 rfl rfl 105 rfl ?_
    refine o_iconst (v := (3 : Int32)) X82 at_105 rfl 106 rfl ?_
    refine o_iloadN X82 at_106 rfl 107 rfl ?_
    refine o_iloadN X82 at_107 rfl 108 rfl ?_
    refine o_iloadN X82 at_108 rfl 109 rfl ?_
    refine o_callS X82 at_109 (rest := []) (c_at_5_3 l Z a0 hw [] n0 _ X82.size a78 xx xy ((a76, OA Z .boolean [(f_bit xx (0 : Int32)), (f_bit xx (1 : Int32)), (f_bit xx (2 : Int32)), (f_bit xx (3 : Int32)), (f_bit xx (4 : Int32))]) :: (a77, OA Z .boolean [(f_bit xy (0 : Int32)), (f_bit xy (1 : Int32)), (f_bit xy (2 : Int32)), (f_bit xy (3 : Int32)), (f_bit xy (4 : Int32))]) :: []) H78) (hw _ (List.mem_of_getElem? (i := 22) rfl)) (hw _ (List.mem_of_getElem? (i := 23) rfl)) (hw _ (List.mem_of_getElem? (i := 2) rfl)) (hw _ (List.mem_of_getElem? (i := 24) rfl)) (by decide) 0 (by decide) (by decide) rfl [(.ref a78), (.int (3 : Int32)), (.int (5 : Int32)), (.int xx), (.int xy)] rfl pd_3 rfl rfl (Nat.le_of_eq rfl) 3 15 rfl rfl (by decide) (by decide) 112 rfl ?_
    rintro _ T83 _ X83 ⟨rfl, rfl⟩
    show OE p e room_1 below s n0 Q' T83 (mkF m 112 #[.val (.int xl), .val (.int xx), .val (.int xy), .val (.int (5 : Int32)), .val (.ref a76), .val (.ref a77), .val (.ref a78), .unset] [(.int (1 : Int32))])
    refine o_ifEq X83 at_112 156 115 (by decide) (by decide) rfl (fun q => by exfalso; exact absurd q (by decide)) ?_
    intro hc112
    refine o_aload X83 at_115 rfl rfl 117 rfl ?_
    refine o_iconst (v := (4 : Int32)) X83 at_117 rfl 118 rfl ?_
    refine o_iloadN X83 at_118 rfl 119 rfl ?_
    refine o_iloadN X83 at_119 rfl 120 rfl ?_
    refine o_iloadN X83 at_120 rfl 121 rfl ?_
    refine o_callS X83 at_121 (rest := []) (c_at_5_4 l Z a0 hw [] n0 _ X83.size a78 xx xy ((a76, OA Z .boolean [(f_bit xx (0 : Int32)), (f_bit xx (1 : Int32)), (f_bit xx (2 : Int32)), (f_bit xx (3 : Int32)), (f_bit xx (4 : Int32))]) :: (a77, OA Z .boolean [(f_bit xy (0 : Int32)), (f_bit xy (1 : Int32)), (f_bit xy (2 : Int32)), (f_bit xy (3 : Int32)), (f_bit xy (4 : Int32))]) :: []) H78) (hw _ (List.mem_of_getElem? (i := 22) rfl)) (hw _ (List.mem_of_getElem? (i := 23) rfl)) (hw _ (List.mem_of_getElem? (i := 2) rfl)) (hw _ (List.mem_of_getElem? (i := 24) rfl)) (by decide) 0 (by decide) (by decide) rfl [(.ref a78), (.int (4 : Int32)), (.int (5 : Int32)), (.int xx), (.int xy)] rfl pd_3 rfl rfl (Nat.le_of_eq rfl) 3 15 rfl rfl (by decide) (by decide) 124 rfl ?_
    rintro _ T84 _ X84 ⟨rfl, rfl⟩
    show OE p e room_1 below s n0 Q' T84 (mkF m 124 #[.val (.int xl), .val (.int xx), .val (.int xy), .val (.int (5 : Int32)), .val (.ref a76), .val (.ref a77), .val (.ref a78), .unset] [(.int (1 : Int32))])
    refine o_ifEq X84 at_124 156 127 (by decide) (by decide) rfl (fun q => by exfalso; exact absurd q (by decide)) ?_
    intro hc124
    refine o_aload X84 at_127 rfl rfl 129 rfl ?_
    refine o_iconst (v := (5 : Int32)) X84 at_129 rfl 130 rfl ?_
    refine o_iloadN X84 at_130 rfl 131 rfl ?_
    refine o_iloadN X84 at_131 rfl 132 rfl ?_
    refine o_iloadN X84 at_132 rfl 133 rfl ?_
    refine o_callS X84 at_133 (rest := []) (c_at_5_5 l Z a0 hw [] n0 _ X84.size a78 xx xy ((a76, OA Z .boolean [(f_bit xx (0 : Int32)), (f_bit xx (1 : Int32)), (f_bit xx (2 : Int32)), (f_bit xx (3 : Int32)), (f_bit xx (4 : Int32))]) :: (a77, OA Z .boolean [(f_bit xy (0 : Int32)), (f_bit xy (1 : Int32)), (f_bit xy (2 : Int32)), (f_bit xy (3 : Int32)), (f_bit xy (4 : Int32))]) :: []) H78) (hw _ (List.mem_of_getElem? (i := 22) rfl)) (hw _ (List.mem_of_getElem? (i := 23) rfl)) (hw _ (List.mem_of_getElem? (i := 2) rfl)) (hw _ (List.mem_of_getElem? (i := 24) rfl)) (by decide) 0 (by decide) (by decide) rfl [(.ref a78), (.int (5 : Int32)), (.int (5 : Int32)), (.int xx), (.int xy)] rfl pd_3 rfl rfl (Nat.le_of_eq rfl) 3 15 rfl rfl (by decide) (by decide) 136 rfl ?_
    rintro _ T85 _ X85 ⟨rfl, rfl⟩
    show OE p e room_1 below s n0 Q' T85 (mkF m 136 #[.val (.int xl), .val (.int xx), .val (.int xy), .val (.int (5 : Int32)), .val (.ref a76), .val (.ref a77), .val (.ref a78), .unset] [(.int (1 : Int32))])
    refine o_ifEq X85 at_136 156 139 (by decide) (by decide) rfl (fun q => by exfalso; exact absurd q (by decide)) ?_
    intro hc136
    refine o_aload X85 at_139 rfl rfl 141 rfl ?_
    refine o_bipush (v := (6 : Int32)) X85 at_141 rfl 143 rfl ?_
    refine o_iloadN X85 at_143 rfl 144 rfl ?_
    refine o_iloadN X85 at_144 rfl 145 rfl ?_
    refine o_iloadN X85 at_145 rfl 146 rfl ?_
    refine o_callS X85 at_146 (rest := []) (c_at_5_6 l Z a0 hw [] n0 _ X85.size a78 xx xy ((a76, OA Z .boolean [(f_bit xx (0 : Int32)), (f_bit xx (1 : Int32)), (f_bit xx (2 : Int32)), (f_bit xx (3 : Int32)), (f_bit xx (4 : Int32))]) :: (a77, OA Z .boolean [(f_bit xy (0 : Int32)), (f_bit xy (1 : Int32)), (f_bit xy (2 : Int32)), (f_bit xy (3 : Int32)), (f_bit xy (4 : Int32))]) :: []) H78) (hw _ (List.mem_of_getElem? (i := 22) rfl)) (hw _ (List.mem_of_getElem? (i := 23) rfl)) (hw _ (List.mem_of_getElem? (i := 2) rfl)) (hw _ (List.mem_of_getElem? (i := 24) rfl)) (by decide) 0 (by decide) (by decide) rfl [(.ref a78), (.int (6 : Int32)), (.int (5 : Int32)), (.int xx), (.int xy)] rfl pd_3 rfl rfl (Nat.le_of_eq rfl) 3 15 rfl rfl (by decide) (by decide) 149 rfl ?_
    rintro _ T86 _ X86 ⟨rfl, rfl⟩
    show OE p e room_1 below s n0 Q' T86 (mkF m 149 #[.val (.int xl), .val (.int xx), .val (.int xy), .val (.int (5 : Int32)), .val (.ref a76), .val (.ref a77), .val (.ref a78), .unset] [(.int (1 : Int32))])
    refine o_ifEq X86 at_149 156 152 (by decide) (by decide) rfl (fun q => by exfalso; exact absurd q (by decide)) ?_
    intro hc149
    refine o_iconst (v := (1 : Int32)) X86 at_152 rfl 153 rfl ?_
    refine o_goto X86 at_153 157 (by decide) (by decide) ?_
    refine o_istore X86 at_157 #[.val (.int xl), .val (.int xx), .val (.int xy), .val (.int (5 : Int32)), .val (.ref a76), .val (.ref a77), .val (.ref a78), .val (.int (1 : Int32))] rfl 159 rfl ?_
    refine o_iload X86 at_159 rfl 161 rfl ?_
    refine o_ifEq X86 at_161 188 164 (by decide) (by decide) rfl (fun q => by exfalso; exact absurd q (by decide)) ?_
    intro hc161
    refine o_aload X86 at_164 rfl rfl 166 rfl ?_
    refine o_iloadN X86 at_166 rfl 167 rfl ?_
    refine o_iloadN X86 at_167 rfl 168 rfl ?_
    have H88 : OL n0 h78 ((a76, OA Z .boolean [(f_bit xx (0 : Int32)), (f_bit xx (1 : Int32)), (f_bit xx (2 : Int32)), (f_bit xx (3 : Int32)), (f_bit xx (4 : Int32))]) :: (a78, OA Z .boolean [(f_bit xx (0 : Int32)), (f_bit xx (1 : Int32)), (f_bit xy (2 : Int32)), (f_bit xy (3 : Int32)), (f_bit xy (4 : Int32))]) :: (a77, OA Z .boolean [(f_bit xy (0 : Int32)), (f_bit xy (1 : Int32)), (f_bit xy (2 : Int32)), (f_bit xy (3 : Int32)), (f_bit xy (4 : Int32))]) :: []) := H78.front 1 rfl
    refine o_callS X86 at_168 (rest := []) (c_all_5 l Z a0 hw [] n0 _ X86.size a76 xx ((a78, OA Z .boolean [(f_bit xx (0 : Int32)), (f_bit xx (1 : Int32)), (f_bit xy (2 : Int32)), (f_bit xy (3 : Int32)), (f_bit xy (4 : Int32))]) :: (a77, OA Z .boolean [(f_bit xy (0 : Int32)), (f_bit xy (1 : Int32)), (f_bit xy (2 : Int32)), (f_bit xy (3 : Int32)), (f_bit xy (4 : Int32))]) :: []) H88) (hw _ (List.mem_of_getElem? (i := 25) rfl)) (hw _ (List.mem_of_getElem? (i := 26) rfl)) (hw _ (List.mem_of_getElem? (i := 2) rfl)) (hw _ (List.mem_of_getElem? (i := 27) rfl)) (by decide) 0 (by decide) (by decide) rfl [(.ref a76), (.int (5 : Int32)), (.int xx)] rfl pd_4 rfl rfl (Nat.le_of_eq rfl) 3 15 rfl rfl (by decide) (by decide) 171 rfl ?_
    rintro _ T87 _ X87 ⟨rfl, rfl⟩
    show OE p e room_1 below s n0 Q' T87 (mkF m 171 #[.val (.int xl), .val (.int xx), .val (.int xy), .val (.int (5 : Int32)), .val (.ref a76), .val (.ref a77), .val (.ref a78), .val (.int (1 : Int32))] [(.int (1 : Int32))])
    refine o_ifEq X87 at_171 188 174 (by decide) (by decide) rfl (fun q => by exfalso; exact absurd q (by decide)) ?_
    intro hc171
    refine o_aload X87 at_174 rfl rfl 176 rfl ?_
    refine o_iloadN X87 at_176 rfl 177 rfl ?_
    refine o_iloadN X87 at_177 rfl 178 rfl ?_
    have H90 : OL n0 h78 ((a77, OA Z .boolean [(f_bit xy (0 : Int32)), (f_bit xy (1 : Int32)), (f_bit xy (2 : Int32)), (f_bit xy (3 : Int32)), (f_bit xy (4 : Int32))]) :: (a76, OA Z .boolean [(f_bit xx (0 : Int32)), (f_bit xx (1 : Int32)), (f_bit xx (2 : Int32)), (f_bit xx (3 : Int32)), (f_bit xx (4 : Int32))]) :: (a78, OA Z .boolean [(f_bit xx (0 : Int32)), (f_bit xx (1 : Int32)), (f_bit xy (2 : Int32)), (f_bit xy (3 : Int32)), (f_bit xy (4 : Int32))]) :: []) := H88.front 2 rfl
    refine o_callS X87 at_178 (rest := []) (c_all_5 l Z a0 hw [] n0 _ X87.size a77 xy ((a76, OA Z .boolean [(f_bit xx (0 : Int32)), (f_bit xx (1 : Int32)), (f_bit xx (2 : Int32)), (f_bit xx (3 : Int32)), (f_bit xx (4 : Int32))]) :: (a78, OA Z .boolean [(f_bit xx (0 : Int32)), (f_bit xx (1 : Int32)), (f_bit xy (2 : Int32)), (f_bit xy (3 : Int32)), (f_bit xy (4 : Int32))]) :: []) H90) (hw _ (List.mem_of_getElem? (i := 25) rfl)) (hw _ (List.mem_of_getElem? (i := 26) rfl)) (hw _ (List.mem_of_getElem? (i := 2) rfl)) (hw _ (List.mem_of_getElem? (i := 27) rfl)) (by decide) 0 (by decide) (by decide) rfl [(.ref a77), (.int (5 : Int32)), (.int xy)] rfl pd_4 rfl rfl (Nat.le_of_eq rfl) 3 15 rfl rfl (by decide) (by decide) 181 rfl ?_
    rintro _ T89 _ X89 ⟨rfl, rfl⟩
    show OE p e room_1 below s n0 Q' T89 (mkF m 181 #[.val (.int xl), .val (.int xx), .val (.int xy), .val (.int (5 : Int32)), .val (.ref a76), .val (.ref a77), .val (.ref a78), .val (.int (1 : Int32))] [(.int (1 : Int32))])
    refine o_ifEq X89 at_181 188 184 (by decide) (by decide) rfl (fun q => by exfalso; exact absurd q (by decide)) ?_
    intro hc181
    refine o_iconst (v := (1 : Int32)) X89 at_184 rfl 185 rfl ?_
    refine o_goto X89 at_185 189 (by decide) (by decide) ?_
    exact o_retZ X89 at_189 (by decide) (by decide) (hQ _ _ rfl)
  · rw [hv]
    refine o_iloadN X0 at_5 rfl 6 rfl ?_
    refine o_bipush (v := (7 : Int32)) X0 at_6 rfl 8 rfl ?_
    refine o_icmpNe X0 at_8 14 11 (by decide) (by decide) rfl ?_ (fun q => by exfalso; exact absurd q (by decide))
    intro hc8
    refine o_iloadN X0 at_14 rfl 15 rfl ?_
    refine o_iloadN X0 at_15 rfl 16 rfl ?_
    refine o_callS X0 at_16 (rest := []) (c_make_6 l Z a0 hw [] n0 _ X0.size xx [] OL.nil) (hw _ (List.mem_of_getElem? (i := 0) rfl)) (hw _ (List.mem_of_getElem? (i := 1) rfl)) (hw _ (List.mem_of_getElem? (i := 2) rfl)) (hw _ (List.mem_of_getElem? (i := 3) rfl)) (by decide) 0 (by decide) (by decide) rfl [(.int xx), (.int (6 : Int32))] rfl pd_1 rfl rfl (Nat.le_of_eq rfl) 1 6 rfl rfl (by decide) (by decide) 19 rfl ?_
    rintro _ T91 h91 X91 ⟨a91, rfl, H91⟩
    replace H91 : OL n0 h91 ((a91, OA Z .boolean [(f_bit xx (0 : Int32)), (f_bit xx (1 : Int32)), (f_bit xx (2 : Int32)), (f_bit xx (3 : Int32)), (f_bit xx (4 : Int32)), (f_bit xx (5 : Int32))]) :: []) := H91
    show OE p e room_1 below s n0 Q' T91 (mkF m 19 #[.val (.int xl), .val (.int xx), .val (.int xy), .val (.int (6 : Int32)), .unset, .unset, .unset, .unset] [(.ref a91)])
    refine o_astore X91 at_19 rfl #[.val (.int xl), .val (.int xx), .val (.int xy), .val (.int (6 : Int32)), .val (.ref a91), .unset, .unset, .unset] rfl 21 rfl ?_
    refine o_iloadN X91 at_21 rfl 22 rfl ?_
    refine o_iloadN X91 at_22 rfl 23 rfl ?_
    refine o_callS X91 at_23 (rest := []) (c_make_6 l Z a0 hw [] n0 _ X91.size xy ((a91, OA Z .boolean [(f_bit xx (0 : Int32)), (f_bit xx (1 : Int32)), (f_bit xx (2 : Int32)), (f_bit xx (3 : Int32)), (f_bit xx (4 : Int32)), (f_bit xx (5 : Int32))]) :: []) H91) (hw _ (List.mem_of_getElem? (i := 0) rfl)) (hw _ (List.mem_of_getElem? (i := 1) rfl)) (hw _ (List.mem_of_getElem? (i := 2) rfl)) (hw _ (List.mem_of_getElem? (i := 3) rfl)) (by decide) 0 (by decide) (by decide) rfl [(.int xy), (.int (6 : Int32))] rfl pd_1 rfl rfl (Nat.le_of_eq rfl) 2 12 rfl rfl (by decide) (by decide) 26 rfl ?_
    rintro _ T92 h92 X92 ⟨a92, rfl, H92⟩
    replace H92 : OL n0 h92 ((a92, OA Z .boolean [(f_bit xy (0 : Int32)), (f_bit xy (1 : Int32)), (f_bit xy (2 : Int32)), (f_bit xy (3 : Int32)), (f_bit xy (4 : Int32)), (f_bit xy (5 : Int32))]) :: (a91, OA Z .boolean [(f_bit xx (0 : Int32)), (f_bit xx (1 : Int32)), (f_bit xx (2 : Int32)), (f_bit xx (3 : Int32)), (f_bit xx (4 : Int32)), (f_bit xx (5 : Int32))]) :: []) := H92
    show OE p e room_1 below s n0 Q' T92 (mkF m 26 #[.val (.int xl), .val (.int xx), .val (.int xy), .val (.int (6 : Int32)), .val (.ref a91), .unset, .unset, .unset] [(.ref a92)])
    refine o_astore X92 at_26 rfl #[.val (.int xl), .val (.int xx), .val (.int xy), .val (.int (6 : Int32)), .val (.ref a91), .val (.ref a92), .unset, .unset] rfl 28 rfl ?_
    refine o_aload X92 at_28 rfl rfl 30 rfl ?_
    refine o_aload X92 at_30 rfl rfl 32 rfl ?_
    have H94 : OL n0 h92 ((a91, OA Z .boolean [(f_bit xx (0 : Int32)), (f_bit xx (1 : Int32)), (f_bit xx (2 : Int32)), (f_bit xx (3 : Int32)), (f_bit xx (4 : Int32)), (f_bit xx (5 : Int32))]) :: (a92, OA Z .boolean [(f_bit xy (0 : Int32)), (f_bit xy (1 : Int32)), (f_bit xy (2 : Int32)), (f_bit xy (3 : Int32)), (f_bit xy (4 : Int32)), (f_bit xy (5 : Int32))]) :: []) := H92.front 1 rfl
    refine o_callS X92 at_32 (rest := []) (c_halves_6 l Z a0 hw [] n0 _ X92.size a91 a92 xx xy [] H94) (hw _ (List.mem_of_getElem? (i := 5) rfl)) (hw _ (List.mem_of_getElem? (i := 6) rfl)) (hw _ (List.mem_of_getElem? (i := 7) rfl)) (hw _ (List.mem_of_getElem? (i := 8) rfl)) (by decide) 0 (by decide) (by decide) rfl [(.ref a91), (.ref a92)] rfl pd_2 rfl rfl (Nat.le_of_eq rfl) 3 18 rfl rfl (by decide) (by decide) 35 rfl ?_
    rintro _ T93 h93 X93 ⟨a93, rfl, H93⟩
    replace H93 : OL n0 h93 ((a93, OA Z .boolean [(f_bit xx (0 : Int32)), (f_bit xx (1 : Int32)), (f_bit xx (2 : Int32)), (f_bit xy (3 : Int32)), (f_bit xy (4 : Int32)), (f_bit xy (5 : Int32))]) :: (a91, OA Z .boolean [(f_bit xx (0 : Int32)), (f_bit xx (1 : Int32)), (f_bit xx (2 : Int32)), (f_bit xx (3 : Int32)), (f_bit xx (4 : Int32)), (f_bit xx (5 : Int32))]) :: (a92, OA Z .boolean [(f_bit xy (0 : Int32)), (f_bit xy (1 : Int32)), (f_bit xy (2 : Int32)), (f_bit xy (3 : Int32)), (f_bit xy (4 : Int32)), (f_bit xy (5 : Int32))]) :: []) := H93
    show OE p e room_1 below s n0 Q' T93 (mkF m 35 #[.val (.int xl), .val (.int xx), .val (.int xy), .val (.int (6 : Int32)), .val (.ref a91), .val (.ref a92), .unset, .unset] [(.ref a93)])
    refine o_astore X93 at_35 rfl #[.val (.int xl), .val (.int xx), .val (.int xy), .val (.int (6 : Int32)), .val (.ref a91), .val (.ref a92), .val (.ref a93), .unset] rfl 37 rfl ?_
    refine o_aload X93 at_37 rfl rfl 39 rfl ?_
    refine o_ifnullR X93 at_39 42 rfl ?_
    refine o_aload X93 at_42 rfl rfl 44 rfl ?_
    refine o_aload X93 at_44 rfl rfl 46 rfl ?_
    refine o_acmpEqN X93 at_46 (H93.ne (i := 0) (j := 1) rfl rfl (by decide)) 49 rfl ?_
    refine o_aload X93 at_49 rfl rfl 51 rfl ?_
    refine o_aload X93 at_51 rfl rfl 53 rfl ?_
    refine o_acmpNeY X93 at_53 (H93.ne (i := 0) (j := 2) rfl rfl (by decide)) 58 (by decide) (by decide) ?_
    refine o_aload X93 at_58 rfl rfl 60 rfl ?_
    refine o_arraylength X93 H93 0 rfl at_60 (6 : Int32) rfl 61 rfl ?_
    refine o_iloadN X93 at_61 rfl 62 rfl ?_
    refine o_icmpEq X93 at_62 67 65 (by decide) (by decide) rfl ?_ (fun q => by exfalso; exact absurd q (by decide))
    intro hc62
    refine o_aload X93 at_67 rfl rfl 69 rfl ?_
    refine o_iconst (v := (0 : Int32)) X93 at_69 rfl 70 rfl ?_
    refine o_iloadN X93 at_70 rfl 71 rfl ?_
    refine o_iloadN X93 at_71 rfl 72 rfl ?_
    refine o_iloadN X93 at_72 rfl 73 rfl ?_
    refine o_callS X93 at_73 (rest := []) (c_at_6_0 l Z a0 hw [] n0 _ X93.size a93 xx xy ((a91, OA Z .boolean [(f_bit xx (0 : Int32)), (f_bit xx (1 : Int32)), (f_bit xx (2 : Int32)), (f_bit xx (3 : Int32)), (f_bit xx (4 : Int32)), (f_bit xx (5 : Int32))]) :: (a92, OA Z .boolean [(f_bit xy (0 : Int32)), (f_bit xy (1 : Int32)), (f_bit xy (2 : Int32)), (f_bit xy (3 : Int32)), (f_bit xy (4 : Int32)), (f_bit xy (5 : Int32))]) :: []) H93) (hw _ (List.mem_of_getElem? (i := 22) rfl)) (hw _ (List.mem_of_getElem? (i := 23) rfl)) (hw _ (List.mem_of_getElem? (i := 2) rfl)) (hw _ (List.mem_of_getElem? (i := 24) rfl)) (by decide) 0 (by decide) (by decide) rfl [(.ref a93), (.int (0 : Int32)), (.int (6 : Int32)), (.int xx), (.int xy)] rfl pd_3 rfl rfl (Nat.le_of_eq rfl) 3 18 rfl rfl (by decide) (by decide) 76 rfl ?_
    rintro _ T95 _ X95 ⟨rfl, rfl⟩
    show OE p e room_1 below s n0 Q' T95 (mkF m 76 #[.val (.int xl), .val (.int xx), .val (.int xy), .val (.int (6 : Int32)), .val (.ref a91), .val (.ref a92), .val (.ref a93), .unset] [(.int (1 : Int32))])
    refine o_ifEq X95 at_76 156 79 (by decide) (by decide) rfl (fun q => by exfalso; exact absurd q (by decide)) ?_
    intro hc76
    refine o_aload X95 at_79 rfl rfl 81 rfl ?_
    refine o_iconst (v := (1 : Int32)) X95 at_81 rfl 82 rfl ?_
    refine o_iloadN X95 at_82 rfl 83 rfl ?_
    refine o_iloadN X95 at_83 rfl 84 rfl ?_
    refine o_iloadN X95 at_84 rfl 85 rfl ?_
    refine o_callS X95 at_85 (rest := []) (c_at_6_1 l Z a0 hw [] n0 _ X95.size a93 xx xy ((a91, OA Z .boolean [(f_bit xx (0 : Int32)), (f_bit xx (1 : Int32)), (f_bit xx (2 : Int32)), (f_bit xx (3 : Int32)), (f_bit xx (4 : Int32)), (f_bit xx (5 : Int32))]) :: (a92, OA Z .boolean [(f_bit xy (0 : Int32)), (f_bit xy (1 : Int32)), (f_bit xy (2 : Int32)), (f_bit xy (3 : Int32)), (f_bit xy (4 : Int32)), (f_bit xy (5 : Int32))]) :: []) H93) (hw _ (List.mem_of_getElem? (i := 22) rfl)) (hw _ (List.mem_of_getElem? (i := 23) rfl)) (hw _ (List.mem_of_getElem? (i := 2) rfl)) (hw _ (List.mem_of_getElem? (i := 24) rfl)) (by decide) 0 (by decide) (by decide) rfl [(.ref a93), (.int (1 : Int32)), (.int (6 : Int32)), (.int xx), (.int xy)] rfl pd_3 rfl rfl (Nat.le_of_eq rfl) 3 18 rfl rfl (by decide) (by decide) 88 rfl ?_
    rintro _ T96 _ X96 ⟨rfl, rfl⟩
    show OE p e room_1 below s n0 Q' T96 (mkF m 88 #[.val (.int xl), .val (.int xx), .val (.int xy), .val (.int (6 : Int32)), .val (.ref a91), .val (.ref a92), .val (.ref a93), .unset] [(.int (1 : Int32))])
    refine o_ifEq X96 at_88 156 91 (by decide) (by decide) rfl (fun q => by exfalso; exact absurd q (by decide)) ?_
    intro hc88
    refine o_aload X96 at_91 rfl rfl 93 rfl ?_
    refine o_iconst (v := (2 : Int32)) X96 at_93 rfl 94 rfl ?_
    refine o_iloadN X96 at_94 rfl 95 rfl ?_
    refine o_iloadN X96 at_95 rfl 96 rfl ?_
    refine o_iloadN X96 at_96 rfl 97 rfl ?_
    refine o_callS X96 at_97 (rest := []) (c_at_6_2 l Z a0 hw [] n0 _ X96.size a93 xx xy ((a91, OA Z .boolean [(f_bit xx (0 : Int32)), (f_bit xx (1 : Int32)), (f_bit xx (2 : Int32)), (f_bit xx (3 : Int32)), (f_bit xx (4 : Int32)), (f_bit xx (5 : Int32))]) :: (a92, OA Z .boolean [(f_bit xy (0 : Int32)), (f_bit xy (1 : Int32)), (f_bit xy (2 : Int32)), (f_bit xy (3 : Int32)), (f_bit xy (4 : Int32)), (f_bit xy (5 : Int32))]) :: []) H93) (hw _ (List.mem_of_getElem? (i := 22) rfl)) (hw _ (List.mem_of_getElem? (i := 23) rfl)) (hw _ (List.mem_of_getElem? (i := 2) rfl)) (hw _ (List.mem_of_getElem? (i := 24) rfl)) (by decide) 0 (by decide) (by decide) rfl [(.ref a93), (.int (2 : Int32)), (.int (6 : Int32)), (.int xx), (.int xy)] rfl pd_3 rfl rfl (Nat.le_of_eq rfl) 3 18 rfl rfl (by decide) (by decide) 100 rfl ?_
    rintro _ T97 _ X97 ⟨rfl, rfl⟩
    show OE p e room_1 below s n0 Q' T97 (mkF m 100 #[.val (.int xl), .val (.int xx), .val (.int xy), .val (.int (6 : Int32)), .val (.ref a91), .val (.ref a92), .val (.ref a93), .unset] [(.int (1 : Int32))])
    refine o_ifEq X97 at_100 156 103 (by decide) (by decide) rfl (fun q => by exfalso; exact absurd q (by decide)) ?_
    intro hc100
    refine o_aload X97 at_103 rfl rfl 105 rfl ?_
    refine o_iconst (v := (3 : Int32)) X97 at_105 rfl 106 rfl ?_
    refine o_iloadN X97 at_106 rfl 107 rfl ?_
    refine o_iloadN X97 at_107 rfl 108 rfl ?_
    refine o_iloadN X97 at_108 rfl 109 rfl ?_
    refine o_callS X97 at_109 (rest := []) (c_at_6_3 l Z a0 hw [] n0 _ X97.size a93 xx xy ((a91, OA Z .boolean [(f_bit xx (0 : Int32)), (f_bit xx (1 : Int32)), (f_bit xx (2 : Int32)), (f_bit xx (3 : Int32)), (f_bit xx (4 : Int32)), (f_bit xx (5 : Int32))]) :: (a92, OA Z .boolean [(f_bit xy (0 : Int32)), (f_bit xy (1 : Int32)), (f_bit xy (2 : Int32)), (f_bit xy (3 : Int32)), (f_bit xy (4 : Int32)), (f_bit xy (5 : Int32))]) :: []) H93) (hw _ (List.mem_of_getElem? (i := 22) rfl)) (hw _ (List.mem_of_getElem? (i := 23) rfl)) (hw _ (List.mem_of_getElem? (i := 2) rfl)) (hw _ (List.mem_of_getElem? (i := 24) rfl)) (by decide) 0 (by decide) (by decide) rfl [(.ref a93), (.int (3 : Int32)), (.int (6 : Int32)), (.int xx), (.int xy)] rfl pd_3 rfl rfl (Nat.le_of_eq rfl) 3 18 rfl rfl (by decide) (by decide) 112 rfl ?_
    rintro _ T98 _ X98 ⟨rfl, rfl⟩
    show OE p e room_1 below s n0 Q' T98 (mkF m 112 #[.val (.int xl), .val (.int xx), .val (.int xy), .val (.int (6 : Int32)), .val (.ref a91), .val (.ref a92), .val (.ref a93), .unset] [(.int (1 : Int32))])
    refine o_ifEq X98 at_112 156 115 (by decide) (by decide) rfl (fun q => by exfalso; exact absurd q (by decide)) ?_
    intro hc112
    refine o_aload X98 at_115 rfl rfl 117 rfl ?_
    refine o_iconst (v := (4 : Int32)) X98 at_117 rfl 118 rfl ?_
    refine o_iloadN X98 at_118 rfl 119 rfl ?_
    refine o_iloadN X98 at_119 rfl 120 rfl ?_
    refine o_iloadN X98 at_120 rfl 121 rfl ?_
    refine o_callS X98 at_121 (rest := []) (c_at_6_4 l Z a0 hw [] n0 _ X98.size a93 xx xy ((a91, OA Z .boolean [(f_bit xx (0 : Int32)), (f_bit xx (1 : Int32)), (f_bit xx (2 : Int32)), (f_bit xx (3 : Int32)), (f_bit xx (4 : Int32)), (f_bit xx (5 : Int32))]) :: (a92, OA Z .boolean [(f_bit xy (0 : Int32)), (f_bit xy (1 : Int32)), (f_bit xy (2 : Int32)), (f_bit xy (3 : Int32)), (f_bit xy (4 : Int32)), (f_bit xy (5 : Int32))]) :: []) H93) (hw _ (List.mem_of_getElem? (i := 22) rfl)) (hw _ (List.mem_of_getElem? (i := 23) rfl)) (hw _ (List.mem_of_getElem? (i := 2) rfl)) (hw _ (List.mem_of_getElem? (i := 24) rfl)) (by decide) 0 (by decide) (by decide) rfl [(.ref a93), (.int (4 : Int32)), (.int (6 : Int32)), (.int xx), (.int xy)] rfl pd_3 rfl rfl (Nat.le_of_eq rfl) 3 18 rfl rfl (by decide) (by decide) 124 rfl ?_
    rintro _ T99 _ X99 ⟨rfl, rfl⟩
    show OE p e room_1 below s n0 Q' T99 (mkF m 124 #[.val (.int xl), .val (.int xx), .val (.int xy), .val (.int (6 : Int32)), .val (.ref a91), .val (.ref a92), .val (.ref a93), .unset] [(.int (1 : Int32))])
    refine o_ifEq X99 at_124 156 127 (by decide) (by decide) rfl (fun q => by exfalso; exact absurd q (by decide)) ?_
    intro hc124
    refine o_aload X99 at_127 rfl rfl 129 rfl ?_
    refine o_iconst (v := (5 : Int32)) X99 at_129 rfl 130 rfl ?_
    refine o_iloadN X99 at_130 rfl 131 rfl ?_
    refine o_iloadN X99 at_131 rfl 132 rfl ?_
    refine o_iloadN X99 at_132 rfl 133 rfl ?_
    refine o_callS X99 at_133 (rest := []) (c_at_6_5 l Z a0 hw [] n0 _ X99.size a93 xx xy ((a91, OA Z .boolean [(f_bit xx (0 : Int32)), (f_bit xx (1 : Int32)), (f_bit xx (2 : Int32)), (f_bit xx (3 : Int32)), (f_bit xx (4 : Int32)), (f_bit xx (5 : Int32))]) :: (a92, OA Z .boolean [(f_bit xy (0 : Int32)), (f_bit xy (1 : Int32)), (f_bit xy (2 : Int32)), (f_bit xy (3 : Int32)), (f_bit xy (4 : Int32)), (f_bit xy (5 : Int32))]) :: []) H93) (hw _ (List.mem_of_getElem? (i := 22) rfl)) (hw _ (List.mem_of_getElem? (i := 23) rfl)) (hw _ (List.mem_of_getElem? (i := 2) rfl)) (hw _ (List.mem_of_getElem? (i := 24) rfl)) (by decide) 0 (by decide) (by decide) rfl [(.ref a93), (.int (5 : Int32)), (.int (6 : Int32)), (.int xx), (.int xy)] rfl pd_3 rfl rfl (Nat.le_of_eq rfl) 3 18 rfl rfl (by decide) (by decide) 136 rfl ?_
    rintro _ T100 _ X100 ⟨rfl, rfl⟩
    show OE p e room_1 below s n0 Q' T100 (mkF m 136 #[.val (.int xl), .val (.int xx), .val (.int xy), .val (.int (6 : Int32)), .val (.ref a91), .val (.ref a92), .val (.ref a93), .unset] [(.int (1 : Int32))])
    refine o_ifEq X100 at_136 156 139 (by decide) (by decide) rfl (fun q => by exfalso; exact absurd q (by decide)) ?_
    intro hc136
    refine o_aload X100 at_139 rfl rfl 141 rfl ?_
    refine o_bipush (v := (6 : Int32)) X100 at_141 rfl 143 rfl ?_
    refine o_iloadN X100 at_143 rfl 144 rfl ?_
    refine o_iloadN X100 at_144 rfl 145 rfl ?_
    refine o_iloadN X100 at_145 rfl 146 rfl ?_
    refine o_callS X100 at_146 (rest := []) (c_at_6_6 l Z a0 hw [] n0 _ X100.size a93 xx xy ((a91, OA Z .boolean [(f_bit xx (0 : Int32)), (f_bit xx (1 : Int32)), (f_bit xx (2 : Int32)), (f_bit xx (3 : Int32)), (f_bit xx (4 : Int32)), (f_bit xx (5 : Int32))]) :: (a92, OA Z .boolean [(f_bit xy (0 : Int32)), (f_bit xy (1 : Int32)), (f_bit xy (2 : Int32)), (f_bit xy (3 : Int32)), (f_bit xy (4 : Int32)), (f_bit xy (5 : Int32))]) :: []) H93) (hw _ (List.mem_of_getElem? (i := 22) rfl)) (hw _ (List.mem_of_getElem? (i := 23) rfl)) (hw _ (List.mem_of_getElem? (i := 2) rfl)) (hw _ (List.mem_of_getElem? (i := 24) rfl)) (by decide) 0 (by decide) (by decide) rfl [(.ref a93), (.int (6 : Int32)), (.int (6 : Int32)), (.int xx), (.int xy)] rfl pd_3 rfl rfl (Nat.le_of_eq rfl) 3 18 rfl rfl (by decide) (by decide) 149 rfl ?_
    rintro _ T101 _ X101 ⟨rfl, rfl⟩
    show OE p e room_1 below s n0 Q' T101 (mkF m 149 #[.val (.int xl), .val (.int xx), .val (.int xy), .val (.int (6 : Int32)), .val (.ref a91), .val (.ref a92), .val (.ref a93), .unset] [(.int (1 : Int32))])
    refine o_ifEq X101 at_149 156 152 (by decide) (by decide) rfl (fun q => by exfalso; exact absurd q (by decide)) ?_
    intro hc149
    refine o_iconst (v := (1 : Int32)) X101 at_152 rfl 153 rfl ?_
    refine o_goto X101 at_153 157 (by decide) (by decide) ?_
    refine o_istore X101 at_157 #[.val (.int xl), .val (.int xx), .val (.int xy), .val (.int (6 : Int32)), .val (.ref a91), .val (.ref a92), .val (.ref a93), .val (.int (1 : Int32))] rfl 159 rfl ?_
    refine o_iload X101 at_159 rfl 161 rfl ?_
    refine o_ifEq X101 at_161 188 164 (by decide) (by decide) rfl (fun q => by exfalso; exact absurd q (by decide)) ?_
    intro hc161
    refine o_aload X101 at_164 rfl rfl 166 rfl ?_
    refine o_iloadN X101 at_166 rfl 167 rfl ?_
    refine o_iloadN X101 at_167 rfl 168 rfl ?_
    have H103 : OL n0 h93 ((a91, OA Z .boolean [(f_bit xx (0 : Int32)), (f_bit xx (1 : Int32)), (f_bit xx (2 : Int32)), (f_bit xx (3 : Int32)), (f_bit xx (4 : Int32)), (f_bit xx (5 : Int32))]) :: (a93, OA Z .boolean [(f_bit xx (0 : Int32)), (f_bit xx (1 : Int32)), (f_bit xx (2 : Int32)), (f_bit xy (3 : Int32)), (f_bit xy (4 : Int32)), (f_bit xy (5 : Int32))]) :: (a92, OA Z .boolean [(f_bit xy (0 : Int32)), (f_bit xy (1 : Int32)), (f_bit xy (2 : Int32)), (f_bit xy (3 : Int32)), (f_bit xy (4 : Int32)), (f_bit xy (5 : Int32))]) :: []) := H93.front 1 rfl
    refine o_callS X101 at_168 (rest := []) (c_all_6 l Z a0 hw [] n0 _ X101.size a91 xx ((a93, OA Z .boolean [(f_bit xx (0 : Int32)), (f_bit xx (1 : Int32)), (f_bit xx (2 : Int32)), (f_bit xy (3 : Int32)), (f_bit xy (4 : Int32)), (f_bit xy (5 : Int32))]) :: (a92, OA Z .boolean [(f_bit xy (0 : Int32)), (f_bit xy (1 : Int32)), (f_bit xy (2 : Int32)), (f_bit xy (3 : Int32)), (f_bit xy (4 : Int32)), (f_bit xy (5 : Int32))]) :: []) H103) (hw _ (List.mem_of_getElem? (i := 25) rfl)) (hw _ (List.mem_of_getElem? (i := 26) rfl)) (hw _ (List.mem_of_getElem? (i := 2) rfl)) (hw _ (List.mem_of_getElem? (i := 27) rfl)) (by decide) 0 (by decide) (by decide) rfl [(.ref a91), (.int (6 : Int32)), (.int xx)] rfl pd_4 rfl rfl (Nat.le_of_eq rfl) 3 18 rfl rfl (by decide) (by decide) 171 rfl ?_
    rintro _ T102 _ X102 ⟨rfl, rfl⟩
    show OE p e room_1 below s n0 Q' T102 (mkF m 171 #[.val (.int xl), .val (.int xx), .val (.int xy), .val (.int (6 : Int32)), .val (.ref a91), .val (.ref a92), .val (.ref a93), .val (.int (1 : Int32))] [(.int (1 : Int32))])
    refine o_ifEq X102 at_171 188 174 (by decide) (by decide) rfl (fun q => by exfalso; exact absurd q (by decide)) ?_
    intro hc171
    refine o_aload X102 at_174 rfl rfl 176 rfl ?_
    refine o_iloadN X102 at_176 rfl 177 rfl ?_
    refine o_iloadN X102 at_177 rfl 178 rfl ?_
    have H105 : OL n0 h93 ((a92, OA Z .boolean [(f_bit xy (0 : Int32)), (f_bit xy (1 : Int32)), (f_bit xy (2 : Int32)), (f_bit xy (3 : Int32)), (f_bit xy (4 : Int32)), (f_bit xy (5 : Int32))]) :: (a91, OA Z .boolean [(f_bit xx (0 : Int32)), (f_bit xx (1 : Int32)), (f_bit xx (2 : Int32)), (f_bit xx (3 : Int32)), (f_bit xx (4 : Int32)), (f_bit xx (5 : Int32))]) :: (a93, OA Z .boolean [(f_bit xx (0 : Int32)), (f_bit xx (1 : Int32)), (f_bit xx (2 : Int32)), (f_bit xy (3 : Int32)), (f_bit xy (4 : Int32)), (f_bit xy (5 : Int32))]) :: []) := H103.front 2 rfl
    refine o_callS X102 at_178 (rest := []) (c_all_6 l Z a0 hw [] n0 _ X102.size a92 xy ((a91, OA Z .boolean [(f_bit xx (0 : Int32)), (f_bit xx (1 : Int32)), (f_bit xx (2 : Int32)), (f_bit xx (3 : Int32)), (f_bit xx (4 : Int32)), (f_bit xx (5 : Int32))]) :: (a93, OA Z .boolean [(f_bit xx (0 : Int32)), (f_bit xx (1 : Int32)), (f_bit xx (2 : Int32)), (f_bit xy (3 : Int32)), (f_bit xy (4 : Int32)), (f_bit xy (5 : Int32))]) :: []) H105) (hw _ (List.mem_of_getElem? (i := 25) rfl)) (hw _ (List.mem_of_getElem? (i := 26) rfl)) (hw _ (List.mem_of_getElem? (i := 2) rfl)) (hw _ (List.mem_of_getElem? (i := 27) rfl)) (by decide) 0 (by decide) (by decide) rfl [(.ref a92), (.int (6 : Int32)), (.int xy)] rfl pd_4 rfl rfl (Nat.le_of_eq rfl) 3 18 rfl rfl (by decide) (by decide) 181 rfl ?_
    rintro _ T104 _ X104 ⟨rfl, rfl⟩
    show OE p e room_1 below s n0 Q' T104 (mkF m 181 #[.val (.int xl), .val (.int xx), .val (.int xy), .val (.int (6 : Int32)), .val (.ref a91), .val (.ref a92), .val (.ref a93), .val (.int (1 : Int32))] [(.int (1 : Int32))])
    refine o_ifEq X104 at_181 188 184 (by decide) (by decide) rfl (fun q => by exfalso; exact absurd q (by decide)) ?_
    intro hc181
    refine o_iconst (v := (1 : Int32)) X104 at_184 rfl 185 rfl ?_
    refine o_goto X104 at_185 189 (by decide) (by decide) ?_
    exact o_retZ X104 at_189 (by decide) (by decide) (hQ _ _ rfl)
  · rw [hv]
    refine o_iloadN X0 at_5 rfl 6 rfl ?_
    refine o_bipush (v := (7 : Int32)) X0 at_6 rfl 8 rfl ?_
    refine o_icmpNe X0 at_8 14 11 (by decide) (by decide) rfl (fun q => by exfalso; exact absurd q (by decide)) ?_
    intro hc8
    refine o_bipush (v := (7 : Int32)) X0 at_11 rfl 13 rfl ?_
    refine o_istoreN X0 at_13 #[.val (.int xl), .val (.int xx), .val (.int xy), .val (.int (7 : Int32)), .unset, .unset, .unset, .unset] rfl 14 rfl ?_
    refine o_iloadN X0 at_14 rfl 15 rfl ?_
    refine o_iloadN X0 at_15 rfl 16 rfl ?_
    refine o_callS X0 at_16 (rest := []) (c_make_7 l Z a0 hw [] n0 _ X0.size xx [] OL.nil) (hw _ (List.mem_of_getElem? (i := 0) rfl)) (hw _ (List.mem_of_getElem? (i := 1) rfl)) (hw _ (List.mem_of_getElem? (i := 2) rfl)) (hw _ (List.mem_of_getElem? (i := 3) rfl)) (by decide) 0 (by decide) (by decide) rfl [(.int xx), (.int (7 : Int32))] rfl pd_1 rfl rfl (Nat.le_of_eq rfl) 1 7 rfl rfl (by decide) (by decide) 19 rfl ?_
    rintro _ T106 h106 X106 ⟨a106, rfl, H106⟩
    replace H106 : OL n0 h106 ((a106, OA Z .boolean [(f_bit xx (0 : Int32)), (f_bit xx (1 : Int32)), (f_bit xx (2 : Int32)), (f_bit xx (3 : Int32)), (f_bit xx (4 : Int32)), (f_bit xx (5 : Int32)), (f_bit xx (6 : Int32))]) :: []) := H106
    show OE p e room_1 below s n0 Q' T106 (mkF m 19 #[.val (.int xl), .val (.int xx), .val (.int xy), .val (.int (7 : Int32)), .unset, .unset, .unset, .unset] [(.ref a106)])
    refine o_astore X106 at_19 rfl #[.val (.int xl), .val (.int xx), .val (.int xy), .val (.int (7 : Int32)), .val (.ref a106), .unset, .unset, .unset] rfl 21 rfl ?_
    refine o_iloadN X106 at_21 rfl 22 rfl ?_
    refine o_iloadN X106 at_22 rfl 23 rfl ?_
    refine o_callS X106 at_23 (rest := []) (c_make_7 l Z a0 hw [] n0 _ X106.size xy ((a106, OA Z .boolean [(f_bit xx (0 : Int32)), (f_bit xx (1 : Int32)), (f_bit xx (2 : Int32)), (f_bit xx (3 : Int32)), (f_bit xx (4 : Int32)), (f_bit xx (5 : Int32)), (f_bit xx (6 : Int32))]) :: []) H106) (hw _ (List.mem_of_getElem? (i := 0) rfl)) (hw _ (List.mem_of_getElem? (i := 1) rfl)) (hw _ (List.mem_of_getElem? (i := 2) rfl)) (hw _ (List.mem_of_getElem? (i := 3) rfl)) (by decide) 0 (by decide) (by decide) rfl [(.int xy), (.int (7 : Int32))] rfl pd_1 rfl rfl (Nat.le_of_eq rfl) 2 14 rfl rfl (by decide) (by decide) 26 rfl ?_
    rintro _ T107 h107 X107 ⟨a107, rfl, H107⟩
    replace H107 : OL n0 h107 ((a107, OA Z .boolean [(f_bit xy (0 : Int32)), (f_bit xy (1 : Int32)), (f_bit xy (2 : Int32)), (f_bit xy (3 : Int32)), (f_bit xy (4 : Int32)), (f_bit xy (5 : Int32)), (f_bit xy (6 : Int32))]) :: (a106, OA Z .boolean [(f_bit xx (0 : Int32)), (f_bit xx (1 : Int32)), (f_bit xx (2 : Int32)), (f_bit xx (3 : Int32)), (f_bit xx (4 : Int32)), (f_bit xx (5 : Int32)), (f_bit xx (6 : Int32))]) :: []) := H107
    show OE p e room_1 below s n0 Q' T107 (mkF m 26 #[.val (.int xl), .val (.int xx), .val (.int xy), .val (.int (7 : Int32)), .val (.ref a106), .unset, .unset, .unset] [(.ref a107)])
    refine o_astore X107 at_26 rfl #[.val (.int xl), .val (.int xx), .val (.int xy), .val (.int (7 : Int32)), .val (.ref a106), .val (.ref a107), .unset, .unset] rfl 28 rfl ?_
    refine o_aload X107 at_28 rfl rfl 30 rfl ?_
    refine o_aload X107 at_30 rfl rfl 32 rfl ?_
    have H109 : OL n0 h107 ((a106, OA Z .boolean [(f_bit xx (0 : Int32)), (f_bit xx (1 : Int32)), (f_bit xx (2 : Int32)), (f_bit xx (3 : Int32)), (f_bit xx (4 : Int32)), (f_bit xx (5 : Int32)), (f_bit xx (6 : Int32))]) :: (a107, OA Z .boolean [(f_bit xy (0 : Int32)), (f_bit xy (1 : Int32)), (f_bit xy (2 : Int32)), (f_bit xy (3 : Int32)), (f_bit xy (4 : Int32)), (f_bit xy (5 : Int32)), (f_bit xy (6 : Int32))]) :: []) := H107.front 1 rfl
    refine o_callS X107 at_32 (rest := []) (c_halves_7 l Z a0 hw [] n0 _ X107.size a106 a107 xx xy [] H109) (hw _ (List.mem_of_getElem? (i := 5) rfl)) (hw _ (List.mem_of_getElem? (i := 6) rfl)) (hw _ (List.mem_of_getElem? (i := 7) rfl)) (hw _ (List.mem_of_getElem? (i := 8) rfl)) (by decide) 0 (by decide) (by decide) rfl [(.ref a106), (.ref a107)] rfl pd_2 rfl rfl (Nat.le_of_eq rfl) 3 21 rfl rfl (by decide) (by decide) 35 rfl ?_
    rintro _ T108 h108 X108 ⟨a108, rfl, H108⟩
    replace H108 : OL n0 h108 ((a108, OA Z .boolean [(f_bit xx (0 : Int32)), (f_bit xx (1 : Int32)), (f_bit xx (2 : Int32)), (f_bit xy (3 : Int32)), (f_bit xy (4 : Int32)), (f_bit xy (5 : Int32)), (f_bit xy (6 : Int32))]) :: (a106, OA Z .boolean [(f_bit xx (0 : Int32)), (f_bit xx (1 : Int32)), (f_bit xx (2 : Int32)), (f_bit xx (3 : Int32)), (f_bit xx (4 : Int32)), (f_bit xx (5 : Int32)), (f_bit xx (6 : Int32))]) :: (a107, OA Z .boolean [(f_bit xy (0 : Int32)), (f_bit xy (1 : Int32)), (f_bit xy (2 : Int32)), (f_bit xy (3 : Int32)), (f_bit xy (4 : Int32)), (f_bit xy (5 : Int32)), (f_bit xy (6 : Int32))]) :: []) := H108
    show OE p e room_1 below s n0 Q' T108 (mkF m 35 #[.val (.int xl), .val (.int xx), .val (.int xy), .val (.int (7 : Int32)), .val (.ref a106), .val (.ref a107), .unset, .unset] [(.ref a108)])
    refine o_astore X108 at_35 rfl #[.val (.int xl), .val (.int xx), .val (.int xy), .val (.int (7 : Int32)), .val (.ref a106), .val (.ref a107), .val (.ref a108), .unset] rfl 37 rfl ?_
    refine o_aload X108 at_37 rfl rfl 39 rfl ?_
    refine o_ifnullR X108 at_39 42 rfl ?_
    refine o_aload X108 at_42 rfl rfl 44 rfl ?_
    refine o_aload X108 at_44 rfl rfl 46 rfl ?_
    refine o_acmpEqN X108 at_46 (H108.ne (i := 0) (j := 1) rfl rfl (by decide)) 49 rfl ?_
    refine o_aload X108 at_49 rfl rfl 51 rfl ?_
    refine o_aload X108 at_51 rfl rfl 53 rfl ?_
    refine o_acmpNeY X108 at_53 (H108.ne (i := 0) (j := 2) rfl rfl (by decide)) 58 (by decide) (by decide) ?_
    refine o_aload X108 at_58 rfl rfl 60 rfl ?_
    refine o_arraylength X108 H108 0 rfl at_60 (7 : Int32) rfl 61 rfl ?_
    refine o_iloadN X108 at_61 rfl 62 rfl ?_
    refine o_icmpEq X108 at_62 67 65 (by decide) (by decide) rfl ?_ (fun q => by exfalso; exact absurd q (by decide))
    intro hc62
    refine o_aload X108 at_67 rfl rfl 69 rfl ?_
    refine o_iconst (v := (0 : Int32)) X108 at_69 rfl 70 rfl ?_
    refine o_iloadN X108 at_70 rfl 71 rfl ?_
    refine o_iloadN X108 at_71 rfl 72 rfl ?_
    refine o_iloadN X108 at_72 rfl 73 rfl ?_
    refine o_callS X108 at_73 (rest := []) (c_at_7_0 l Z a0 hw [] n0 _ X108.size a108 xx xy ((a106, OA Z .boolean [(f_bit xx (0 : Int32)), (f_bit xx (1 : Int32)), (f_bit xx (2 : Int32)), (f_bit xx (3 : Int32)), (f_bit xx (4 : Int32)), (f_bit xx (5 : Int32)), (f_bit xx (6 : Int32))]) :: (a107, OA Z .boolean [(f_bit xy (0 : Int32)), (f_bit xy (1 : Int32)), (f_bit xy (2 : Int32)), (f_bit xy (3 : Int32)), (f_bit xy (4 : Int32)), (f_bit xy (5 : Int32)), (f_bit xy (6 : Int32))]) :: []) H108) (hw _ (List.mem_of_getElem? (i := 22) rfl)) (hw _ (List.mem_of_getElem? (i := 23) rfl)) (hw _ (List.mem_of_getElem? (i := 2) rfl)) (hw _ (List.mem_of_getElem? (i := 24) rfl)) (by decide) 0 (by decide) (by decide) rfl [(.ref a108), (.int (0 : Int32)), (.int (7 : Int32)), (.int xx), (.int xy)] rfl pd_3 rfl rfl (Nat.le_of_eq rfl) 3 21 rfl rfl (by decide) (by decide) 76 rfl ?_
    rintro _ T110 _ X110 ⟨rfl, rfl⟩
    show OE p e room_1 below s n0 Q' T110 (mkF m 76 #[.val (.int xl), .val (.int xx), .val (.int xy), .val (.int (7 : Int32)), .val (.ref a106), .val (.ref a107), .val (.ref a108), .unset] [(.int (1 : Int32))])
    refine o_ifEq X110 at_76 156 79 (by decide) (by decide) rfl (fun q => by exfalso; exact absurd q (by decide)) ?_
    intro hc76
    refine o_aload X110 at_79 rfl rfl 81 rfl ?_
    refine o_iconst (v := (1 : Int32)) X110 at_81 rfl 82 rfl ?_
    refine o_iloadN X110 at_82 rfl 83 rfl ?_
    refine o_iloadN X110 at_83 rfl 84 rfl ?_
    refine o_iloadN X110 at_84 rfl 85 rfl ?_
    refine o_callS X110 at_85 (rest := []) (c_at_7_1 l Z a0 hw [] n0 _ X110.size a108 xx xy ((a106, OA Z .boolean [(f_bit xx (0 : Int32)), (f_bit xx (1 : Int32)), (f_bit xx (2 : Int32)), (f_bit xx (3 : Int32)), (f_bit xx (4 : Int32)), (f_bit xx (5 : Int32)), (f_bit xx (6 : Int32))]) :: (a107, OA Z .boolean [(f_bit xy (0 : Int32)), (f_bit xy (1 : Int32)), (f_bit xy (2 : Int32)), (f_bit xy (3 : Int32)), (f_bit xy (4 : Int32)), (f_bit xy (5 : Int32)), (f_bit xy (6 : Int32))]) :: []) H108) (hw _ (List.mem_of_getElem? (i := 22) rfl)) (hw _ (List.mem_of_getElem? (i := 23) rfl)) (hw _ (List.mem_of_getElem? (i := 2) rfl)) (hw _ (List.mem_of_getElem? (i := 24) rfl)) (by decide) 0 (by decide) (by decide) rfl [(.ref a108), (.int (1 : Int32)), (.int (7 : Int32)), (.int xx), (.int xy)] rfl pd_3 rfl rfl (Nat.le_of_eq rfl) 3 21 rfl rfl (by decide) (by decide) 88 rfl ?_
    rintro _ T111 _ X111 ⟨rfl, rfl⟩
    show OE p e room_1 below s n0 Q' T111 (mkF m 88 #[.val (.int xl), .val (.int xx), .val (.int xy), .val (.int (7 : Int32)), .val (.ref a106), .val (.ref a107), .val (.ref a108), .unset] [(.int (1 : Int32))])
    refine o_ifEq X111 at_88 156 91 (by decide) (by decide) rfl (fun q => by exfalso; exact absurd q (by decide)) ?_
    intro hc88
    refine o_aload X111 at_91 rfl rfl 93 rfl ?_
    refine o_iconst (v := (2 : Int32)) X111 at_93 rfl 94 rfl ?_
    refine o_iloadN X111 at_94 rfl 95 rfl ?_
    refine o_iloadN X111 at_95 rfl 96 rfl ?_
    refine o_iloadN X111 at_96 rfl 97 rfl ?_
    refine o_callS X111 at_97 (rest := []) (c_at_7_2 l Z a0 hw [] n0 _ X111.size a108 xx xy ((a106, OA Z .boolean [(f_bit xx (0 : Int32)), (f_bit xx (1 : Int32)), (f_bit xx (2 : Int32)), (f_bit xx (3 : Int32)), (f_bit xx (4 : Int32)), (f_bit xx (5 : Int32)), (f_bit xx (6 : Int32))]) :: (a107, OA Z .boolean [(f_bit xy (0 : Int32)), (f_bit xy (1 : Int32)), (f_bit xy (2 : Int32)), (f_bit xy (3 : Int32)), (f_bit xy (4 : Int32)), (f_bit xy (5 : Int32)), (f_bit xy (6 : Int32))]) :: []) H108) (hw _ (List.mem_of_getElem? (i := 22) rfl)) (hw _ (List.mem_of_getElem? (i := 23) rfl)) (hw _ (List.mem_of_getElem? (i := 2) rfl)) (hw _ (List.mem_of_getElem? (i := 24) rfl)) (by decide) 0 (by decide) (by decide) rfl [(.ref a108), (.int (2 : Int32)), (.int (7 : Int32)), (.int xx), (.int xy)] rfl pd_3 rfl rfl (Nat.le_of_eq rfl) 3 21 rfl rfl (by decide) (by decide) 100 rfl ?_
    rintro _ T112 _ X112 ⟨rfl, rfl⟩
    show OE p e room_1 below s n0 Q' T112 (mkF m 100 #[.val (.int xl), .val (.int xx), .val (.int xy), .val (.int (7 : Int32)), .val (.ref a106), .val (.ref a107), .val (.ref a108), .unset] [(.int (1 : Int32))])
    refine o_ifEq X112 at_100 156 103 (by decide) (by decide) rfl (fun q => by exfalso; exact absurd q (by decide)) ?_
    intro hc100
    refine o_aload X112 at_103 rfl rfl 105 rfl ?_
    refine o_iconst (v := (3 : Int32)) X112 at_105 rfl 106 rfl ?_
    refine o_iloadN X112 at_106 rfl 107 rfl ?_
    refine o_iloadN X112 at_107 rfl 108 rfl ?_
    refine o_iloadN X112 at_108 rfl 109 rfl ?_
    refine o_callS X112 at_109 (rest := []) (c_at_7_3 l Z a0 hw [] n0 _ X112.size a108 xx xy ((a106, OA Z .boolean [(f_bit xx (0 : Int32)), (f_bit xx (1 : Int32)), (f_bit xx (2 : Int32)), (f_bit xx (3 : Int32)), (f_bit xx (4 : Int32)), (f_bit xx (5 : Int32)), (f_bit xx (6 : Int32))]) :: (a107, OA Z .boolean [(f_bit xy (0 : Int32)), (f_bit xy (1 : Int32)), (f_bit xy (2 : Int32)), (f_bit xy (3 : Int32)), (f_bit xy (4 : Int32)), (f_bit xy (5 : Int32)), (f_bit xy (6 : Int32))]) :: []) H108) (hw _ (List.mem_of_getElem? (i := 22) rfl)) (hw _ (List.mem_of_getElem? (i := 23) rfl)) (hw _ (List.mem_of_getElem? (i := 2) rfl)) (hw _ (List.mem_of_getElem? (i := 24) rfl)) (by decide) 0 (by decide) (by decide) rfl [(.ref a108), (.int (3 : Int32)), (.int (7 : Int32)), (.int xx), (.int xy)] rfl pd_3 rfl rfl (Nat.le_of_eq rfl) 3 21 rfl rfl (by decide) (by decide) 112 rfl ?_
    rintro _ T113 _ X113 ⟨rfl, rfl⟩
    show OE p e room_1 below s n0 Q' T113 (mkF m 112 #[.val (.int xl), .val (.int xx), .val (.int xy), .val (.int (7 : Int32)), .val (.ref a106), .val (.ref a107), .val (.ref a108), .unset] [(.int (1 : Int32))])
    refine o_ifEq X113 at_112 156 115 (by decide) (by decide) rfl (fun q => by exfalso; exact absurd q (by decide)) ?_
    intro hc112
    refine o_aload X113 at_115 rfl rfl 117 rfl ?_
    refine o_iconst (v := (4 : Int32)) X113 at_117 rfl 118 rfl ?_
    refine o_iloadN X113 at_118 rfl 119 rfl ?_
    refine o_iloadN X113 at_119 rfl 120 rfl ?_
    refine o_iloadN X113 at_120 rfl 121 rfl ?_
    refine o_callS X113 at_121 (rest := []) (c_at_7_4 l Z a0 hw [] n0 _ X113.size a108 xx xy ((a106, OA Z .boolean [(f_bit xx (0 : Int32)), (f_bit xx (1 : Int32)), (f_bit xx (2 : Int32)), (f_bit xx (3 : Int32)), (f_bit xx (4 : Int32)), (f_bit xx (5 : Int32)), (f_bit xx (6 : Int32))]) :: (a107, OA Z .boolean [(f_bit xy (0 : Int32)), (f_bit xy (1 : Int32)), (f_bit xy (2 : Int32)), (f_bit xy (3 : Int32)), (f_bit xy (4 : Int32)), (f_bit xy (5 : Int32)), (f_bit xy (6 : Int32))]) :: []) H108) (hw _ (List.mem_of_getElem? (i := 22) rfl)) (hw _ (List.mem_of_getElem? (i := 23) rfl)) (hw _ (List.mem_of_getElem? (i := 2) rfl)) (hw _ (List.mem_of_getElem? (i := 24) rfl)) (by decide) 0 (by decide) (by decide) rfl [(.ref a108), (.int (4 : Int32)), (.int (7 : Int32)), (.int xx), (.int xy)] rfl pd_3 rfl rfl (Nat.le_of_eq rfl) 3 21 rfl rfl (by decide) (by decide) 124 rfl ?_
    rintro _ T114 _ X114 ⟨rfl, rfl⟩
    show OE p e room_1 below s n0 Q' T114 (mkF m 124 #[.val (.int xl), .val (.int xx), .val (.int xy), .val (.int (7 : Int32)), .val (.ref a106), .val (.ref a107), .val (.ref a108), .unset] [(.int (1 : Int32))])
    refine o_ifEq X114 at_124 156 127 (by decide) (by decide) rfl (fun q => by exfalso; exact absurd q (by decide)) ?_
    intro hc124
    refine o_aload X114 at_127 rfl rfl 129 rfl ?_
    refine o_iconst (v := (5 : Int32)) X114 at_129 rfl 130 rfl ?_
    refine o_iloadN X114 at_130 rfl 131 rfl ?_
    refine o_iloadN X114 at_131 rfl 132 rfl ?_
    refine o_iloadN X114 at_132 rfl 133 rfl ?_
    refine o_callS X114 at_133 (rest := []) (c_at_7_5 l Z a0 hw [] n0 _ X114.size a108 xx xy ((a106, OA Z .boolean [(f_bit xx (0 : Int32)), (f_bit xx (1 : Int32)), (f_bit xx (2 : Int32)), (f_bit xx (3 : Int32)), (f_bit xx (4 : Int32)), (f_bit xx (5 : Int32)), (f_bit xx (6 : Int32))]) :: (a107, OA Z .boolean [(f_bit xy (0 : Int32)), (f_bit xy (1 : Int32)), (f_bit xy (2 : Int32)), (f_bit xy (3 : Int32)), (f_bit xy (4 : Int32)), (f_bit xy (5 : Int32)), (f_bit xy (6 : Int32))]) :: []) H108) (hw _ (List.mem_of_getElem? (i := 22) rfl)) (hw _ (List.mem_of_getElem? (i := 23) rfl)) (hw _ (List.mem_of_getElem? (i := 2) rfl)) (hw _ (List.mem_of_getElem? (i := 24) rfl)) (by decide) 0 (by decide) (by decide) rfl [(.ref a108), (.int (5 : Int32)), (.int (7 : Int32)), (.int xx), (.int xy)] rfl pd_3 rfl rfl (Nat.le_of_eq rfl) 3 21 rfl rfl (by decide) (by decide) 136 rfl ?_
    rintro _ T115 _ X115 ⟨rfl, rfl⟩
    show OE p e room_1 below s n0 Q' T115 (mkF m 136 #[.val (.int xl), .val (.int xx), .val (.int xy), .val (.int (7 : Int32)), .val (.ref a106), .val (.ref a107), .val (.ref a108), .unset] [(.int (1 : Int32))])
    refine o_ifEq X115 at_136 156 139 (by decide) (by decide) rfl (fun q => by exfalso; exact absurd q (by decide)) ?_
    intro hc136
    refine o_aload X115 at_139 rfl rfl 141 rfl ?_
    refine o_bipush (v := (6 : Int32)) X115 at_141 rfl 143 rfl ?_
    refine o_iloadN X115 at_143 rfl 144 rfl ?_
    refine o_iloadN X115 at_144 rfl 145 rfl ?_
    refine o_iloadN X115 at_145 rfl 146 rfl ?_
    refine o_callS X115 at_146 (rest := []) (c_at_7_6 l Z a0 hw [] n0 _ X115.size a108 xx xy ((a106, OA Z .boolean [(f_bit xx (0 : Int32)), (f_bit xx (1 : Int32)), (f_bit xx (2 : Int32)), (f_bit xx (3 : Int32)), (f_bit xx (4 : Int32)), (f_bit xx (5 : Int32)), (f_bit xx (6 : Int32))]) :: (a107, OA Z .boolean [(f_bit xy (0 : Int32)), (f_bit xy (1 : Int32)), (f_bit xy (2 : Int32)), (f_bit xy (3 : Int32)), (f_bit xy (4 : Int32)), (f_bit xy (5 : Int32)), (f_bit xy (6 : Int32))]) :: []) H108) (hw _ (List.mem_of_getElem? (i := 22) rfl)) (hw _ (List.mem_of_getElem? (i := 23) rfl)) (hw _ (List.mem_of_getElem? (i := 2) rfl)) (hw _ (List.mem_of_getElem? (i := 24) rfl)) (by decide) 0 (by decide) (by decide) rfl [(.ref a108), (.int (6 : Int32)), (.int (7 : Int32)), (.int xx), (.int xy)] rfl pd_3 rfl rfl (Nat.le_of_eq rfl) 3 21 rfl rfl (by decide) (by decide) 149 rfl ?_
    rintro _ T116 _ X116 ⟨rfl, rfl⟩
    show OE p e room_1 below s n0 Q' T116 (mkF m 149 #[.val (.int xl), .val (.int xx), .val (.int xy), .val (.int (7 : Int32)), .val (.ref a106), .val (.ref a107), .val (.ref a108), .unset] [(.int (1 : Int32))])
    refine o_ifEq X116 at_149 156 152 (by decide) (by decide) rfl (fun q => by exfalso; exact absurd q (by decide)) ?_
    intro hc149
    refine o_iconst (v := (1 : Int32)) X116 at_152 rfl 153 rfl ?_
    refine o_goto X116 at_153 157 (by decide) (by decide) ?_
    refine o_istore X116 at_157 #[.val (.int xl), .val (.int xx), .val (.int xy), .val (.int (7 : Int32)), .val (.ref a106), .val (.ref a107), .val (.ref a108), .val (.int (1 : Int32))] rfl 159 rfl ?_
    refine o_iload X116 at_159 rfl 161 rfl ?_
    refine o_ifEq X116 at_161 188 164 (by decide) (by decide) rfl (fun q => by exfalso; exact absurd q (by decide)) ?_
    intro hc161
    refine o_aload X116 at_164 rfl rfl 166 rfl ?_
    refine o_iloadN X116 at_166 rfl 167 rfl ?_
    refine o_iloadN X116 at_167 rfl 168 rfl ?_
    have H118 : OL n0 h108 ((a106, OA Z .boolean [(f_bit xx (0 : Int32)), (f_bit xx (1 : Int32)), (f_bit xx (2 : Int32)), (f_bit xx (3 : Int32)), (f_bit xx (4 : Int32)), (f_bit xx (5 : Int32)), (f_bit xx (6 : Int32))]) :: (a108, OA Z .boolean [(f_bit xx (0 : Int32)), (f_bit xx (1 : Int32)), (f_bit xx (2 : Int32)), (f_bit xy (3 : Int32)), (f_bit xy (4 : Int32)), (f_bit xy (5 : Int32)), (f_bit xy (6 : Int32))]) :: (a107, OA Z .boolean [(f_bit xy (0 : Int32)), (f_bit xy (1 : Int32)), (f_bit xy (2 : Int32)), (f_bit xy (3 : Int32)), (f_bit xy (4 : Int32)), (f_bit xy (5 : Int32)), (f_bit xy (6 : Int32))]) :: []) := H108.front 1 rfl
    refine o_callS X116 at_168 (rest := []) (c_all_7 l Z a0 hw [] n0 _ X116.size a106 xx ((a108, OA Z .boolean [(f_bit xx (0 : Int32)), (f_bit xx (1 : Int32)), (f_bit xx (2 : Int32)), (f_bit xy (3 : Int32)), (f_bit xy (4 : Int32)), (f_bit xy (5 : Int32)), (f_bit xy (6 : Int32))]) :: (a107, OA Z .boolean [(f_bit xy (0 : Int32)), (f_bit xy (1 : Int32)), (f_bit xy (2 : Int32)), (f_bit xy (3 : Int32)), (f_bit xy (4 : Int32)), (f_bit xy (5 : Int32)), (f_bit xy (6 : Int32))]) :: []) H118) (hw _ (List.mem_of_getElem? (i := 25) rfl)) (hw _ (List.mem_of_getElem? (i := 26) rfl)) (hw _ (List.mem_of_getElem? (i := 2) rfl)) (hw _ (List.mem_of_getElem? (i := 27) rfl)) (by decide) 0 (by decide) (by decide) rfl [(.ref a106), (.int (7 : Int32)), (.int xx)] rfl pd_4 rfl rfl (Nat.le_of_eq rfl) 3 21 rfl rfl (by decide) (by decide) 171 rfl ?_
    rintro _ T117 _ X117 ⟨rfl, rfl⟩
    show OE p e room_1 below s n0 Q' T117 (mkF m 171 #[.val (.int xl), .val (.int xx), .val (.int xy), .val (.int (7 : Int32)), .val (.ref a106), .val (.ref a107), .val (.ref a108), .val (.int (1 : Int32))] [(.int (1 : Int32))])
    refine o_ifEq X117 at_171 188 174 (by decide) (by decide) rfl (fun q => by exfalso; exact absurd q (by decide)) ?_
    intro hc171
    refine o_aload X117 at_174 rfl rfl 176 rfl ?_
    refine o_iloadN X117 at_176 rfl 177 rfl ?_
    refine o_iloadN X117 at_177 rfl 178 rfl ?_
    have H120 : OL n0 h108 ((a107, OA Z .boolean [(f_bit xy (0 : Int32)), (f_bit xy (1 : Int32)), (f_bit xy (2 : Int32)), (f_bit xy (3 : Int32)), (f_bit xy (4 : Int32)), (f_bit xy (5 : Int32)), (f_bit xy (6 : Int32))]) :: (a106, OA Z .boolean [(f_bit xx (0 : Int32)), (f_bit xx (1 : Int32)), (f_bit xx (2 : Int32)), (f_bit xx (3 : Int32)), (f_bit xx (4 : Int32)), (f_bit xx (5 : Int32)), (f_bit xx (6 : Int32))]) :: (a108, OA Z .boolean [(f_bit xx (0 : Int32)), (f_bit xx (1 : Int32)), (f_bit xx (2 : Int32)), (f_bit xy (3 : Int32)), (f_bit xy (4 : Int32)), (f_bit xy (5 : Int32)), (f_bit xy (6 : Int32))]) :: []) := H118.front 2 rfl
    refine o_callS X117 at_178 (rest := []) (c_all_7 l Z a0 hw [] n0 _ X117.size a107 xy ((a106, OA Z .boolean [(f_bit xx (0 : Int32)), (f_bit xx (1 : Int32)), (f_bit xx (2 : Int32)), (f_bit xx (3 : Int32)), (f_bit xx (4 : Int32)), (f_bit xx (5 : Int32)), (f_bit xx (6 : Int32))]) :: (a108, OA Z .boolean [(f_bit xx (0 : Int32)), (f_bit xx (1 : Int32)), (f_bit xx (2 : Int32)), (f_bit xy (3 : Int32)), (f_bit xy (4 : Int32)), (f_bit xy (5 : Int32)), (f_bit xy (6 : Int32))]) :: []) H120) (hw _ (List.mem_of_getElem? (i := 25) rfl)) (hw _ (List.mem_of_getElem? (i := 26) rfl)) (hw _ (List.mem_of_getElem? (i := 2) rfl)) (hw _ (List.mem_of_getElem? (i := 27) rfl)) (by decide) 0 (by decide) (by decide) rfl [(.ref a107), (.int (7 : Int32)), (.int xy)] rfl pd_4 rfl rfl (Nat.le_of_eq rfl) 3 21 rfl rfl (by decide) (by decide) 181 rfl ?_
    rintro _ T119 _ X119 ⟨rfl, rfl⟩
    show OE p e room_1 below s n0 Q' T119 (mkF m 181 #[.val (.int xl), .val (.int xx), .val (.int xy), .val (.int (7 : Int32)), .val (.ref a106), .val (.ref a107), .val (.ref a108), .val (.int (1 : Int32))] [(.int (1 : Int32))])
    refine o_ifEq X119 at_181 188 184 (by decide) (by decide) rfl (fun q => by exfalso; exact absurd q (by decide)) ?_
    intro hc181
    refine o_iconst (v := (1 : Int32)) X119 at_184 rfl 185 rfl ?_
    refine o_goto X119 at_185 189 (by decide) (by decide) ?_
    exact o_retZ X119 at_189 (by decide) (by decide) (hQ _ _ rfl)
set_option maxRecDepth 65536 in
set_option maxHeartbeats 40000000 in
theorem comes_1 {Post : Tables → Env → Array Value → State → Outcome → State → Prop} (hpost : ∀ tb e args s v u, (limb_1_1.after args s (.returned v) u = true ∧ limb_1_2.after args s (.returned v) u = true ∧ True) → FrameEnd s (.returned v) u (Jvm.fieldLocs frame_1_writes args s ++ Jvm.arrayLocs frame_1_arrays args s ++ Jvm.staticLocs frame_1_statics s) 16 128 → Post tb e args s (.returned v) u) :
    ArmFor flags0 classFile x code maxLocals ret World_1 tables_1 room_1 Calls_1 rest_1 Pre_1 Post := by
  intro l hfl _ _ p e ha hc hk s m args below hf hA hF happ hP
  obtain ⟨hcalls, hrest, hpre⟩ := hP
  obtain ⟨-, -, -, hnamed, -, -, -, hat⟩ := (Spec.applies_iff hf).mp happ
  obtain ⟨hg, hn⟩ := and_e (Cond.before_iff.mp (show (Jvm.Cond.and given_1 narrow_1).before args s = true from hpre))
  obtain ⟨hcnt, hg0⟩ := and_e hg
  obtain ⟨ha0, hg1⟩ := and_e hg0
  obtain ⟨ha1, hg2⟩ := and_e hg1
  have ha2 := hg2
  obtain ⟨w0, w1, w2, rfl⟩ : ∃ w0 w1 w2 : Value, args = #[w0, w1, w2] := by
    have hs : args.size = 3 := by simpa [Cond.value, given_1] using hcnt
    obtain ⟨L⟩ := args
    match L, hs with
    | [w0, w1, w2], _ => exact ⟨w0, w1, w2, rfl⟩
  have hw := fun d (hd : d ∈ tables_1) => atoms_spec (ws := Jvm.Cond.code x code maxLocals ret :: tables_1) hat d (List.mem_cons_of_mem _ hd)
  obtain ⟨i0, ei0⟩ := is_v ha0
  obtain rfl : w0 = (.int i0) := Option.some.inj ei0
  obtain ⟨i1, ei1⟩ := is_v ha1
  obtain rfl : w1 = (.int i1) := Option.some.inj ei1
  obtain ⟨i2, ei2⟩ := is_v ha2
  obtain rfl : w2 = (.int i2) := Option.some.inj ei2
  obtain ⟨n, o, h1, h2, h3, _, L, rfl, ⟨rfl, N⟩, hq⟩ := c_law l s _ hw tables_1 s.heap.size s.heap (Nat.le_refl _) i0 i1 i2 p e ha hc hk s m _ below hf ((Spec.applies_iff_loose hf).mp happ).1 ⟨rfl, State.Warmed39.refl s, rfl⟩ trivial
  refine ⟨n, _, h1, h2, h3, hpost _ _ _ _ _ _ ⟨Cond.after_iff.mpr rfl, Cond.after_iff.mpr (eq_i res_at (Term.int_eval (1)) rfl), trivial⟩ ⟨hq.1, hq.2.1, (hq.2.2.sift fun y hy => Or.inr (N y hy)).mono (by decide) (by decide)⟩⟩
theorem main_1_1 : Claimed_1_1 := comes_1 fun _ _ _ _ _ _ h hF => ⟨h.1, hF⟩
theorem main_1_2 : Claimed_1_2 := comes_1 fun _ _ _ _ _ _ h hF => ⟨h.2.1, hF⟩
end Jvm.Pilot.@@N@@
namespace Jvm.Pilot.@@N@@
open Jvm Jvm.ClassFile Sem Op Lib Jvm.Free Jvm.Stand Jvm.Pilot.@@N@@.Jvm.D
/-! MADE BY PROGRAM (witnessworld.py) out of the Statement's table words and the real class files: 12 classes; the members and pool entries that the words name. The judged class is class 1, her method 6. -/
namespace start1
open Jvm.ClassFile
def u (s : String) : CpInfo := .utf8 (stringToUtf16 s)
/-- a pool by its gaps: so many unusable entries, then the entry; so many at the end -/
def gap : Nat → List CpInfo → List CpInfo
  | 0, r => r
  | n + 1, r => .unusable :: gap n r
def poolList (es : List (Nat × CpInfo)) (last : Nat) : List CpInfo := es.foldr (fun e r => gap e.1 (e.2 :: r)) (gap last [])
def pool (es : List (Nat × CpInfo)) (last : Nat) : Array CpInfo := ⟨poolList es last⟩
def fileOf (pool : Array CpInfo) (this : Nat) (attrs : Array Attribute := #[]) (ms : Array MethodInfo := #[]) (fl : Nat := 33) (sup : Nat := 0) (ifs : Array Nat := #[]) (fds : Array FieldInfo := #[]) : ClassFile where
  minorVersion := 0
  majorVersion := 65
  constantPool := pool
  accessFlags := fl
  thisClass := this
  superClass := sup
  interfaces := ifs
  fields := fds
  methods := ms
  attributes := attrs
def plain (name : String) (sup : Option ClassId) : Class where
  name := name
  kind := .ordinary
  loader := none
  accessFlags := 33
  super := sup
  interfaces := #[]
  cf := none
  fields := #[]
  methods := #[]
  instanceTypes := #[]
  staticTypes := #[]
  resolved := #[]
  callSites := []
  init := .initialized
  statics := none
  mirror := none

def pool0 : Array CpInfo := pool [(5, u "<init>"), (0, u "()V"), (1, .class_ 10), (1, u "java/lang/Object"), (85, u "clone"), (0, u "()Ljava/lang/Object;")] 26

def k0m0 : Method := { name := "<init>", desc := "()V", sig := { parameters := [], returnType := none }, accessFlags := 1, code := none }
def k0m1 : Method := { name := "clone", desc := "()Ljava/lang/Object;", sig := { parameters := [], returnType := some (.object "java/lang/Object") }, accessFlags := 260, code := none }
/-- java/lang/Object -/
def k0 : Class := { plain "java/lang/Object" none with
  accessFlags := 33
  interfaces := #[]
  cf := some (fileOf pool0 8 #[] #[{ accessFlags := 1, nameIndex := 5, descriptorIndex := 6, attributes := #[] }, { accessFlags := 260, nameIndex := 96, descriptorIndex := 97, attributes := #[] }] 33 0 #[] #[])
  fields := #[]
  methods := #[k0m0, k0m1]
  instanceTypes := #[]
  staticTypes := #[]
  resolved := Array.replicate 124 none
  statics := none }

def pool1 : Array CpInfo := pool [(2, .class_ 4), (1, u "java/lang/Object"), (0, u "<init>"), (0, u "()V"), (0, .methodref 8 9), (0, .class_ 10), (0, .nameAndType 11 12), (0, u "com/example/eratosthenes/eratosthenes/tune/GeneticSearchHalvesPinLaw"), (0, u "bit"), (0, u "(II)Z"), (0, .methodref 8 14), (0, .nameAndType 15 16), (0, u "kept"), (0, u "([ZIII)Z"), (0, .methodref 8 18), (0, .nameAndType 19 20), (0, u "make"), (0, u "(II)[Z"), (0, .methodref 22 23), (0, .class_ 24), (0, .nameAndType 25 26), (0, u "com/example/eratosthenes/eratosthenes/tune/GeneticSearch"), (0, u "halves"), (0, u "([Z[Z)[Z"), (0, .methodref 8 28), (0, .nameAndType 29 30), (0, u "at"), (0, u "([ZIIII)Z"), (0, .methodref 8 32), (0, .nameAndType 33 34), (0, u "allKept"), (0, u "([ZII)Z"), (5, u "law"), (0, u "(III)Z")] 2

def k1m0 : Method := { name := "<init>", desc := "()V", sig := { parameters := [], returnType := none }, accessFlags := 1, code := none }
def k1c1 : Code := { maxStack := 2, maxLocals := 2, code := method_2_code, exceptionTable := #[], attributes := #[] }
def k1m1 : Method := { name := "bit", desc := "(II)Z", sig := { parameters := [.int, .int], returnType := some .boolean }, accessFlags := 10, code := some k1c1 }
def k1c2 : Code := { maxStack := 4, maxLocals := 3, code := method_3_code, exceptionTable := #[], attributes := #[] }
def k1m2 : Method := { name := "make", desc := "(II)[Z", sig := { parameters := [.int, .int], returnType := some (.array .boolean) }, accessFlags := 10, code := some k1c2 }
def k1c3 : Code := { maxStack := 3, maxLocals := 6, code := method_4_code, exceptionTable := #[], attributes := #[] }
def k1m3 : Method := { name := "at", desc := "([ZIIII)Z", sig := { parameters := [(.array .boolean), .int, .int, .int, .int], returnType := some .boolean }, accessFlags := 10, code := some k1c3 }
def k1c4 : Code := { maxStack := 3, maxLocals := 4, code := method_5_code, exceptionTable := #[], attributes := #[] }
def k1m4 : Method := { name := "kept", desc := "([ZIII)Z", sig := { parameters := [(.array .boolean), .int, .int, .int], returnType := some .boolean }, accessFlags := 10, code := some k1c4 }
def k1c5 : Code := { maxStack := 4, maxLocals := 3, code := method_6_code, exceptionTable := #[], attributes := #[] }
def k1m5 : Method := { name := "allKept", desc := "([ZII)Z", sig := { parameters := [(.array .boolean), .int, .int], returnType := some .boolean }, accessFlags := 10, code := some k1c5 }
def k1c6 : Code := { maxStack := 5, maxLocals := 8, code := code, exceptionTable := #[], attributes := #[] }
def k1m6 : Method := { name := "law", desc := "(III)Z", sig := { parameters := [.int, .int, .int], returnType := some .boolean }, accessFlags := 9, code := some k1c6 }
/-- com/example/eratosthenes/eratosthenes/tune/GeneticSearchHalvesPinLaw -/
def k1 : Class := { plain "com/example/eratosthenes/eratosthenes/tune/GeneticSearchHalvesPinLaw" (some 0) with
  accessFlags := 49
  interfaces := #[]
  cf := some (fileOf pool1 8 #[] #[{ accessFlags := 1, nameIndex := 5, descriptorIndex := 6, attributes := #[] }, { accessFlags := 10, nameIndex := 11, descriptorIndex := 12, attributes := #[] }, { accessFlags := 10, nameIndex := 19, descriptorIndex := 20, attributes := #[] }, { accessFlags := 10, nameIndex := 29, descriptorIndex := 30, attributes := #[] }, { accessFlags := 10, nameIndex := 15, descriptorIndex := 16, attributes := #[] }, { accessFlags := 10, nameIndex := 33, descriptorIndex := 34, attributes := #[] }, { accessFlags := 9, nameIndex := 40, descriptorIndex := 41, attributes := #[] }] 49 2 #[] #[])
  fields := #[]
  methods := #[k1m0, k1m1, k1m2, k1m3, k1m4, k1m5, k1m6]
  instanceTypes := #[]
  staticTypes := #[]
  resolved := Array.replicate 44 none
  statics := none }

def pool2 : Array CpInfo := pool [(2, .class_ 4), (1, u "java/lang/Object"), (2, .class_ 8), (0, u "com/example/eratosthenes/eratosthenes/tune/GeneticSearch"), (12, u "population"), (0, u "I"), (2, u "generations"), (2, u "seed"), (0, u "J"), (23, u "()Ljava/lang/Object;"), (32, .class_ 87), (0, u "com/example/eratosthenes/eratosthenes/tune/GeneticSearch$Member"), (7, u "[Z"), (3, u "([Z[Z)[Z"), (2, u "halves"), (8, .methodref 112 113), (0, .class_ 95), (0, .nameAndType 114 53), (0, u "clone"), (0, .methodref 116 117), (0, .class_ 118), (0, .nameAndType 119 120), (0, u "java/lang/System"), (0, u "arraycopy"), (0, u "(Ljava/lang/Object;ILjava/lang/Object;II)V"), (54, .class_ 177), (1, u "com/example/eratosthenes/eratosthenes/tune/GeneticSearch$Fitness"), (25, u "DEFAULT_POPULATION"), (2, u "DEFAULT_GENERATIONS"), (0, u "LEAST_POPULATION"), (1, u "FLIP"), (0, u "D")] 54

def k2c0 : Code := { maxStack := 6, maxLocals := 3, code := prog_27_method_4_code, exceptionTable := #[], attributes := #[] }
def k2m0 : Method := { name := "halves", desc := "([Z[Z)[Z", sig := { parameters := [(.array .boolean), (.array .boolean)], returnType := some (.array .boolean) }, accessFlags := 8, code := some k2c0 }
/-- com/example/eratosthenes/eratosthenes/tune/GeneticSearch -/
def k2 : Class := { plain "com/example/eratosthenes/eratosthenes/tune/GeneticSearch" (some 0) with
  accessFlags := 33
  interfaces := #[]
  cf := some (fileOf pool2 7 #[.nestMembers #[86, 175]] #[{ accessFlags := 8, nameIndex := 102, descriptorIndex := 99, attributes := #[] }] 33 2 #[] #[{ accessFlags := 25, nameIndex := 203, descriptorIndex := 22, attributes := #[] }, { accessFlags := 25, nameIndex := 206, descriptorIndex := 22, attributes := #[] }, { accessFlags := 25, nameIndex := 207, descriptorIndex := 22, attributes := #[] }, { accessFlags := 26, nameIndex := 209, descriptorIndex := 210, attributes := #[] }, { accessFlags := 18, nameIndex := 21, descriptorIndex := 22, attributes := #[] }, { accessFlags := 18, nameIndex := 25, descriptorIndex := 22, attributes := #[] }, { accessFlags := 18, nameIndex := 28, descriptorIndex := 29, attributes := #[] }])
  fields := #[{ name := "DEFAULT_POPULATION", type := .int, accessFlags := 25, slot := 0, constantValue := 0 }, { name := "DEFAULT_GENERATIONS", type := .int, accessFlags := 25, slot := 1, constantValue := 0 }, { name := "LEAST_POPULATION", type := .int, accessFlags := 25, slot := 2, constantValue := 0 }, { name := "FLIP", type := .double, accessFlags := 26, slot := 3, constantValue := 0 }, { name := "population", type := .int, accessFlags := 18, slot := 0, constantValue := 0 }, { name := "generations", type := .int, accessFlags := 18, slot := 1, constantValue := 0 }, { name := "seed", type := .long, accessFlags := 18, slot := 2, constantValue := 0 }]
  methods := #[k2m0]
  instanceTypes := #[.int, .int, .long]
  staticTypes := #[.int, .int, .int, .double]
  resolved := Array.replicate 265 none
  statics := none }

def pool3 : Array CpInfo := pool [(1, .class_ 2), (0, u "java/lang/Cloneable"), (0, .class_ 4), (0, u "java/lang/Object")] 2

/-- java/lang/Cloneable -/
def k3 : Class := { plain "java/lang/Cloneable" (some 0) with
  accessFlags := 1537
  interfaces := #[]
  cf := some (fileOf pool3 1 #[] #[] 1537 3 #[] #[])
  fields := #[]
  methods := #[]
  instanceTypes := #[]
  staticTypes := #[]
  resolved := Array.replicate 7 none
  statics := none }

def pool4 : Array CpInfo := pool [(2, .class_ 4), (1, u "java/lang/Object"), (0, u "<init>"), (0, u "()V"), (1, .class_ 10), (1, u "java/lang/System"), (0, u "allowSecurityManager"), (0, u "I"), (16, u "cons"), (0, u "Ljava/io/Console;"), (77, .class_ 110), (1, u "java/lang/System$CallersHolder"), (43, u "initialErrStream"), (0, u "Ljava/io/PrintStream;"), (19, u "security"), (0, u "Ljava/lang/SecurityManager;"), (31, .class_ 209), (0, u "java/lang/System$1"), (7, u "props"), (0, u "Ljava/util/Properties;"), (2, u "lineSeparator"), (0, u "Ljava/lang/String;"), (96, .class_ 321), (1, u "java/lang/System$LoggerFinder"), (5, .class_ 328), (0, u "java/lang/System$Logger"), (67, u "err"), (2, u "out"), (91, u "notSupportedJnuEncoding"), (15, u "in"), (17, u "initialIn"), (0, u "Ljava/io/InputStream;"), (35, u "bootLayer"), (0, u "Ljava/lang/ModuleLayer;"), (99, .class_ 664), (0, u "java/lang/System$2"), (9, u "NEVER"), (2, u "MAYBE"), (49, u "arraycopy"), (0, u "(Ljava/lang/Object;ILjava/lang/Object;II)V"), (72, .class_ 802), (0, u "java/lang/System$Logger$Level")] 31

def k4m0 : Method := { name := "<init>", desc := "()V", sig := { parameters := [], returnType := none }, accessFlags := 2, code := none }
def k4m1 : Method := { name := "arraycopy", desc := "(Ljava/lang/Object;ILjava/lang/Object;II)V", sig := { parameters := [(.object "java/lang/Object"), .int, (.object "java/lang/Object"), .int, .int], returnType := none }, accessFlags := 265, code := none }
/-- java/lang/System -/
def k4 : Class := { plain "java/lang/System" (some 0) with
  accessFlags := 49
  interfaces := #[]
  cf := some (fileOf pool4 8 #[.nestMembers #[319, 327, 801, 108, 663, 208]] #[{ accessFlags := 2, nameIndex := 5, descriptorIndex := 6, attributes := #[] }, { accessFlags := 265, nameIndex := 727, descriptorIndex := 728, attributes := #[] }] 49 2 #[] #[{ accessFlags := 25, nameIndex := 507, descriptorIndex := 526, attributes := #[] }, { accessFlags := 25, nameIndex := 399, descriptorIndex := 155, attributes := #[] }, { accessFlags := 25, nameIndex := 396, descriptorIndex := 155, attributes := #[] }, { accessFlags := 10, nameIndex := 525, descriptorIndex := 526, attributes := #[] }, { accessFlags := 26, nameIndex := 674, descriptorIndex := 12, attributes := #[] }, { accessFlags := 26, nameIndex := 677, descriptorIndex := 12, attributes := #[] }, { accessFlags := 10, nameIndex := 11, descriptorIndex := 12, attributes := #[] }, { accessFlags := 74, nameIndex := 175, descriptorIndex := 176, attributes := #[] }, { accessFlags := 10, nameIndex := 491, descriptorIndex := 222, attributes := #[] }, { accessFlags := 74, nameIndex := 29, descriptorIndex := 30, attributes := #[] }, { accessFlags := 74, nameIndex := 154, descriptorIndex := 155, attributes := #[] }, { accessFlags := 10, nameIndex := 217, descriptorIndex := 218, attributes := #[] }, { accessFlags := 10, nameIndex := 221, descriptorIndex := 222, attributes := #[] }, { accessFlags := 8, nameIndex := 562, descriptorIndex := 563, attributes := #[] }])
  fields := #[{ name := "in", type := (.object "java/io/InputStream"), accessFlags := 25, slot := 0, constantValue := 0 }, { name := "out", type := (.object "java/io/PrintStream"), accessFlags := 25, slot := 1, constantValue := 0 }, { name := "err", type := (.object "java/io/PrintStream"), accessFlags := 25, slot := 2, constantValue := 0 }, { name := "initialIn", type := (.object "java/io/InputStream"), accessFlags := 10, slot := 3, constantValue := 0 }, { name := "NEVER", type := .int, accessFlags := 26, slot := 4, constantValue := 0 }, { name := "MAYBE", type := .int, accessFlags := 26, slot := 5, constantValue := 0 }, { name := "allowSecurityManager", type := .int, accessFlags := 10, slot := 6, constantValue := 0 }, { name := "security", type := (.object "java/lang/SecurityManager"), accessFlags := 74, slot := 7, constantValue := 0 }, { name := "notSupportedJnuEncoding", type := (.object "java/lang/String"), accessFlags := 10, slot := 8, constantValue := 0 }, { name := "cons", type := (.object "java/io/Console"), accessFlags := 74, slot := 9, constantValue := 0 }, { name := "initialErrStream", type := (.object "java/io/PrintStream"), accessFlags := 74, slot := 10, constantValue := 0 }, { name := "props", type := (.object "java/util/Properties"), accessFlags := 10, slot := 11, constantValue := 0 }, { name := "lineSeparator", type := (.object "java/lang/String"), accessFlags := 10, slot := 12, constantValue := 0 }, { name := "bootLayer", type := (.object "java/lang/ModuleLayer"), accessFlags := 8, slot := 13, constantValue := 0 }]
  methods := #[k4m0, k4m1]
  instanceTypes := #[]
  staticTypes := #[(.object "java/io/InputStream"), (.object "java/io/PrintStream"), (.object "java/io/PrintStream"), (.object "java/io/InputStream"), .int, .int, .int, (.object "java/lang/SecurityManager"), (.object "java/lang/String"), (.object "java/io/Console"), (.object "java/io/PrintStream"), (.object "java/util/Properties"), (.object "java/lang/String"), (.object "java/lang/ModuleLayer")]
  resolved := Array.replicate 834 none
  statics := none }

def pool5 : Array CpInfo := pool [(1, u "java/io/Serializable"), (0, .class_ 1), (0, u "java/lang/Object"), (0, .class_ 3)] 3

/-- java/io/Serializable -/
def k5 : Class := { plain "java/io/Serializable" (some 0) with
  accessFlags := 1537
  interfaces := #[]
  cf := some (fileOf pool5 2 #[] #[] 1537 4 #[] #[])
  fields := #[]
  methods := #[]
  instanceTypes := #[]
  staticTypes := #[]
  resolved := Array.replicate 8 none
  statics := none }

/-- the primitive boolean -/
def k6 : Class := { plain "boolean" none with kind := .primitive 'Z', accessFlags := 0x411 }
/-- [Z -/
def k7 : Class := { plain "[Z" (some 0) with kind := .array 6 .boolean, interfaces := #[3, 5], accessFlags := 1041 }

/-- the primitive byte -/
def k8 : Class := { plain "byte" none with kind := .primitive 'B', accessFlags := 0x411 }
/-- [B -/
def k9 : Class := { plain "[B" (some 0) with kind := .array 8 .byte, interfaces := #[3, 5], accessFlags := 1041 }

/-- the primitive int -/
def k10 : Class := { plain "int" none with kind := .primitive 'I', accessFlags := 0x411 }
/-- [I -/
def k11 : Class := { plain "[I" (some 0) with kind := .array 10 .int, interfaces := #[3, 5], accessFlags := 1041 }

def heap : Heap := #[]
def classes : Array Class := #[k0, k1, k2, k3, k4, k5, k6, k7, k8, k9, k10, k11]
def interned : List (Array UInt16 × Addr) := []
def slotsUsed : Nat := 0
def theMethod : MethodId := ⟨1, 6⟩
def args0 : Array Value := #[.int 5, .int 3, .int 7]
def aboutOver (below : List Frame) : State where
  vm := { classes := classes, interned := interned.toArray }
  heap := heap
  slotsUsed := slotsUsed
  threads := #[{ frames := .invoking theMethod args0 :: below }]
def below0 : List Frame := [.native { method := ⟨0, 0⟩, args := #[] }]
def about1 : State := aboutOver below0
def p0 : Program := .bare "" "" ""
def e0 : Env := launch0.env 0 0 0
theorem w_frames : about1.frames = Frame.invoking theMethod args0 :: below0 := rfl
set_option maxRecDepth 65536 in
theorem w_args : argsFit about1.vm theMethod args0 = true := by decide +kernel
set_option maxRecDepth 65536 in
theorem w_heap : heapFits about1 = true := by decide +kernel
set_option maxRecDepth 65536 in
theorem w_runnable : about1.curStatus? = some .runnable := by decide +kernel
set_option maxRecDepth 65536 in
theorem w_alone : about1.alone = true := by decide +kernel
set_option maxRecDepth 65536 in
theorem w_named : about1.methodNamed? x = some theMethod := by decide +kernel
set_option maxRecDepth 65536 in
theorem w_hears : about1.hears theMethod below0 = true := by decide +kernel
set_option maxRecDepth 65536 in
theorem w_ripe : about1.ripe theMethod args0 below0 = true := by decide +kernel
theorem w_running : about1.status = .running := rfl
set_option maxRecDepth 65536 in
theorem w_room : about1.hasRoom e0.platform room_1 = true :=
  launch0.hasRoom_least _ room_1 (by decide +kernel) (by decide +kernel) (by decide +kernel) (by decide +kernel) (by decide +kernel) (by decide +kernel)
theorem allAtoms_all (ts : List Jvm.Cond) (a : Array Jvm.Value) (st : Jvm.State) : (allAtoms ts).before a st = ts.all (fun c => c.before a st) := by
  induction ts with
  | nil => rfl
  | cons c t ih =>
    show (Jvm.Cond.and c (allAtoms t)).before a st = _
    rw [Jvm.Cond.before_and, ih, List.all_cons]
def words1 : List Jvm.Cond := Jvm.Cond.code x code maxLocals ret :: tables_1
/-- a 'code' word, met by the world's own term for the bytes: nothing is compared byte by byte -/
theorem code_word {y : MethodName} {bytes : ByteArray} {mx : Nat} {rt : Option FieldType} {a : Array Value} {s : State} {m : MethodId} {meth : Method} {c : Code} (h1 : s.methodNamed? y = some m) (h2 : s.vm.method? m = some meth) (h3 : meth.code = some c) (h4 : c.code = bytes)
    (h5 : (c.maxLocals == mx && c.exceptionTable.isEmpty && decide (c.maxStack ≤ mostOperands) && decide (meth.sig.returnType = rt) && !meth.locks && decide (parseMethodDescriptor y.desc = some meth.sig)) = true) : (Jvm.Cond.code y bytes mx rt).before a s = true := by
  simp only [Bool.and_eq_true, beq_iff_eq, Bool.not_eq_true', decide_eq_true_eq] at h5
  obtain ⟨⟨⟨⟨⟨g1, g2⟩, g3⟩, g4⟩, g5⟩, g6⟩ := h5
  simp [Cond.before, Cond.holds, Cond.value, h1, h2, h3, h4, g1, g2, g3, g4, g5, g6]
def isCode : Jvm.Cond → Bool
  | .code _ _ _ _ => true
  | _ => false
theorem all_split {L : List Jvm.Cond} {P : Jvm.Cond → Bool} (h1 : L.all (fun c => isCode c || P c) = true) (h2 : ∀ c ∈ L.filter isCode, P c = true) : L.all P = true := by
  refine List.all_eq_true.mpr fun c hc => ?_
  have h := List.all_eq_true.mp h1 c hc
  rcases Bool.eq_false_or_eq_true (isCode c) with hi | hi
  · exact h2 c (List.mem_filter.mpr ⟨hc, hi⟩)
  · simpa [hi] using h
set_option maxRecDepth 65536 in
theorem w_c0 : (Jvm.Cond.code x code maxLocals ret).before args0 about1 = true := code_word (m := ⟨1, 6⟩) (meth := k1m6) (c := k1c6) (by decide +kernel) rfl rfl rfl (by decide +kernel)
set_option maxRecDepth 65536 in
theorem w_c1 : (Jvm.Cond.code ({ cls := "com/example/eratosthenes/eratosthenes/tune/GeneticSearchHalvesPinLaw", name := "make", desc := "(II)[Z" } : Jvm.MethodName) method_3_code (3 : Nat) (Option.some (Jvm.ClassFile.FieldType.array Jvm.ClassFile.FieldType.boolean))).before args0 about1 = true := code_word (m := ⟨1, 2⟩) (meth := k1m2) (c := k1c2) (by decide +kernel) rfl rfl rfl (by decide +kernel)
set_option maxRecDepth 65536 in
theorem w_c2 : (Jvm.Cond.code ({ cls := "com/example/eratosthenes/eratosthenes/tune/GeneticSearch", name := "halves", desc := "([Z[Z)[Z" } : Jvm.MethodName) prog_27_method_4_code (3 : Nat) (Option.some (Jvm.ClassFile.FieldType.array Jvm.ClassFile.FieldType.boolean))).before args0 about1 = true := code_word (m := ⟨2, 0⟩) (meth := k2m0) (c := k2c0) (by decide +kernel) rfl rfl rfl (by decide +kernel)
set_option maxRecDepth 65536 in
theorem w_c3 : (Jvm.Cond.code ({ cls := "com/example/eratosthenes/eratosthenes/tune/GeneticSearchHalvesPinLaw", name := "at", desc := "([ZIIII)Z" } : Jvm.MethodName) method_4_code (6 : Nat) (Option.some Jvm.ClassFile.FieldType.boolean)).before args0 about1 = true := code_word (m := ⟨1, 3⟩) (meth := k1m3) (c := k1c3) (by decide +kernel) rfl rfl rfl (by decide +kernel)
set_option maxRecDepth 65536 in
theorem w_c4 : (Jvm.Cond.code ({ cls := "com/example/eratosthenes/eratosthenes/tune/GeneticSearchHalvesPinLaw", name := "allKept", desc := "([ZII)Z" } : Jvm.MethodName) method_6_code (3 : Nat) (Option.some Jvm.ClassFile.FieldType.boolean)).before args0 about1 = true := code_word (m := ⟨1, 5⟩) (meth := k1m5) (c := k1c5) (by decide +kernel) rfl rfl rfl (by decide +kernel)
set_option maxRecDepth 65536 in
theorem w_c5 : (Jvm.Cond.code ({ cls := "com/example/eratosthenes/eratosthenes/tune/GeneticSearchHalvesPinLaw", name := "kept", desc := "([ZIII)Z" } : Jvm.MethodName) method_5_code (4 : Nat) (Option.some Jvm.ClassFile.FieldType.boolean)).before args0 about1 = true := code_word (m := ⟨1, 4⟩) (meth := k1m4) (c := k1c4) (by decide +kernel) rfl rfl rfl (by decide +kernel)
set_option maxRecDepth 65536 in
theorem w_c6 : (Jvm.Cond.code ({ cls := "com/example/eratosthenes/eratosthenes/tune/GeneticSearchHalvesPinLaw", name := "bit", desc := "(II)Z" } : Jvm.MethodName) method_2_code (2 : Nat) (Option.some Jvm.ClassFile.FieldType.boolean)).before args0 about1 = true := code_word (m := ⟨1, 1⟩) (meth := k1m1) (c := k1c1) (by decide +kernel) rfl rfl rfl (by decide +kernel)
def codes1 : List Jvm.Cond := [Jvm.Cond.code x code maxLocals ret, Jvm.Cond.code ({ cls := "com/example/eratosthenes/eratosthenes/tune/GeneticSearchHalvesPinLaw", name := "make", desc := "(II)[Z" } : Jvm.MethodName) method_3_code (3 : Nat) (Option.some (Jvm.ClassFile.FieldType.array Jvm.ClassFile.FieldType.boolean)), Jvm.Cond.code ({ cls := "com/example/eratosthenes/eratosthenes/tune/GeneticSearch", name := "halves", desc := "([Z[Z)[Z" } : Jvm.MethodName) prog_27_method_4_code (3 : Nat) (Option.some (Jvm.ClassFile.FieldType.array Jvm.ClassFile.FieldType.boolean)), Jvm.Cond.code ({ cls := "com/example/eratosthenes/eratosthenes/tune/GeneticSearchHalvesPinLaw", name := "at", desc := "([ZIIII)Z" } : Jvm.MethodName) method_4_code (6 : Nat) (Option.some Jvm.ClassFile.FieldType.boolean), Jvm.Cond.code ({ cls := "com/example/eratosthenes/eratosthenes/tune/GeneticSearchHalvesPinLaw", name := "allKept", desc := "([ZII)Z" } : Jvm.MethodName) method_6_code (3 : Nat) (Option.some Jvm.ClassFile.FieldType.boolean), Jvm.Cond.code ({ cls := "com/example/eratosthenes/eratosthenes/tune/GeneticSearchHalvesPinLaw", name := "kept", desc := "([ZIII)Z" } : Jvm.MethodName) method_5_code (4 : Nat) (Option.some Jvm.ClassFile.FieldType.boolean), Jvm.Cond.code ({ cls := "com/example/eratosthenes/eratosthenes/tune/GeneticSearchHalvesPinLaw", name := "bit", desc := "(II)Z" } : Jvm.MethodName) method_2_code (2 : Nat) (Option.some Jvm.ClassFile.FieldType.boolean)]
set_option maxRecDepth 65536 in
theorem codes_eq : words1.filter isCode = codes1 := rfl
theorem w_codes : ∀ c ∈ words1.filter isCode, c.before args0 about1 = true := by
  rw [codes_eq]
  intro c hc
  simp only [codes1, List.mem_cons, List.not_mem_nil, or_false] at hc
  rcases hc with rfl | rfl | rfl | rfl | rfl | rfl | rfl
  · exact w_c0
  · exact w_c1
  · exact w_c2
  · exact w_c3
  · exact w_c4
  · exact w_c5
  · exact w_c6
set_option maxRecDepth 65536 in
theorem w_t1 : (words1.take 24).all (fun c => isCode c || c.before args0 about1) = true := by decide +kernel
set_option maxRecDepth 65536 in
theorem w_t2 : (words1.drop 24).all (fun c => isCode c || c.before args0 about1) = true := by decide +kernel
theorem w_tables : (allAtoms (Jvm.Cond.code x code maxLocals ret :: tables_1)).before args0 about1 = true := by
  rw [allAtoms_all]
  show words1.all (fun c => c.before args0 about1) = true
  refine all_split ?_ w_codes
  rw [← List.take_append_drop 24 words1, List.all_append, w_t1, w_t2]
  rfl
set_option maxRecDepth 65536 in
theorem w_case : (Jvm.Cond.and given_1 narrow_1).before args0 about1 = true := by decide +kernel
theorem w_applies : (headSpec (Jvm.Cond.code x code maxLocals ret :: tables_1) room_1).applies x e0.platform about1 = true :=
  (Spec.applies_iff w_frames).mpr ⟨w_running, w_runnable, w_alone, w_named, w_hears, w_ripe, w_room, w_tables⟩
theorem atStart : AtStart classFile x code maxLocals ret World_1 tables_1 room_1 Calls_1 rest_1 Pre_1 launch0 p0 e0 about1 theMethod args0 below0 :=
  ⟨lists_1, trivial, launch0.admits_env _ _ _, launch0.least_env, fairChoices_fair.cas, fairChoices_fair.clock, w_frames, w_args, w_heap, w_applies, trivial, trivial, w_case⟩
end start1
theorem witness_1 : WitnessClaimed_1 := ⟨start1.p0, start1.e0, start1.about1, start1.theMethod, start1.args0, start1.below0, start1.atStart⟩
end Jvm.Pilot.@@N@@
