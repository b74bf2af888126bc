import JvmDerived
import JvmDerived.Pilot.@@N@@Statement
import JvmDerived.Pilot.@@N@@Code
set_option linter.unusedVariables false
set_option linter.unusedSimpArgs false
@@BLOCK:NumsL.lean.txt@@
namespace Jvm.Pilot.@@N@@
open Jvm Jvm.ClassFile Sem Op Lib Jvm.Free Jvm.Stand Jvm.LawKit Jvm.RoadKit Bundle Jvm.Pilot.@@N@@.Jvm.D
section OwnKit
variable {p : Program} {l : Launch} {e : Env} {R : Room} {s : State} {m : MethodId} {args : Array Value} {below : List Frame} {meth : Method} {c : Code} {T T' : State} {Z : State} {h : Heap} {n0 k n mx : Nat} {y : MethodName} {bytes : ByteArray} {ret : Option FieldType} {Q : Option Value → Heap → Prop} {pc : Nat} {Ls : Array Slot} {st rest : List Value} {a0 : Array Value} {g g' : JFrame}
/-- where a body's walk stands: all that its steps ask, bundled -/
def OW (p : Program) (l : Launch) (e : Env) (R : Room) (s : State) (m : MethodId) (args : Array Value) (below : List Frame) (meth : Method) (c : Code) (Z : State) (y : MethodName) (bytes : ByteArray) (mx : Nat) (ret : Option FieldType) (n0 : Nat) (T : State) (h : Heap) (k n : Nat) : Prop :=
  p.tables.exec = Jvm.exec ∧ Z.Warmed39 s.vm ∧ s.vm.findClass y.cls = some m.cls ∧ c.code = bytes ∧ c.maxLocals = mx ∧ meth.sig.returnType = ret ∧ meth.name = y.name ∧ meth.locks = false ∧ n0 ≤ s.heap.size ∧ T.heap = h ∧ ∃ locs, Stand p l e R s m args below meth c T locs k n ∧ Fr n0 locs
/-- what a body owes from the frame g on: it returns, and Q holds of what it returns and of the heap -/
def OE (p : Program) (e : Env) (R : Room) (below : List Frame) (s : State) (n0 : Nat) (Q : Option Value → Heap → Prop) (T : State) (g : JFrame) : Prop :=
  ∃ t o, Steps p.tables e below (T.setTop g) t ∧ t.status = .running ∧ Ended t below o ∧ ∃ v L, o = .returned v ∧ (Q v t.heap ∧ Fr n0 L) ∧ FrameEnd s o t L R.cells R.slots
theorem OE.by (hs : ∀ t, Steps p.tables e below (T'.setTop g') t → Steps p.tables e below (T.setTop g) t) (K : OE p e R below s n0 Q T' g') : OE p e R below s n0 Q T g := by
  obtain ⟨t, o, h1, r⟩ := K; exact ⟨t, o, hs t h1, r⟩
theorem OW.size (X : OW p l e R s m args below meth c Z y bytes mx ret n0 T h k n) : n0 ≤ h.size := by
  obtain ⟨-, -, -, -, -, -, -, -, h0, rfl, locs, S, -⟩ := X
  exact Nat.le_trans h0 S.same.2.1
theorem OW.more (X : OW p l e R s m args below meth c Z y bytes mx ret n0 T h k n) {k' n' : Nat} (hk : k ≤ k') (hn : n ≤ n') : OW p l e R s m args below meth c Z y bytes mx ret n0 T h k' n' := by
  obtain ⟨h1, h2, h3, h4, h5, h6, h7, h8, h9, h10, locs, S, N⟩ := X
  exact ⟨h1, h2, h3, h4, h5, h6, h7, h8, h9, h10, locs, S.more hk hn, N⟩
theorem o_iloadN (X : OW p l e R s m args below meth c Z y bytes mx ret n0 T h k n) {j : Fin 4} {v : Int32} (hd : decode bytes pc = .ok (.iload_n j, 1)) (hl : Ls[j.val]? = some (.val (.int v))) (pc' : Nat) (hp : pc + 1 = pc') (K : OE p e R below s n0 Q T (mkF m pc' Ls (.int v :: st))) : OE p e R below s n0 Q T (mkF m pc Ls st) := by
  obtain ⟨hx, hZ, hown, hby, hmx, hret, hnm, hlk, h0, hT, locs, S, N⟩ := X; subst hp
  exact OE.by (fun t q => XS.iloadN S.here hx rfl (hb hby hd) hl q) K
theorem o_iload (X : OW p l e R s m args below meth c Z y bytes mx ret n0 T h k n) {j : Nat} {v : Int32} (hd : decode bytes pc = .ok (.iload j, 2)) (hl : Ls[j]? = some (.val (.int v))) (pc' : Nat) (hp : pc + 2 = pc') (K : OE p e R below s n0 Q T (mkF m pc' Ls (.int v :: st))) : OE p e R below s n0 Q T (mkF m pc Ls st) := by
  obtain ⟨hx, hZ, hown, hby, hmx, hret, hnm, hlk, h0, hT, locs, S, N⟩ := X; subst hp
  exact OE.by (fun t q => XS.iload S.here hx rfl (hb hby hd) hl q) K
theorem o_aloadN (X : OW p l e R s m args below meth c Z y bytes mx ret n0 T h k n) {j : Fin 4} {v : Value} (hd : decode bytes pc = .ok (.aload_n j, 1)) (hl : Ls[j.val]? = some (.val v)) (hv : v.isRef = true) (pc' : Nat) (hp : pc + 1 = pc') (K : OE p e R below s n0 Q T (mkF m pc' Ls (v :: st))) : OE p e R below s n0 Q T (mkF m pc Ls st) := by
  obtain ⟨hx, hZ, hown, hby, hmx, hret, hnm, hlk, h0, hT, locs, S, N⟩ := X; subst hp
  exact OE.by (fun t q => XS.aloadN S.here hx rfl (hb hby hd) hl hv q) K
theorem o_aload (X : OW p l e R s m args below meth c Z y bytes mx ret n0 T h k n) {j : Nat} {v : Value} (hd : decode bytes pc = .ok (.aload j, 2)) (hl : Ls[j]? = some (.val v)) (hv : v.isRef = true) (pc' : Nat) (hp : pc + 2 = pc') (K : OE p e R below s n0 Q T (mkF m pc' Ls (v :: st))) : OE p e R below s n0 Q T (mkF m pc Ls st) := by
  obtain ⟨hx, hZ, hown, hby, hmx, hret, hnm, hlk, h0, hT, locs, S, N⟩ := X; subst hp
  exact OE.by (fun t q => XS.aload S.here hx rfl (hb hby hd) hl hv q) K
theorem o_lloadN (X : OW p l e R s m args below meth c Z y bytes mx ret n0 T h k n) {j : Fin 4} {v : Int64} (hd : decode bytes pc = .ok (.lload_n j, 1)) (hl : Ls[j.val]? = some (.val (.long v))) (pc' : Nat) (hp : pc + 1 = pc') (K : OE p e R below s n0 Q T (mkF m pc' Ls (.long v :: st))) : OE p e R below s n0 Q T (mkF m pc Ls st) := by
  obtain ⟨hx, hZ, hown, hby, hmx, hret, hnm, hlk, h0, hT, locs, S, N⟩ := X; subst hp
  exact OE.by (fun t q => XT.lloadN S.here hx rfl (hb hby hd) hl q) K
theorem o_lload (X : OW p l e R s m args below meth c Z y bytes mx ret n0 T h k n) {j : Nat} {v : Int64} (hd : decode bytes pc = .ok (.lload j, 2)) (hl : Ls[j]? = some (.val (.long v))) (pc' : Nat) (hp : pc + 2 = pc') (K : OE p e R below s n0 Q T (mkF m pc' Ls (.long v :: st))) : OE p e R below s n0 Q T (mkF m pc Ls st) := by
  obtain ⟨hx, hZ, hown, hby, hmx, hret, hnm, hlk, h0, hT, locs, S, N⟩ := X; subst hp
  exact OE.by (fun t q => XT.lload S.here hx rfl (hb hby hd) hl q) K
theorem o_iconst (X : OW p l e R s m args below meth c Z y bytes mx ret n0 T h k n) {i : Int} {v : Int32} (hd : decode bytes pc = .ok (.iconst i, 1)) (hv : Int32.ofInt i = v) (pc' : Nat) (hp : pc + 1 = pc') (K : OE p e R below s n0 Q T (mkF m pc' Ls (.int v :: st))) : OE p e R below s n0 Q T (mkF m pc Ls st) := by
  obtain ⟨hx, hZ, hown, hby, hmx, hret, hnm, hlk, h0, hT, locs, S, N⟩ := X; subst hp hv
  exact OE.by (fun t q => XS.iconst S.here hx rfl (hb hby hd) q) K
theorem o_bipush (X : OW p l e R s m args below meth c Z y bytes mx ret n0 T h k n) {i : Int} {v : Int32} (hd : decode bytes pc = .ok (.bipush i, 2)) (hv : (Int8.ofInt i).toInt32 = v) (pc' : Nat) (hp : pc + 2 = pc') (K : OE p e R below s n0 Q T (mkF m pc' Ls (.int v :: st))) : OE p e R below s n0 Q T (mkF m pc Ls st) := by
  obtain ⟨hx, hZ, hown, hby, hmx, hret, hnm, hlk, h0, hT, locs, S, N⟩ := X; subst hp hv
  exact OE.by (fun t q => XS.bipush S.here hx rfl (hb hby hd) q) K
theorem o_sipush (X : OW p l e R s m args below meth c Z y bytes mx ret n0 T h k n) {i : Int} {v : Int32} (hd : decode bytes pc = .ok (.sipush i, 3)) (hv : (Int16.ofInt i).toInt32 = v) (pc' : Nat) (hp : pc + 3 = pc') (K : OE p e R below s n0 Q T (mkF m pc' Ls (.int v :: st))) : OE p e R below s n0 Q T (mkF m pc Ls st) := by
  obtain ⟨hx, hZ, hown, hby, hmx, hret, hnm, hlk, h0, hT, locs, S, N⟩ := X; subst hp hv
  exact OE.by (fun t q => XS.sipush S.here hx rfl (hb hby hd) q) K
theorem o_lconst (X : OW p l e R s m args below meth c Z y bytes mx ret n0 T h k n) {i : Fin 2} {v : Int64} (hd : decode bytes pc = .ok (.lconst i, 1)) (hv : Int64.ofNat i = v) (pc' : Nat) (hp : pc + 1 = pc') (K : OE p e R below s n0 Q T (mkF m pc' Ls (.long v :: st))) : OE p e R below s n0 Q T (mkF m pc Ls st) := by
  obtain ⟨hx, hZ, hown, hby, hmx, hret, hnm, hlk, h0, hT, locs, S, N⟩ := X; subst hp hv
  exact OE.by (fun t q => XT.lconst S.here hx rfl (hb hby hd) q) K
theorem o_iadd (X : OW p l e R s m args below meth c Z y bytes mx ret n0 T h k n) {x z : Int32} (hd : decode bytes pc = .ok (.iadd, 1))  (pc' : Nat) (hp : pc + 1 = pc') (K : OE p e R below s n0 Q T (mkF m pc' Ls (.int (x + z) :: st))) : OE p e R below s n0 Q T (mkF m pc Ls (.int z :: .int x :: st)) := by
  obtain ⟨hx, hZ, hown, hby, hmx, hret, hnm, hlk, h0, hT, locs, S, N⟩ := X; subst hp
  exact OE.by (fun t q => XS.iadd S.here hx rfl (hb hby hd) rfl q) K
theorem o_isub (X : OW p l e R s m args below meth c Z y bytes mx ret n0 T h k n) {x z : Int32} (hd : decode bytes pc = .ok (.isub, 1))  (pc' : Nat) (hp : pc + 1 = pc') (K : OE p e R below s n0 Q T (mkF m pc' Ls (.int (x - z) :: st))) : OE p e R below s n0 Q T (mkF m pc Ls (.int z :: .int x :: st)) := by
  obtain ⟨hx, hZ, hown, hby, hmx, hret, hnm, hlk, h0, hT, locs, S, N⟩ := X; subst hp
  exact OE.by (fun t q => XS.isub S.here hx rfl (hb hby hd) rfl q) K
theorem o_imul (X : OW p l e R s m args below meth c Z y bytes mx ret n0 T h k n) {x z : Int32} (hd : decode bytes pc = .ok (.imul, 1))  (pc' : Nat) (hp : pc + 1 = pc') (K : OE p e R below s n0 Q T (mkF m pc' Ls (.int (x * z) :: st))) : OE p e R below s n0 Q T (mkF m pc Ls (.int z :: .int x :: st)) := by
  obtain ⟨hx, hZ, hown, hby, hmx, hret, hnm, hlk, h0, hT, locs, S, N⟩ := X; subst hp
  exact OE.by (fun t q => XS.imul S.here hx rfl (hb hby hd) rfl q) K
theorem o_iand (X : OW p l e R s m args below meth c Z y bytes mx ret n0 T h k n) {x z : Int32} (hd : decode bytes pc = .ok (.iand, 1))  (pc' : Nat) (hp : pc + 1 = pc') (K : OE p e R below s n0 Q T (mkF m pc' Ls (.int (x &&& z) :: st))) : OE p e R below s n0 Q T (mkF m pc Ls (.int z :: .int x :: st)) := by
  obtain ⟨hx, hZ, hown, hby, hmx, hret, hnm, hlk, h0, hT, locs, S, N⟩ := X; subst hp
  exact OE.by (fun t q => XS.iand S.here hx rfl (hb hby hd) rfl q) K
theorem o_ior (X : OW p l e R s m args below meth c Z y bytes mx ret n0 T h k n) {x z : Int32} (hd : decode bytes pc = .ok (.ior, 1))  (pc' : Nat) (hp : pc + 1 = pc') (K : OE p e R below s n0 Q T (mkF m pc' Ls (.int (x ||| z) :: st))) : OE p e R below s n0 Q T (mkF m pc Ls (.int z :: .int x :: st)) := by
  obtain ⟨hx, hZ, hown, hby, hmx, hret, hnm, hlk, h0, hT, locs, S, N⟩ := X; subst hp
  exact OE.by (fun t q => XT.ior S.here hx rfl (hb hby hd) rfl q) K
theorem o_ixor (X : OW p l e R s m args below meth c Z y bytes mx ret n0 T h k n) {x z : Int32} (hd : decode bytes pc = .ok (.ixor, 1))  (pc' : Nat) (hp : pc + 1 = pc') (K : OE p e R below s n0 Q T (mkF m pc' Ls (.int (x ^^^ z) :: st))) : OE p e R below s n0 Q T (mkF m pc Ls (.int z :: .int x :: st)) := by
  obtain ⟨hx, hZ, hown, hby, hmx, hret, hnm, hlk, h0, hT, locs, S, N⟩ := X; subst hp
  exact OE.by (fun t q => XT.ixor S.here hx rfl (hb hby hd) rfl q) K
theorem o_ishl (X : OW p l e R s m args below meth c Z y bytes mx ret n0 T h k n) {x z : Int32} (hd : decode bytes pc = .ok (.ishl, 1))  (pc' : Nat) (hp : pc + 1 = pc') (K : OE p e R below s n0 Q T (mkF m pc' Ls (.int (x <<< (z &&& 31)) :: st))) : OE p e R below s n0 Q T (mkF m pc Ls (.int z :: .int x :: st)) := by
  obtain ⟨hx, hZ, hown, hby, hmx, hret, hnm, hlk, h0, hT, locs, S, N⟩ := X; subst hp
  exact OE.by (fun t q => XT.ishl S.here hx rfl (hb hby hd) rfl q) K
theorem o_ishr (X : OW p l e R s m args below meth c Z y bytes mx ret n0 T h k n) {x z : Int32} (hd : decode bytes pc = .ok (.ishr, 1))  (pc' : Nat) (hp : pc + 1 = pc') (K : OE p e R below s n0 Q T (mkF m pc' Ls (.int (x >>> (z &&& 31)) :: st))) : OE p e R below s n0 Q T (mkF m pc Ls (.int z :: .int x :: st)) := by
  obtain ⟨hx, hZ, hown, hby, hmx, hret, hnm, hlk, h0, hT, locs, S, N⟩ := X; subst hp
  exact OE.by (fun t q => XT.ishr S.here hx rfl (hb hby hd) rfl q) K
theorem o_iushr (X : OW p l e R s m args below meth c Z y bytes mx ret n0 T h k n) {x z : Int32} (hd : decode bytes pc = .ok (.iushr, 1))  (pc' : Nat) (hp : pc + 1 = pc') (K : OE p e R below s n0 Q T (mkF m pc' Ls (.int (XT.ushr x z) :: st))) : OE p e R below s n0 Q T (mkF m pc Ls (.int z :: .int x :: st)) := by
  obtain ⟨hx, hZ, hown, hby, hmx, hret, hnm, hlk, h0, hT, locs, S, N⟩ := X; subst hp
  exact OE.by (fun t q => XT.iushr S.here hx rfl (hb hby hd) rfl q) K
theorem o_idiv (X : OW p l e R s m args below meth c Z y bytes mx ret n0 T h k n) {x z : Int32} (hd : decode bytes pc = .ok (.idiv, 1)) (hz : z ≠ 0) (pc' : Nat) (hp : pc + 1 = pc') (K : OE p e R below s n0 Q T (mkF m pc' Ls (.int (x / z) :: st))) : OE p e R below s n0 Q T (mkF m pc Ls (.int z :: .int x :: st)) := by
  obtain ⟨hx, hZ, hown, hby, hmx, hret, hnm, hlk, h0, hT, locs, S, N⟩ := X; subst hp
  exact OE.by (fun t q => XS.idiv S.here hx rfl (hb hby hd) rfl hz q) K
theorem o_irem (X : OW p l e R s m args below meth c Z y bytes mx ret n0 T h k n) {x z : Int32} (hd : decode bytes pc = .ok (.irem, 1)) (hz : z ≠ 0) (pc' : Nat) (hp : pc + 1 = pc') (K : OE p e R below s n0 Q T (mkF m pc' Ls (.int (x % z) :: st))) : OE p e R below s n0 Q T (mkF m pc Ls (.int z :: .int x :: st)) := by
  obtain ⟨hx, hZ, hown, hby, hmx, hret, hnm, hlk, h0, hT, locs, S, N⟩ := X; subst hp
  exact OE.by (fun t q => iremM S hx rfl (hb hby hd) rfl hz q) K
theorem o_ladd (X : OW p l e R s m args below meth c Z y bytes mx ret n0 T h k n) {x z : Int64} (hd : decode bytes pc = .ok (.ladd, 1))  (pc' : Nat) (hp : pc + 1 = pc') (K : OE p e R below s n0 Q T (mkF m pc' Ls (.long (x + z) :: st))) : OE p e R below s n0 Q T (mkF m pc Ls (.long z :: .long x :: st)) := by
  obtain ⟨hx, hZ, hown, hby, hmx, hret, hnm, hlk, h0, hT, locs, S, N⟩ := X; subst hp
  exact OE.by (fun t q => XT.ladd S.here hx rfl (hb hby hd) rfl q) K
theorem o_lsub (X : OW p l e R s m args below meth c Z y bytes mx ret n0 T h k n) {x z : Int64} (hd : decode bytes pc = .ok (.lsub, 1))  (pc' : Nat) (hp : pc + 1 = pc') (K : OE p e R below s n0 Q T (mkF m pc' Ls (.long (x - z) :: st))) : OE p e R below s n0 Q T (mkF m pc Ls (.long z :: .long x :: st)) := by
  obtain ⟨hx, hZ, hown, hby, hmx, hret, hnm, hlk, h0, hT, locs, S, N⟩ := X; subst hp
  exact OE.by (fun t q => XT.lsub S.here hx rfl (hb hby hd) rfl q) K
theorem o_lor (X : OW p l e R s m args below meth c Z y bytes mx ret n0 T h k n) {x z : Int64} (hd : decode bytes pc = .ok (.lor, 1))  (pc' : Nat) (hp : pc + 1 = pc') (K : OE p e R below s n0 Q T (mkF m pc' Ls (.long (x ||| z) :: st))) : OE p e R below s n0 Q T (mkF m pc Ls (.long z :: .long x :: st)) := by
  obtain ⟨hx, hZ, hown, hby, hmx, hret, hnm, hlk, h0, hT, locs, S, N⟩ := X; subst hp
  exact OE.by (fun t q => XT.lor S.here hx rfl (hb hby hd) rfl q) K
theorem o_land (X : OW p l e R s m args below meth c Z y bytes mx ret n0 T h k n) {x z : Int64} (hd : decode bytes pc = .ok (.land, 1))  (pc' : Nat) (hp : pc + 1 = pc') (K : OE p e R below s n0 Q T (mkF m pc' Ls (.long (x &&& z) :: st))) : OE p e R below s n0 Q T (mkF m pc Ls (.long z :: .long x :: st)) := by
  obtain ⟨hx, hZ, hown, hby, hmx, hret, hnm, hlk, h0, hT, locs, S, N⟩ := X; subst hp
  exact OE.by (fun t q => XT.land S.here hx rfl (hb hby hd) rfl q) K
theorem o_lmul (X : OW p l e R s m args below meth c Z y bytes mx ret n0 T h k n) {x z : Int64} (hd : decode bytes pc = .ok (.lmul, 1))  (pc' : Nat) (hp : pc + 1 = pc') (K : OE p e R below s n0 Q T (mkF m pc' Ls (.long (x * z) :: st))) : OE p e R below s n0 Q T (mkF m pc Ls (.long z :: .long x :: st)) := by
  obtain ⟨hx, hZ, hown, hby, hmx, hret, hnm, hlk, h0, hT, locs, S, N⟩ := X; subst hp
  exact OE.by (fun t q => XT.lmul S.here hx rfl (hb hby hd) rfl q) K
theorem o_lshl (X : OW p l e R s m args below meth c Z y bytes mx ret n0 T h k n) {x : Int64} {z : Int32} (hd : decode bytes pc = .ok (.lshl, 1))  (pc' : Nat) (hp : pc + 1 = pc') (K : OE p e R below s n0 Q T (mkF m pc' Ls (.long (x <<< (z.toInt64 &&& 63)) :: st))) : OE p e R below s n0 Q T (mkF m pc Ls (.int z :: .long x :: st)) := by
  obtain ⟨hx, hZ, hown, hby, hmx, hret, hnm, hlk, h0, hT, locs, S, N⟩ := X; subst hp
  exact OE.by (fun t q => XT.lshl S.here hx rfl (hb hby hd) rfl q) K
theorem o_lushr (X : OW p l e R s m args below meth c Z y bytes mx ret n0 T h k n) {x : Int64} {z : Int32} (hd : decode bytes pc = .ok (.lushr, 1))  (pc' : Nat) (hp : pc + 1 = pc') (K : OE p e R below s n0 Q T (mkF m pc' Ls (.long (XT.ushrL x z) :: st))) : OE p e R below s n0 Q T (mkF m pc Ls (.int z :: .long x :: st)) := by
  obtain ⟨hx, hZ, hown, hby, hmx, hret, hnm, hlk, h0, hT, locs, S, N⟩ := X; subst hp
  exact OE.by (fun t q => XT.lushr S.here hx rfl (hb hby hd) rfl q) K
theorem o_lcmp (X : OW p l e R s m args below meth c Z y bytes mx ret n0 T h k n) {x z : Int64} (hd : decode bytes pc = .ok (.lcmp, 1))  (pc' : Nat) (hp : pc + 1 = pc') (K : OE p e R below s n0 Q T (mkF m pc' Ls (.int (XT.cmpL x z) :: st))) : OE p e R below s n0 Q T (mkF m pc Ls (.long z :: .long x :: st)) := by
  obtain ⟨hx, hZ, hown, hby, hmx, hret, hnm, hlk, h0, hT, locs, S, N⟩ := X; subst hp
  exact OE.by (fun t q => XT.lcmp S.here hx rfl (hb hby hd) rfl q) K
theorem o_i2l (X : OW p l e R s m args below meth c Z y bytes mx ret n0 T h k n) {x : Int32} (hd : decode bytes pc = .ok (.i2l, 1))  (pc' : Nat) (hp : pc + 1 = pc') (K : OE p e R below s n0 Q T (mkF m pc' Ls (.long x.toInt64 :: st))) : OE p e R below s n0 Q T (mkF m pc Ls (.int x :: st)) := by
  obtain ⟨hx, hZ, hown, hby, hmx, hret, hnm, hlk, h0, hT, locs, S, N⟩ := X; subst hp
  exact OE.by (fun t q => XT.i2l S.here hx rfl (hb hby hd) rfl q) K
theorem o_l2i (X : OW p l e R s m args below meth c Z y bytes mx ret n0 T h k n) {x : Int64} (hd : decode bytes pc = .ok (.l2i, 1))  (pc' : Nat) (hp : pc + 1 = pc') (K : OE p e R below s n0 Q T (mkF m pc' Ls (.int x.toInt32 :: st))) : OE p e R below s n0 Q T (mkF m pc Ls (.long x :: st)) := by
  obtain ⟨hx, hZ, hown, hby, hmx, hret, hnm, hlk, h0, hT, locs, S, N⟩ := X; subst hp
  exact OE.by (fun t q => XT.l2i S.here hx rfl (hb hby hd) rfl q) K
theorem o_i2b (X : OW p l e R s m args below meth c Z y bytes mx ret n0 T h k n) {x : Int32} (hd : decode bytes pc = .ok (.i2b, 1))  (pc' : Nat) (hp : pc + 1 = pc') (K : OE p e R below s n0 Q T (mkF m pc' Ls (.int x.toInt8.toInt32 :: st))) : OE p e R below s n0 Q T (mkF m pc Ls (.int x :: st)) := by
  obtain ⟨hx, hZ, hown, hby, hmx, hret, hnm, hlk, h0, hT, locs, S, N⟩ := X; subst hp
  exact OE.by (fun t q => XT.i2b S.here hx rfl (hb hby hd) rfl q) K
theorem o_i2c (X : OW p l e R s m args below meth c Z y bytes mx ret n0 T h k n) {x : Int32} (hd : decode bytes pc = .ok (.i2c, 1))  (pc' : Nat) (hp : pc + 1 = pc') (K : OE p e R below s n0 Q T (mkF m pc' Ls (.int x.toUInt32.toUInt16.toUInt32.toInt32 :: st))) : OE p e R below s n0 Q T (mkF m pc Ls (.int x :: st)) := by
  obtain ⟨hx, hZ, hown, hby, hmx, hret, hnm, hlk, h0, hT, locs, S, N⟩ := X; subst hp
  exact OE.by (fun t q => XT.i2c S.here hx rfl (hb hby hd) rfl q) K
theorem o_dup (X : OW p l e R s m args below meth c Z y bytes mx ret n0 T h k n) {v : Value} (hd : decode bytes pc = .ok (.dup, 1)) (hc : v.category = 1) (pc' : Nat) (hp : pc + 1 = pc') (K : OE p e R below s n0 Q T (mkF m pc' Ls (v :: v :: st))) : OE p e R below s n0 Q T (mkF m pc Ls (v :: st)) := by
  obtain ⟨hx, hZ, hown, hby, hmx, hret, hnm, hlk, h0, hT, locs, S, N⟩ := X; subst hp
  exact OE.by (fun t q => XS.dup S.here hx rfl (hb hby hd) rfl hc q) K
theorem o_pop (X : OW p l e R s m args below meth c Z y bytes mx ret n0 T h k n) {v : Value} (hd : decode bytes pc = .ok (.pop, 1)) (hc : v.category = 1) (pc' : Nat) (hp : pc + 1 = pc') (K : OE p e R below s n0 Q T (mkF m pc' Ls st)) : OE p e R below s n0 Q T (mkF m pc Ls (v :: st)) := by
  obtain ⟨hx, hZ, hown, hby, hmx, hret, hnm, hlk, h0, hT, locs, S, N⟩ := X; subst hp
  exact OE.by (fun t q => XT.pop S.here hx rfl (hb hby hd) rfl hc q) K
theorem o_dupX1 (X : OW p l e R s m args below meth c Z y bytes mx ret n0 T h k n) {v w : Value} (hd : decode bytes pc = .ok (.dup_x1, 1)) (hc : v.category = 1) (hc' : w.category = 1) (pc' : Nat) (hp : pc + 1 = pc') (K : OE p e R below s n0 Q T (mkF m pc' Ls (v :: w :: v :: st))) : OE p e R below s n0 Q T (mkF m pc Ls (v :: w :: st)) := by
  obtain ⟨hx, hZ, hown, hby, hmx, hret, hnm, hlk, h0, hT, locs, S, N⟩ := X; subst hp
  exact OE.by (fun t q => XT.dupX1 S.here hx rfl (hb hby hd) rfl hc hc' q) K
theorem o_dup2 (X : OW p l e R s m args below meth c Z y bytes mx ret n0 T h k n) {v w : Value} (hd : decode bytes pc = .ok (.dup2, 1)) (hc : v.category = 1) (hc' : w.category = 1) (pc' : Nat) (hp : pc + 1 = pc') (K : OE p e R below s n0 Q T (mkF m pc' Ls (v :: w :: v :: w :: st))) : OE p e R below s n0 Q T (mkF m pc Ls (v :: w :: st)) := by
  obtain ⟨hx, hZ, hown, hby, hmx, hret, hnm, hlk, h0, hT, locs, S, N⟩ := X; subst hp
  exact OE.by (fun t q => XT.dup2 S.here hx rfl (hb hby hd) rfl hc hc' q) K
theorem o_istoreN (X : OW p l e R s m args below meth c Z y bytes mx ret n0 T h k n) {j : Fin 4} {v : Int32} (hd : decode bytes pc = .ok (.istore_n j, 1)) (Ls' : Array Slot) (hl : storeLocals Ls j.val (.int v) = some Ls') (pc' : Nat) (hp : pc + 1 = pc') (K : OE p e R below s n0 Q T (mkF m pc' Ls' st)) : OE p e R below s n0 Q T (mkF m pc Ls (.int v :: st)) := by
  obtain ⟨hx, hZ, hown, hby, hmx, hret, hnm, hlk, h0, hT, locs, S, N⟩ := X; subst hp
  exact OE.by (fun t q => XS.istoreN S.here hx rfl (hb hby hd) rfl hl q) K
theorem o_istore (X : OW p l e R s m args below meth c Z y bytes mx ret n0 T h k n) {j : Nat} {v : Int32} (hd : decode bytes pc = .ok (.istore j, 2)) (Ls' : Array Slot) (hl : storeLocals Ls j (.int v) = some Ls') (pc' : Nat) (hp : pc + 2 = pc') (K : OE p e R below s n0 Q T (mkF m pc' Ls' st)) : OE p e R below s n0 Q T (mkF m pc Ls (.int v :: st)) := by
  obtain ⟨hx, hZ, hown, hby, hmx, hret, hnm, hlk, h0, hT, locs, S, N⟩ := X; subst hp
  exact OE.by (fun t q => XS.istore S.here hx rfl (hb hby hd) rfl hl q) K
theorem o_lstoreN (X : OW p l e R s m args below meth c Z y bytes mx ret n0 T h k n) {j : Fin 4} {v : Int64} (hd : decode bytes pc = .ok (.lstore_n j, 1)) (Ls' : Array Slot) (hl : storeLocals Ls j.val (.long v) = some Ls') (pc' : Nat) (hp : pc + 1 = pc') (K : OE p e R below s n0 Q T (mkF m pc' Ls' st)) : OE p e R below s n0 Q T (mkF m pc Ls (.long v :: st)) := by
  obtain ⟨hx, hZ, hown, hby, hmx, hret, hnm, hlk, h0, hT, locs, S, N⟩ := X; subst hp
  exact OE.by (fun t q => XT.lstoreN S.here hx rfl (hb hby hd) rfl hl q) K
theorem o_lstore (X : OW p l e R s m args below meth c Z y bytes mx ret n0 T h k n) {j : Nat} {v : Int64} (hd : decode bytes pc = .ok (.lstore j, 2)) (Ls' : Array Slot) (hl : storeLocals Ls j (.long v) = some Ls') (pc' : Nat) (hp : pc + 2 = pc') (K : OE p e R below s n0 Q T (mkF m pc' Ls' st)) : OE p e R below s n0 Q T (mkF m pc Ls (.long v :: st)) := by
  obtain ⟨hx, hZ, hown, hby, hmx, hret, hnm, hlk, h0, hT, locs, S, N⟩ := X; subst hp
  exact OE.by (fun t q => XT.lstore S.here hx rfl (hb hby hd) rfl hl q) K
theorem o_astoreN (X : OW p l e R s m args below meth c Z y bytes mx ret n0 T h k n) {j : Fin 4} {v : Value} (hd : decode bytes pc = .ok (.astore_n j, 1)) (hv : v.isRef = true) (Ls' : Array Slot) (hl : storeLocals Ls j.val v = some Ls') (pc' : Nat) (hp : pc + 1 = pc') (K : OE p e R below s n0 Q T (mkF m pc' Ls' st)) : OE p e R below s n0 Q T (mkF m pc Ls (v :: st)) := by
  obtain ⟨hx, hZ, hown, hby, hmx, hret, hnm, hlk, h0, hT, locs, S, N⟩ := X; subst hp
  exact OE.by (fun t q => XS.astoreN S.here hx rfl (hb hby hd) rfl hv hl q) K
theorem o_astore (X : OW p l e R s m args below meth c Z y bytes mx ret n0 T h k n) {j : Nat} {v : Value} (hd : decode bytes pc = .ok (.astore j, 2)) (hv : v.isRef = true) (Ls' : Array Slot) (hl : storeLocals Ls j v = some Ls') (pc' : Nat) (hp : pc + 2 = pc') (K : OE p e R below s n0 Q T (mkF m pc' Ls' st)) : OE p e R below s n0 Q T (mkF m pc Ls (v :: st)) := by
  obtain ⟨hx, hZ, hown, hby, hmx, hret, hnm, hlk, h0, hT, locs, S, N⟩ := X; subst hp
  exact OE.by (fun t q => XS.astore S.here hx rfl (hb hby hd) rfl hv hl q) K
theorem o_iinc (X : OW p l e R s m args below meth c Z y bytes mx ret n0 T h k n) {j : Nat} {i : Int} {v w : Int32} (hd : decode bytes pc = .ok (.iinc j i, 3)) (hg : Ls[j]? = some (.val (.int v))) (hw : v + Int32.ofInt i = w) (Ls' : Array Slot) (hl : storeLocals Ls j (.int w) = some Ls') (pc' : Nat) (hp : pc + 3 = pc') (K : OE p e R below s n0 Q T (mkF m pc' Ls' st)) : OE p e R below s n0 Q T (mkF m pc Ls st) := by
  obtain ⟨hx, hZ, hown, hby, hmx, hret, hnm, hlk, h0, hT, locs, S, N⟩ := X; subst hp hw
  exact OE.by (fun t q => XS.iinc S.here hx rfl (hb hby hd) hg hl q) K
theorem o_goto (X : OW p l e R s m args below meth c Z y bytes mx ret n0 T h k n) {o : Int} (hd : decode bytes pc = .ok (.goto o, 3)) (pc' : Nat) (ho : 0 ≤ (pc : Int) + o) (hp : ((pc : Int) + o).toNat = pc') (K : OE p e R below s n0 Q T (mkF m pc' Ls st)) : OE p e R below s n0 Q T (mkF m pc Ls st) := by
  obtain ⟨hx, hZ, hown, hby, hmx, hret, hnm, hlk, h0, hT, locs, S, N⟩ := X
  exact OE.by (fun t q => XS.goto S.here hx rfl rfl (hb hby hd) ho hp q) K
theorem o_icmpEq (X : OW p l e R s m args below meth c Z y bytes mx ret n0 T h k n) {o : Int} {x z : Int32} (hd : decode bytes pc = .ok (.if_icmp .eq o, 3)) (pcT pcF : Nat) (ho : 0 ≤ (pc : Int) + o) (hT : ((pc : Int) + o).toNat = pcT) (hF : pc + 3 = pcF) (KT : x = z → OE p e R below s n0 Q T (mkF m pcT Ls st)) (KF : ¬ x = z → OE p e R below s n0 Q T (mkF m pcF Ls st)) : OE p e R below s n0 Q T (mkF m pc Ls (.int z :: .int x :: st)) := by
  obtain ⟨hx, hZ, hown, hby, hmx, hret, hnm, hlk, h0, hT', locs, S, N⟩ := X; subst hF
  by_cases q : x = z
  · exact OE.by (fun t r => XS.icmpYes S.here hx rfl rfl (hb hby hd) rfl ((teq q).1) ho hT r) (KT q)
  · exact OE.by (fun t r => XS.icmpNo S.here hx rfl (hb hby hd) rfl ((feq q).1) r) (KF q)
theorem o_ifEq (X : OW p l e R s m args below meth c Z y bytes mx ret n0 T h k n) {o : Int} {x : Int32} (hd : decode bytes pc = .ok (.ifCond .eq o, 3)) (pcT pcF : Nat) (ho : 0 ≤ (pc : Int) + o) (hT : ((pc : Int) + o).toNat = pcT) (hF : pc + 3 = pcF) (KT : x = 0 → OE p e R below s n0 Q T (mkF m pcT Ls st)) (KF : ¬ x = 0 → OE p e R below s n0 Q T (mkF m pcF Ls st)) : OE p e R below s n0 Q T (mkF m pc Ls (.int x :: st)) := by
  obtain ⟨hx, hZ, hown, hby, hmx, hret, hnm, hlk, h0, hT', locs, S, N⟩ := X; subst hF
  by_cases q : x = 0
  · exact OE.by (fun t r => XS.ifYes S.here hx rfl rfl (hb hby hd) rfl ((if0 _ _).trans (teq q).1) ho hT r) (KT q)
  · exact OE.by (fun t r => XS.ifNo S.here hx rfl (hb hby hd) rfl ((if0 _ _).trans (feq q).1) r) (KF q)
theorem o_icmpNe (X : OW p l e R s m args below meth c Z y bytes mx ret n0 T h k n) {o : Int} {x z : Int32} (hd : decode bytes pc = .ok (.if_icmp .ne o, 3)) (pcT pcF : Nat) (ho : 0 ≤ (pc : Int) + o) (hT : ((pc : Int) + o).toNat = pcT) (hF : pc + 3 = pcF) (KT : ¬ x = z → OE p e R below s n0 Q T (mkF m pcT Ls st)) (KF : x = z → OE p e R below s n0 Q T (mkF m pcF Ls st)) : OE p e R below s n0 Q T (mkF m pc Ls (.int z :: .int x :: st)) := by
  obtain ⟨hx, hZ, hown, hby, hmx, hret, hnm, hlk, h0, hT', locs, S, N⟩ := X; subst hF
  by_cases q : x = z
  · exact OE.by (fun t r => XS.icmpNo S.here hx rfl (hb hby hd) rfl ((teq q).2) r) (KF q)
  · exact OE.by (fun t r => XS.icmpYes S.here hx rfl rfl (hb hby hd) rfl ((feq q).2) ho hT r) (KT q)
theorem o_ifNe (X : OW p l e R s m args below meth c Z y bytes mx ret n0 T h k n) {o : Int} {x : Int32} (hd : decode bytes pc = .ok (.ifCond .ne o, 3)) (pcT pcF : Nat) (ho : 0 ≤ (pc : Int) + o) (hT : ((pc : Int) + o).toNat = pcT) (hF : pc + 3 = pcF) (KT : ¬ x = 0 → OE p e R below s n0 Q T (mkF m pcT Ls st)) (KF : x = 0 → OE p e R below s n0 Q T (mkF m pcF Ls st)) : OE p e R below s n0 Q T (mkF m pc Ls (.int x :: st)) := by
  obtain ⟨hx, hZ, hown, hby, hmx, hret, hnm, hlk, h0, hT', locs, S, N⟩ := X; subst hF
  by_cases q : x = 0
  · exact OE.by (fun t r => XS.ifNo S.here hx rfl (hb hby hd) rfl ((if0 _ _).trans (teq q).2) r) (KF q)
  · exact OE.by (fun t r => XS.ifYes S.here hx rfl rfl (hb hby hd) rfl ((if0 _ _).trans (feq q).2) ho hT r) (KT q)
theorem o_icmpLt (X : OW p l e R s m args below meth c Z y bytes mx ret n0 T h k n) {o : Int} {x z : Int32} (hd : decode bytes pc = .ok (.if_icmp .lt o, 3)) (pcT pcF : Nat) (ho : 0 ≤ (pc : Int) + o) (hT : ((pc : Int) + o).toNat = pcT) (hF : pc + 3 = pcF) (KT : x < z → OE p e R below s n0 Q T (mkF m pcT Ls st)) (KF : ¬ x < z → OE p e R below s n0 Q T (mkF m pcF Ls st)) : OE p e R below s n0 Q T (mkF m pc Ls (.int z :: .int x :: st)) := by
  obtain ⟨hx, hZ, hown, hby, hmx, hret, hnm, hlk, h0, hT', locs, S, N⟩ := X; subst hF
  by_cases q : x < z
  · exact OE.by (fun t r => XS.icmpYes S.here hx rfl rfl (hb hby hd) rfl ((tlt q).1) ho hT r) (KT q)
  · exact OE.by (fun t r => XS.icmpNo S.here hx rfl (hb hby hd) rfl ((flt q).1) r) (KF q)
theorem o_ifLt (X : OW p l e R s m args below meth c Z y bytes mx ret n0 T h k n) {o : Int} {x : Int32} (hd : decode bytes pc = .ok (.ifCond .lt o, 3)) (pcT pcF : Nat) (ho : 0 ≤ (pc : Int) + o) (hT : ((pc : Int) + o).toNat = pcT) (hF : pc + 3 = pcF) (KT : x < 0 → OE p e R below s n0 Q T (mkF m pcT Ls st)) (KF : ¬ x < 0 → OE p e R below s n0 Q T (mkF m pcF Ls st)) : OE p e R below s n0 Q T (mkF m pc Ls (.int x :: st)) := by
  obtain ⟨hx, hZ, hown, hby, hmx, hret, hnm, hlk, h0, hT', locs, S, N⟩ := X; subst hF
  by_cases q : x < 0
  · exact OE.by (fun t r => XS.ifYes S.here hx rfl rfl (hb hby hd) rfl ((if0 _ _).trans (tlt q).1) ho hT r) (KT q)
  · exact OE.by (fun t r => XS.ifNo S.here hx rfl (hb hby hd) rfl ((if0 _ _).trans (flt q).1) r) (KF q)
theorem o_icmpGe (X : OW p l e R s m args below meth c Z y bytes mx ret n0 T h k n) {o : Int} {x z : Int32} (hd : decode bytes pc = .ok (.if_icmp .ge o, 3)) (pcT pcF : Nat) (ho : 0 ≤ (pc : Int) + o) (hT : ((pc : Int) + o).toNat = pcT) (hF : pc + 3 = pcF) (KT : ¬ x < z → OE p e R below s n0 Q T (mkF m pcT Ls st)) (KF : x < z → OE p e R below s n0 Q T (mkF m pcF Ls st)) : OE p e R below s n0 Q T (mkF m pc Ls (.int z :: .int x :: st)) := by
  obtain ⟨hx, hZ, hown, hby, hmx, hret, hnm, hlk, h0, hT', locs, S, N⟩ := X; subst hF
  by_cases q : x < z
  · exact OE.by (fun t r => XS.icmpNo S.here hx rfl (hb hby hd) rfl ((tlt q).2.1) r) (KF q)
  · exact OE.by (fun t r => XS.icmpYes S.here hx rfl rfl (hb hby hd) rfl ((flt q).2.1) ho hT r) (KT q)
theorem o_ifGe (X : OW p l e R s m args below meth c Z y bytes mx ret n0 T h k n) {o : Int} {x : Int32} (hd : decode bytes pc = .ok (.ifCond .ge o, 3)) (pcT pcF : Nat) (ho : 0 ≤ (pc : Int) + o) (hT : ((pc : Int) + o).toNat = pcT) (hF : pc + 3 = pcF) (KT : ¬ x < 0 → OE p e R below s n0 Q T (mkF m pcT Ls st)) (KF : x < 0 → OE p e R below s n0 Q T (mkF m pcF Ls st)) : OE p e R below s n0 Q T (mkF m pc Ls (.int x :: st)) := by
  obtain ⟨hx, hZ, hown, hby, hmx, hret, hnm, hlk, h0, hT', locs, S, N⟩ := X; subst hF
  by_cases q : x < 0
  · exact OE.by (fun t r => XS.ifNo S.here hx rfl (hb hby hd) rfl ((if0 _ _).trans (tlt q).2.1) r) (KF q)
  · exact OE.by (fun t r => XS.ifYes S.here hx rfl rfl (hb hby hd) rfl ((if0 _ _).trans (flt q).2.1) ho hT r) (KT q)
theorem o_icmpGt (X : OW p l e R s m args below meth c Z y bytes mx ret n0 T h k n) {o : Int} {x z : Int32} (hd : decode bytes pc = .ok (.if_icmp .gt o, 3)) (pcT pcF : Nat) (ho : 0 ≤ (pc : Int) + o) (hT : ((pc : Int) + o).toNat = pcT) (hF : pc + 3 = pcF) (KT : z < x → OE p e R below s n0 Q T (mkF m pcT Ls st)) (KF : ¬ z < x → OE p e R below s n0 Q T (mkF m pcF Ls st)) : OE p e R below s n0 Q T (mkF m pc Ls (.int z :: .int x :: st)) := by
  obtain ⟨hx, hZ, hown, hby, hmx, hret, hnm, hlk, h0, hT', locs, S, N⟩ := X; subst hF
  by_cases q : z < x
  · exact OE.by (fun t r => XS.icmpYes S.here hx rfl rfl (hb hby hd) rfl ((tlt q).2.2.1) ho hT r) (KT q)
  · exact OE.by (fun t r => XS.icmpNo S.here hx rfl (hb hby hd) rfl ((flt q).2.2.1) r) (KF q)
theorem o_ifGt (X : OW p l e R s m args below meth c Z y bytes mx ret n0 T h k n) {o : Int} {x : Int32} (hd : decode bytes pc = .ok (.ifCond .gt o, 3)) (pcT pcF : Nat) (ho : 0 ≤ (pc : Int) + o) (hT : ((pc : Int) + o).toNat = pcT) (hF : pc + 3 = pcF) (KT : 0 < x → OE p e R below s n0 Q T (mkF m pcT Ls st)) (KF : ¬ 0 < x → OE p e R below s n0 Q T (mkF m pcF Ls st)) : OE p e R below s n0 Q T (mkF m pc Ls (.int x :: st)) := by
  obtain ⟨hx, hZ, hown, hby, hmx, hret, hnm, hlk, h0, hT', locs, S, N⟩ := X; subst hF
  by_cases q : 0 < x
  · exact OE.by (fun t r => XS.ifYes S.here hx rfl rfl (hb hby hd) rfl ((if0 _ _).trans (tlt q).2.2.1) ho hT r) (KT q)
  · exact OE.by (fun t r => XS.ifNo S.here hx rfl (hb hby hd) rfl ((if0 _ _).trans (flt q).2.2.1) r) (KF q)
theorem o_icmpLe (X : OW p l e R s m args below meth c Z y bytes mx ret n0 T h k n) {o : Int} {x z : Int32} (hd : decode bytes pc = .ok (.if_icmp .le o, 3)) (pcT pcF : Nat) (ho : 0 ≤ (pc : Int) + o) (hT : ((pc : Int) + o).toNat = pcT) (hF : pc + 3 = pcF) (KT : ¬ z < x → OE p e R below s n0 Q T (mkF m pcT Ls st)) (KF : z < x → OE p e R below s n0 Q T (mkF m pcF Ls st)) : OE p e R below s n0 Q T (mkF m pc Ls (.int z :: .int x :: st)) := by
  obtain ⟨hx, hZ, hown, hby, hmx, hret, hnm, hlk, h0, hT', locs, S, N⟩ := X; subst hF
  by_cases q : z < x
  · exact OE.by (fun t r => XS.icmpNo S.here hx rfl (hb hby hd) rfl ((tlt q).2.2.2) r) (KF q)
  · exact OE.by (fun t r => XS.icmpYes S.here hx rfl rfl (hb hby hd) rfl ((flt q).2.2.2) ho hT r) (KT q)
theorem o_ifLe (X : OW p l e R s m args below meth c Z y bytes mx ret n0 T h k n) {o : Int} {x : Int32} (hd : decode bytes pc = .ok (.ifCond .le o, 3)) (pcT pcF : Nat) (ho : 0 ≤ (pc : Int) + o) (hT : ((pc : Int) + o).toNat = pcT) (hF : pc + 3 = pcF) (KT : ¬ 0 < x → OE p e R below s n0 Q T (mkF m pcT Ls st)) (KF : 0 < x → OE p e R below s n0 Q T (mkF m pcF Ls st)) : OE p e R below s n0 Q T (mkF m pc Ls (.int x :: st)) := by
  obtain ⟨hx, hZ, hown, hby, hmx, hret, hnm, hlk, h0, hT', locs, S, N⟩ := X; subst hF
  by_cases q : 0 < x
  · exact OE.by (fun t r => XS.ifNo S.here hx rfl (hb hby hd) rfl ((if0 _ _).trans (tlt q).2.2.2) r) (KF q)
  · exact OE.by (fun t r => XS.ifYes S.here hx rfl rfl (hb hby hd) rfl ((if0 _ _).trans (flt q).2.2.2) ho hT r) (KT q)
theorem o_ifnullR (X : OW p l e R s m args below meth c Z y bytes mx ret n0 T h k n) {o : Int} {a : Addr} (hd : decode bytes pc = .ok (.ifnull o, 3)) (pc' : Nat) (hp : pc + 3 = pc') (K : OE p e R below s n0 Q T (mkF m pc' Ls st)) : OE p e R below s n0 Q T (mkF m pc Ls (.ref a :: st)) := by
  obtain ⟨hx, hZ, hown, hby, hmx, hret, hnm, hlk, h0, hT, locs, S, N⟩ := X; subst hp
  exact OE.by (fun t q => XS.ifnullNo S.here hx rfl (hb hby hd) rfl q) K
theorem o_ifnonnullR (X : OW p l e R s m args below meth c Z y bytes mx ret n0 T h k n) {o : Int} {a : Addr} (hd : decode bytes pc = .ok (.ifnonnull o, 3)) (pc' : Nat) (ho : 0 ≤ (pc : Int) + o) (hp : ((pc : Int) + o).toNat = pc') (K : OE p e R below s n0 Q T (mkF m pc' Ls st)) : OE p e R below s n0 Q T (mkF m pc Ls (.ref a :: st)) := by
  obtain ⟨hx, hZ, hown, hby, hmx, hret, hnm, hlk, h0, hT, locs, S, N⟩ := X
  exact OE.by (fun t q => XT.ifnonnullYes S.here hx rfl rfl (hb hby hd) rfl ho hp q) K
theorem o_acmpEqN (X : OW p l e R s m args below meth c Z y bytes mx ret n0 T h k n) {o : Int} {a b : Addr} (hd : decode bytes pc = .ok (.if_acmp .eq o, 3)) (hab : a ≠ b) (pc' : Nat) (hp : pc + 3 = pc') (K : OE p e R below s n0 Q T (mkF m pc' Ls st)) : OE p e R below s n0 Q T (mkF m pc Ls (.ref b :: .ref a :: st)) := by
  obtain ⟨hx, hZ, hown, hby, hmx, hret, hnm, hlk, h0, hT, locs, S, N⟩ := X; subst hp
  exact OE.by (fun t q => XT.acmpNo S.here hx rfl (hb hby hd) rfl rfl rfl (decide_eq_false fun r => hab (Value.ref.inj r)) q) K
theorem o_acmpNeY (X : OW p l e R s m args below meth c Z y bytes mx ret n0 T h k n) {o : Int} {a b : Addr} (hd : decode bytes pc = .ok (.if_acmp .ne o, 3)) (hab : a ≠ b) (pc' : Nat) (ho : 0 ≤ (pc : Int) + o) (hp : ((pc : Int) + o).toNat = pc') (K : OE p e R below s n0 Q T (mkF m pc' Ls st)) : OE p e R below s n0 Q T (mkF m pc Ls (.ref b :: .ref a :: st)) := by
  obtain ⟨hx, hZ, hown, hby, hmx, hret, hnm, hlk, h0, hT, locs, S, N⟩ := X
  exact OE.by (fun t q => XT.acmpYes S.here hx rfl rfl (hb hby hd) rfl rfl rfl (decide_eq_true fun r => hab (Value.ref.inj r)) ho hp q) K
theorem o_ldc (X : OW p l e R s m args below meth c Z y bytes mx ret n0 T h k n) {i : Nat} {v : Int32} (hd : decode bytes pc = .ok (.ldc i, 2)) (w : (Cond.constant y.cls i v).before a0 Z = true) (pc' : Nat) (hp : pc + 2 = pc') (K : OE p e R below s n0 Q T (mkF m pc' Ls (.int v :: st))) : OE p e R below s n0 Q T (mkF m pc Ls st) := by
  obtain ⟨hx, hZ, hown, hby, hmx, hret, hnm, hlk, h0, hT, locs, S, N⟩ := X; subst hp
  exact OE.by (fun t q => S.ldcInt hx hown (mvT hZ w) (g := mkF m pc Ls st) rfl (hb hby hd) t q) K
theorem o_ldc2L (X : OW p l e R s m args below meth c Z y bytes mx ret n0 T h k n) {i : Nat} {v : Int64} (hd : decode bytes pc = .ok (.ldc2_w i, 3)) (w : (Cond.constantLong y.cls i v).before a0 Z = true) (pc' : Nat) (hp : pc + 3 = pc') (K : OE p e R below s n0 Q T (mkF m pc' Ls (.long v :: st))) : OE p e R below s n0 Q T (mkF m pc Ls st) := by
  obtain ⟨hx, hZ, hown, hby, hmx, hret, hnm, hlk, h0, hT, locs, S, N⟩ := X; subst hp
  exact OE.by (fun t q => S.ldc2Long hx hown (mvT hZ w) (g := mkF m pc Ls st) rfl (hb hby hd) t q) K
theorem o_retZ (X : OW p l e R s m args below meth c Z y bytes mx (some .boolean) n0 T h k n) {z : Int32} (hd : decode bytes pc = .ok (.ireturn, 1)) (hk : k ≤ R.cells) (hn : n ≤ R.slots) (hq : Q (some (.int (nar .boolean z))) h) : OE p e R below s n0 Q T (mkF m pc Ls (.int z :: st)) := by
  obtain ⟨hx, hZ, hown, hby, hmx, hret, hnm, hlk, h0, hT, locs, S, N⟩ := X
  obtain ⟨fs, hr, hrun, hended, hW, hsame⟩ := S.leave (v := some (.int (nar .boolean z))) (fun q => by rw [hret] at q; cases q) hlk
  exact ⟨_, _, retN S hx (t := .boolean) hret (by simp) (hb hby hd) hr, hrun, hended, _, _, rfl, ⟨by show Q _ T.heap; rw [hT]; exact hq, N⟩, ⟨_, rfl⟩, hW, hsame.mono hk hn⟩
theorem o_retB (X : OW p l e R s m args below meth c Z y bytes mx (some .byte) n0 T h k n) {z : Int32} (hd : decode bytes pc = .ok (.ireturn, 1)) (hk : k ≤ R.cells) (hn : n ≤ R.slots) (hq : Q (some (.int (nar .byte z))) h) : OE p e R below s n0 Q T (mkF m pc Ls (.int z :: st)) := by
  obtain ⟨hx, hZ, hown, hby, hmx, hret, hnm, hlk, h0, hT, locs, S, N⟩ := X
  obtain ⟨fs, hr, hrun, hended, hW, hsame⟩ := S.leave (v := some (.int (nar .byte z))) (fun q => by rw [hret] at q; cases q) hlk
  exact ⟨_, _, retN S hx (t := .byte) hret (by simp) (hb hby hd) hr, hrun, hended, _, _, rfl, ⟨by show Q _ T.heap; rw [hT]; exact hq, N⟩, ⟨_, rfl⟩, hW, hsame.mono hk hn⟩
theorem o_retC (X : OW p l e R s m args below meth c Z y bytes mx (some .char) n0 T h k n) {z : Int32} (hd : decode bytes pc = .ok (.ireturn, 1)) (hk : k ≤ R.cells) (hn : n ≤ R.slots) (hq : Q (some (.int (nar .char z))) h) : OE p e R below s n0 Q T (mkF m pc Ls (.int z :: st)) := by
  obtain ⟨hx, hZ, hown, hby, hmx, hret, hnm, hlk, h0, hT, locs, S, N⟩ := X
  obtain ⟨fs, hr, hrun, hended, hW, hsame⟩ := S.leave (v := some (.int (nar .char z))) (fun q => by rw [hret] at q; cases q) hlk
  exact ⟨_, _, retN S hx (t := .char) hret (by simp) (hb hby hd) hr, hrun, hended, _, _, rfl, ⟨by show Q _ T.heap; rw [hT]; exact hq, N⟩, ⟨_, rfl⟩, hW, hsame.mono hk hn⟩
theorem o_retI (X : OW p l e R s m args below meth c Z y bytes mx (some .int) n0 T h k n) {z : Int32} (hd : decode bytes pc = .ok (.ireturn, 1)) (hk : k ≤ R.cells) (hn : n ≤ R.slots) (hq : Q (some (.int z)) h) : OE p e R below s n0 Q T (mkF m pc Ls (.int z :: st)) := by
  obtain ⟨hx, hZ, hown, hby, hmx, hret, hnm, hlk, h0, hT, locs, S, N⟩ := X
  obtain ⟨fs, hr, hrun, hended, hW, hsame⟩ := S.leave (v := some (.int z)) (fun q => by rw [hret] at q; cases q) hlk
  exact ⟨_, _, retOut S hx hret rfl (Or.inl ⟨rfl, Or.inl rfl, z, rfl⟩) (hb hby hd) hr, hrun, hended, _, _, rfl, ⟨by show Q _ T.heap; rw [hT]; exact hq, N⟩, ⟨_, rfl⟩, hW, hsame.mono hk hn⟩
theorem o_retJ (X : OW p l e R s m args below meth c Z y bytes mx (some .long) n0 T h k n) {z : Int64} (hd : decode bytes pc = .ok (.lreturn, 1)) (hk : k ≤ R.cells) (hn : n ≤ R.slots) (hq : Q (some (.long z)) h) : OE p e R below s n0 Q T (mkF m pc Ls (.long z :: st)) := by
  obtain ⟨hx, hZ, hown, hby, hmx, hret, hnm, hlk, h0, hT, locs, S, N⟩ := X
  obtain ⟨fs, hr, hrun, hended, hW, hsame⟩ := S.leave (v := some (.long z)) (fun q => by rw [hret] at q; cases q) hlk
  exact ⟨_, _, retOut S hx hret rfl (Or.inr (Or.inl ⟨rfl, rfl, z, rfl⟩)) (hb hby hd) hr, hrun, hended, _, _, rfl, ⟨by show Q _ T.heap; rw [hT]; exact hq, N⟩, ⟨_, rfl⟩, hW, hsame.mono hk hn⟩
theorem o_retA {ty : FieldType} (X : OW p l e R s m args below meth c Z y bytes mx (some ty) n0 T h k n) (hty : ty.isReference = true) {a : Addr} (hnar : narrow ty (.ref a) = .ref a) (hd : decode bytes pc = .ok (.areturn, 1)) (hk : k ≤ R.cells) (hn : n ≤ R.slots) (hq : Q (some (.ref a)) h) : OE p e R below s n0 Q T (mkF m pc Ls (.ref a :: st)) := by
  obtain ⟨hx, hZ, hown, hby, hmx, hret, hnm, hlk, h0, hT, locs, S, N⟩ := X
  obtain ⟨fs, hr, hrun, hended, hW, hsame⟩ := S.leave (v := some (.ref a)) (fun q => by rw [hret] at q; cases q) hlk
  exact ⟨_, _, retOut S hx hret hnar (Or.inr (Or.inr (Or.inr (Or.inr ⟨rfl, hty, rfl⟩)))) (hb hby hd) hr, hrun, hended, _, _, rfl, ⟨by show Q _ T.heap; rw [hT]; exact hq, N⟩, ⟨_, rfl⟩, hW, hsame.mono hk hn⟩
theorem o_ret (X : OW p l e R s m args below meth c Z y bytes mx none n0 T h k n) (hd : decode bytes pc = .ok (.return_, 1)) (hk : k ≤ R.cells) (hn : n ≤ R.slots) (hq : Q none h) : OE p e R below s n0 Q T (mkF m pc Ls []) := by
  obtain ⟨hx, hZ, hown, hby, hmx, hret, hnm, hlk, h0, hT, locs, S, N⟩ := X
  obtain ⟨fs, hr, hrun, hended, hW, hsame⟩ := S.leave (v := none) (fun _ => rfl) hlk
  exact ⟨_, _, S.returnOut hx hret (hb hby hd) hr, hrun, hended, _, _, rfl, ⟨by show Q _ T.heap; rw [hT]; exact hq, N⟩, ⟨_, rfl⟩, hW, hsame.mono hk hn⟩
/-! the heap: a list of places, each with what its cell says -/
def OA (Z : State) (ty : FieldType) (vs : List Int32) (c : Cell) : Prop := Z.isArrayOf c ty ∧ c.vm ≠ .unknown ∧ c.slots = (vs.map Value.int).toArray ∧ (∀ x ∈ vs, fits ty (.int x) = true) ∧ Z.vm.findClass ("[" ++ ty.toString) = some c.cls
def OL (n0 : Nat) (h : Heap) (L : List (Addr × (Cell → Prop))) : Prop := (L.map (·.1)).Nodup ∧ ∀ q ∈ L, n0 ≤ q.1 ∧ ∃ c : Cell, h[q.1]? = some c ∧ q.2 c
variable {L : List (Addr × (Cell → Prop))} {h' : Heap} {a : Addr} {ty : FieldType} {vs : List Int32} {PP : Cell → Prop}
theorem OL.nil : OL n0 h [] := ⟨List.nodup_nil, fun _ q => nomatch q⟩
theorem OL.ext (H : OL n0 h L) (E : Ext h h') : OL n0 h' L := ⟨H.1, fun q hq => by obtain ⟨h1, c, h2, h3⟩ := H.2 q hq; exact ⟨h1, c, E.2 _ _ h2, h3⟩⟩
theorem OL.lt (H : OL n0 h L) {q : Addr × (Cell → Prop)} (hq : q ∈ L) : q.1 < h.size := by obtain ⟨-, c, h2, -⟩ := H.2 q hq; exact (Array.getElem?_eq_some_iff.mp h2).1
theorem OL.push (H : OL n0 h L) (E : Ext h h') (h0 : n0 ≤ h.size) {c : Cell} (hc : h'[h.size]? = some c) (hp : PP c) : OL n0 h' ((h.size, PP) :: L) := by
  refine ⟨?_, fun q hq => ?_⟩
  · rw [List.map_cons, List.nodup_cons]
    refine ⟨fun hx => ?_, H.1⟩
    obtain ⟨q, hq, e⟩ := List.mem_map.mp hx
    have e' : q.1 = h.size := e
    exact absurd (H.lt hq) (by rw [e']; exact Nat.lt_irrefl _)
  · rcases List.mem_cons.mp hq with hq | hq
    · cases hq; exact ⟨h0, c, hc, hp⟩
    · exact (H.ext E).2 q hq
theorem OL.perm {L' : List (Addr × (Cell → Prop))} (H : OL n0 h L) (q : L.Perm L') : OL n0 h L' := ⟨(q.map (·.1)).nodup_iff.mp H.1, fun z hz => H.2 z (q.mem_iff.mpr hz)⟩
/-- the i-th place comes to the front -/
theorem OL.front (H : OL n0 h L) (i : Nat) {q : Addr × (Cell → Prop)} (hi : L[i]? = some q) : OL n0 h (q :: L.eraseIdx i) := by
  obtain ⟨hl, e⟩ := List.getElem?_eq_some_iff.mp hi
  refine H.perm ?_
  have e1 : L = L.take i ++ q :: L.drop (i + 1) := by rw [← e, List.getElem_cons_drop]; exact (List.take_append_drop i L).symm
  have e2 : L.eraseIdx i = L.take i ++ L.drop (i + 1) := List.eraseIdx_eq_take_drop_succ L i
  rw [e2]
  exact (List.Perm.of_eq e1).trans List.perm_middle
theorem OL.get (H : OL n0 h L) {i : Nat} (hi : L[i]? = some (a, PP)) : n0 ≤ a ∧ ∃ c : Cell, h[a]? = some c ∧ PP c := H.2 (a, PP) (List.mem_of_getElem? hi)
theorem OL.ne (H : OL n0 h L) {i j : Nat} {b : Addr} {PB : Cell → Prop} (hi : L[i]? = some (a, PP)) (hj : L[j]? = some (b, PB)) (hij : i ≠ j) : a ≠ b := by
  intro e; subst e
  have h1 : (L.map (·.1))[i]? = some a := by simp [hi]
  have h2 : (L.map (·.1))[j]? = some a := by simp [hj]
  obtain ⟨l1, -⟩ := List.getElem?_eq_some_iff.mp h1
  exact hij ((List.getElem?_inj l1 H.1).mp (h1.trans h2.symm))
theorem OL.wr (H : OL n0 h L) {i sl : Nat} {v : Value} {P' : Cell → Prop} (hi : L[i]? = some (a, PP)) (W : Wr h h' a sl v) (hP : ∀ c : Cell, h[a]? = some c → PP c → P' (c.setSlot sl v)) : OL n0 h' (L.set i (a, P')) := by
  have hmap : (L.set i (a, P')).map (·.1) = L.map (·.1) := by
    apply List.ext_getElem?
    intro j
    simp only [List.getElem?_map, List.getElem?_set]
    split
    · rename_i e; subst e; rw [if_pos (List.getElem?_eq_some_iff.mp hi).1, hi]; rfl
    · rfl
  refine ⟨by rw [hmap]; exact H.1, fun q hq => ?_⟩
  obtain ⟨j, hj⟩ := List.getElem?_of_mem hq
  rw [List.getElem?_set] at hj
  split at hj
  · rename_i e; subst e
    split at hj
    · cases hj
      obtain ⟨h1, c, h2, h3⟩ := H.get hi
      obtain ⟨c', e1, -, -, -, -, -, e7⟩ := wr_at W h2
      exact ⟨h1, c', e1, by rw [(e7 rfl).1]; exact hP c h2 h3⟩
    · cases hj
  · rename_i e
    obtain ⟨b, PB⟩ := q
    obtain ⟨h1, c, h2, h3⟩ := H.get hj
    obtain ⟨c', e1, -, -, -, e5, -⟩ := wr_at W h2
    have := e5 (H.ne hj hi (fun r => e r.symm))
    subst this
    exact ⟨h1, c', e1, h3⟩
theorem OA.set {c : Cell} {j : Nat} {x : Int32} (A : OA Z ty vs c) (hf : fits ty (.int x) = true) : OA Z ty (vs.set j x) (c.setSlot j (.int x)) := by
  obtain ⟨h1, h2, h3, h4, h5⟩ := A
  refine ⟨h1, h2, ?_, fun z hz => ?_, h5⟩
  · show c.slots.setIfInBounds j (.int x) = _
    rw [h3]; simp [List.map_set]
  · rcases List.mem_or_eq_of_mem_set hz with q | q
    · exact h4 z q
    · rw [q]; exact hf
theorem OA.new {k : ClassId} {z : Int32} {N : Nat} (hN : z.toInt = N) (hd : defaultValue ty = .int 0) (hf : fits ty (.int 0) = true) (A : Arr Z h a (newA k ty z) ty) (E : Exa Z h a ("[" ++ ty.toString)) : OA Z ty (List.replicate N 0) (newA k ty z) := by
  obtain ⟨c, kk, e1, e2, -⟩ := E
  cases A.1.symm.trans e1
  refine ⟨A.2.1, A.2.2, ?_, fun x hx => by rw [List.eq_of_mem_replicate hx]; exact hf, e2⟩
  have e : z.toNatClampNeg = N := by simp only [Int32.toNatClampNeg, hN]; rfl
  show Array.replicate z.toNatClampNeg (defaultValue ty) = _
  rw [e, hd]; simp
theorem o_idx {j : Int32} {i N : Nat} (hj : j.toInt = i) (hi : i < N) : ¬ (j < 0 ∨ N ≤ j.toNatClampNeg) ∧ j.toNatClampNeg = i := by
  have e : j.toNatClampNeg = i := by simp only [Int32.toNatClampNeg, hj]; rfl
  refine ⟨?_, e⟩
  rw [e, Int32.lt_iff_toInt_lt, hj, show (0 : Int32).toInt = 0 from rfl]; omega
theorem OA.size {c : Cell} (A : OA Z ty vs c) : c.slots.size = vs.length := by rw [A.2.2.1]; simp
theorem o_newarray (X : OW p l e R s m args below meth c Z y bytes mx ret n0 T h k n) (H : OL n0 h L) {aty : ArrayType} (hd : decode bytes pc = .ok (.newarray aty, 2)) (w : (Cond.arrayClass (newarray.typeOf aty)).before a0 Z = true) (hdv : defaultValue (newarray.typeOf aty) = .int 0) (hfv : fits (newarray.typeOf aty) (.int 0) = true) {z : Int32} (N cap : Nat) (hN : z.toInt = N) (hcap : N ≤ cap) (hb8 : cap * 8 ≤ 536870912) (k2 n2 : Nat) (hk2 : k + 1 = k2) (hn2 : n + cap = n2) (hc : k2 ≤ R.cells) (hl : n2 ≤ R.slots) (pc' : Nat) (hp : pc + 2 = pc')
    (K : ∀ T' h' a, OW p l e R s m args below meth c Z y bytes mx ret n0 T' h' k2 n2 → OL n0 h' ((a, OA Z (newarray.typeOf aty) (List.replicate N 0)) :: L) → OE p e R below s n0 Q T' (mkF m pc' Ls (.ref a :: st))) : OE p e R below s n0 Q T (mkF m pc Ls (.int z :: st)) := by
  have h0 := X.size
  obtain ⟨hx, hZ, hown, hby, hmx, hret, hnm, hlk, hn0, hT, locs, S, N0⟩ := X; subst hp hk2 hn2
  obtain ⟨T', h', cA, S', hT', E, A, EX, stp⟩ := newPE S hx hZ w hT (g := mkF m pc Ls (.int z :: st)) rfl (hb hby hd) rfl (by rw [Int32.lt_iff_toInt_lt, hN, show (0 : Int32).toInt = 0 from rfl]; omega) (cap := cap) (by simp only [Int32.toNatClampNeg, hN]; exact hcap) hb8 hc hl rfl
  exact OE.by stp (K T' h' h.size ⟨hx, hZ, hown, hby, hmx, hret, hnm, hlk, hn0, hT', locs, S', N0⟩ (H.push E h0 A.1 (OA.new hN hdv hfv A EX)))
theorem o_arraylength (X : OW p l e R s m args below meth c Z y bytes mx ret n0 T h k n) (H : OL n0 h L) (i : Nat) (hi : L[i]? = some (a, OA Z ty vs)) (hd : decode bytes pc = .ok (.arraylength, 1)) (z : Int32) (hz : Int32.ofNat vs.length = z) (pc' : Nat) (hp : pc + 1 = pc')
    (K : OE p e R below s n0 Q T (mkF m pc' Ls (.int z :: st))) : OE p e R below s n0 Q T (mkF m pc Ls (.ref a :: st)) := by
  obtain ⟨hx, hZ, hown, hby, hmx, hret, hnm, hlk, hn0, hT, locs, S, N0⟩ := X; subst hp
  obtain ⟨h1, c', h2, A⟩ := H.get hi
  refine OE.by (fun t q => S.arraylength hx (by rw [hT]; exact h2) (State.isArrayOf_alike hZ.alike A.1) (g := mkF m pc Ls (.ref a :: st)) rfl rfl (hb hby hd) t ?_) K
  have e1 : c'.slots.size.toInt32 = z := by rw [A.size]; exact hz
  rw [e1]; exact q
theorem o_iaload (X : OW p l e R s m args below meth c Z y bytes mx ret n0 T h k n) (H : OL n0 h L) (i : Nat) (hi : L[i]? = some (a, OA Z .int vs)) (hd : decode bytes pc = .ok (.iaload, 1)) {j : Int32} (jn : Nat) (hj : j.toInt = jn) (v : Int32) (hv : vs[jn]? = some v) (pc' : Nat) (hp : pc + 1 = pc')
    (K : OE p e R below s n0 Q T (mkF m pc' Ls (.int v :: st))) : OE p e R below s n0 Q T (mkF m pc Ls (.int j :: .ref a :: st)) := by
  obtain ⟨hx, hZ, hown, hby, hmx, hret, hnm, hlk, hn0, hT, locs, S, N0⟩ := X; subst hp
  obtain ⟨h1, c', h2, A⟩ := H.get hi
  have hlt := (List.getElem?_eq_some_iff.mp hv).1
  obtain ⟨q1, q2⟩ := o_idx hj (N := c'.slots.size) (by rw [A.size]; exact hlt)
  exact OE.by (fun t q => S.iaload hx (by rw [hT]; exact h2) (State.isArrayOf_alike hZ.alike A.1) A.2.1 q1 (v := .int v) (by rw [q2, A.2.2.1]; simp [hv]) (g := mkF m pc Ls (.int j :: .ref a :: st)) rfl rfl (hb hby hd) t q) K
theorem o_baloadB (X : OW p l e R s m args below meth c Z y bytes mx ret n0 T h k n) (H : OL n0 h L) (i : Nat) (hi : L[i]? = some (a, OA Z .byte vs)) (hd : decode bytes pc = .ok (.baload, 1)) {j : Int32} (jn : Nat) (hj : j.toInt = jn) (v : Int32) (hv : vs[jn]? = some v) (pc' : Nat) (hp : pc + 1 = pc')
    (K : OE p e R below s n0 Q T (mkF m pc' Ls (.int v :: st))) : OE p e R below s n0 Q T (mkF m pc Ls (.int j :: .ref a :: st)) := by
  obtain ⟨hx, hZ, hown, hby, hmx, hret, hnm, hlk, hn0, hT, locs, S, N0⟩ := X; subst hp
  obtain ⟨h1, c', h2, A⟩ := H.get hi
  have hlt := (List.getElem?_eq_some_iff.mp hv).1
  obtain ⟨q1, q2⟩ := o_idx hj (N := c'.slots.size) (by rw [A.size]; exact hlt)
  exact OE.by (fun t q => S.baloadBytes hx (by rw [hT]; exact h2) (State.isArrayOf_alike hZ.alike A.1) A.2.1 q1 (v := .int v) (by rw [q2, A.2.2.1]; simp [hv]) (g := mkF m pc Ls (.int j :: .ref a :: st)) rfl rfl (hb hby hd) t q) K
theorem o_baloadZ (X : OW p l e R s m args below meth c Z y bytes mx ret n0 T h k n) (H : OL n0 h L) (i : Nat) (hi : L[i]? = some (a, OA Z .boolean vs)) (hd : decode bytes pc = .ok (.baload, 1)) {j : Int32} (jn : Nat) (hj : j.toInt = jn) (v : Int32) (hv : vs[jn]? = some v) (pc' : Nat) (hp : pc + 1 = pc')
    (K : OE p e R below s n0 Q T (mkF m pc' Ls (.int v :: st))) : OE p e R below s n0 Q T (mkF m pc Ls (.int j :: .ref a :: st)) := by
  obtain ⟨hx, hZ, hown, hby, hmx, hret, hnm, hlk, hn0, hT, locs, S, N0⟩ := X; subst hp
  obtain ⟨h1, c', h2, A⟩ := H.get hi
  have hlt := (List.getElem?_eq_some_iff.mp hv).1
  obtain ⟨q1, q2⟩ := o_idx hj (N := c'.slots.size) (by rw [A.size]; exact hlt)
  exact OE.by (fun t q => S.baloadBooleans hx (by rw [hT]; exact h2) (State.isArrayOf_alike hZ.alike A.1) A.2.1 q1 (v := .int v) (by rw [q2, A.2.2.1]; simp [hv]) (g := mkF m pc Ls (.int j :: .ref a :: st)) rfl rfl (hb hby hd) t q) K
theorem o_iastore (X : OW p l e R s m args below meth c Z y bytes mx ret n0 T h k n) (H : OL n0 h L) (i : Nat) (hi : L[i]? = some (a, OA Z .int vs)) (hd : decode bytes pc = .ok (.iastore, 1)) {j x : Int32} (jn : Nat) (hj : j.toInt = jn) (hlt : jn < vs.length) (pc' : Nat) (hp : pc + 1 = pc')
    (K : ∀ T' h', OW p l e R s m args below meth c Z y bytes mx ret n0 T' h' k n → OL n0 h' (L.set i (a, OA Z .int (vs.set jn x))) → OE p e R below s n0 Q T' (mkF m pc' Ls st)) : OE p e R below s n0 Q T (mkF m pc Ls (.int x :: .int j :: .ref a :: st)) := by
  obtain ⟨hx, hZ, hown, hby, hmx, hret, hnm, hlk, hn0, hT, locs, S, N0⟩ := X; subst hp
  obtain ⟨h1, c', h2, A⟩ := H.get hi
  obtain ⟨q1, q2⟩ := o_idx hj (N := c'.slots.size) (by rw [A.size]; exact hlt)
  obtain ⟨T', h', S', hT', W, stp⟩ := stI S hx hZ hT ⟨h2, A.1, A.2.1⟩ q1 (x := x) (g := mkF m pc Ls (.int x :: .int j :: .ref a :: st)) rfl rfl (hb hby hd)
  rw [q2] at W S'
  exact OE.by stp (K T' h' ⟨hx, hZ, hown, hby, hmx, hret, hnm, hlk, hn0, hT', _, S', N0.app fun z hz => by cases List.mem_singleton.mp hz; exact h1⟩ (H.wr hi W fun c _ B => B.set rfl))
theorem o_bastoreB (X : OW p l e R s m args below meth c Z y bytes mx ret n0 T h k n) (H : OL n0 h L) (i : Nat) (hi : L[i]? = some (a, OA Z .byte vs)) (hd : decode bytes pc = .ok (.bastore, 1)) {j x : Int32} (jn : Nat) (hj : j.toInt = jn) (hlt : jn < vs.length) (v : Int32) (hv : x.toInt8.toInt32 = v) (pc' : Nat) (hp : pc + 1 = pc')
    (K : ∀ T' h', OW p l e R s m args below meth c Z y bytes mx ret n0 T' h' k n → OL n0 h' (L.set i (a, OA Z .byte (vs.set jn v))) → OE p e R below s n0 Q T' (mkF m pc' Ls st)) : OE p e R below s n0 Q T (mkF m pc Ls (.int x :: .int j :: .ref a :: st)) := by
  obtain ⟨hx, hZ, hown, hby, hmx, hret, hnm, hlk, hn0, hT, locs, S, N0⟩ := X; subst hp hv
  obtain ⟨h1, c', h2, A⟩ := H.get hi
  obtain ⟨q1, q2⟩ := o_idx hj (N := c'.slots.size) (by rw [A.size]; exact hlt)
  obtain ⟨T', h', S', hT', W, stp⟩ := stB S hx hZ hT ⟨h2, A.1, A.2.1⟩ q1 (x := x) (g := mkF m pc Ls (.int x :: .int j :: .ref a :: st)) rfl rfl (hb hby hd)
  rw [q2] at W S'
  exact OE.by stp (K T' h' ⟨hx, hZ, hown, hby, hmx, hret, hnm, hlk, hn0, hT', _, S', N0.app fun z hz => by cases List.mem_singleton.mp hz; exact h1⟩ (H.wr hi W fun c _ B => B.set (fits_nar_byte x)))
theorem o_bastoreZ (X : OW p l e R s m args below meth c Z y bytes mx ret n0 T h k n) (H : OL n0 h L) (i : Nat) (hi : L[i]? = some (a, OA Z .boolean vs)) (hd : decode bytes pc = .ok (.bastore, 1)) {j x : Int32} (jn : Nat) (hj : j.toInt = jn) (hlt : jn < vs.length) (v : Int32) (hv : nar .boolean x = v) (pc' : Nat) (hp : pc + 1 = pc')
    (K : ∀ T' h', OW p l e R s m args below meth c Z y bytes mx ret n0 T' h' k n → OL n0 h' (L.set i (a, OA Z .boolean (vs.set jn v))) → OE p e R below s n0 Q T' (mkF m pc' Ls st)) : OE p e R below s n0 Q T (mkF m pc Ls (.int x :: .int j :: .ref a :: st)) := by
  obtain ⟨hx, hZ, hown, hby, hmx, hret, hnm, hlk, hn0, hT, locs, S, N0⟩ := X; subst hp hv
  obtain ⟨h1, c', h2, A⟩ := H.get hi
  obtain ⟨q1, q2⟩ := o_idx hj (N := c'.slots.size) (by rw [A.size]; exact hlt)
  obtain ⟨T', h', S', hT', W, stp⟩ := stZ S hx hZ hT ⟨h2, A.1, A.2.1⟩ q1 (x := x) (g := mkF m pc Ls (.int x :: .int j :: .ref a :: st)) rfl rfl (hb hby hd)
  rw [q2] at W S'
  exact OE.by stp (K T' h' ⟨hx, hZ, hown, hby, hmx, hret, hnm, hlk, hn0, hT', _, S', N0.app fun z hz => by cases List.mem_singleton.mp hz; exact h1⟩ (H.wr hi W fun c _ B => B.set (fits_nar_bool x)))
theorem o_b8 (x : Int32) : x.toInt8.toInt32.toInt8.toInt32 = x.toInt8.toInt32 := by simp
/-! contracts and calls -/
def OC (l : Launch) (Z : State) (y : MethodName) (bytes : ByteArray) (mx : Nat) (ret : Option FieldType) (ws : List Jvm.Cond) (rm : Room) (n0 : Nat) (as' : Array Value) (h0 : Heap) (Q : Option Value → Heap → Prop) : Prop :=
  MetFree l y (head1 (Jvm.Cond.code y bytes mx ret :: ws) rm) (fun a U => a = as' ∧ Z.Warmed39 U.vm ∧ U.heap = h0) (fun _ _ _ _ _ => True) (fun _ U o U' => ∃ v L, o = .returned v ∧ (Q v U'.heap ∧ Fr n0 L) ∧ FrameEnd U o U' L rm.cells rm.slots)
theorem OC.of {ws : List Jvm.Cond} {rm : Room} {as' : Array Value} {h0 : Heap} (hp : plainFor y = true) (hn : n0 ≤ h0.size) (Ls : Array Slot) (hef : ∀ m : MethodId, entryFrame m as' mx = mkF m 0 Ls [])
    (B : ∀ p e s m below meth c T, OW p l e rm s m as' below meth c Z y bytes mx ret n0 T h0 0 0 → ∀ Q' : Option Value → Heap → Prop, (∀ r h, Q r h → Q' r h) → OE p e rm below s n0 Q' T (mkF m 0 Ls [])) : OC l Z y bytes mx ret ws rm n0 as' h0 Q := by
  refine MetFree.of_bodySF hp hisR ?_
  intro p e s m args below meth c s₁ Bd hml0 hP hK
  obtain ⟨rfl, hZ, hh⟩ := hP
  have hnm := (name_of_methodNamed Bd.named Bd.method).1
  have X0 : Stand p l e rm s m args below meth c s₁ [] 0 0 := Stand.of_body Bd
  have e0 : s₁.heap = h0 := by rw [← hh, Bd.state]; rfl
  rw [hef m]
  exact B p e s m below meth c s₁ ⟨Bd.exec, hZ, findClass_of_methodNamed Bd.named, Bd.bytes, hml0, Bd.returns, hnm, Bd.notSynchronized, by rw [hh]; exact hn, e0, [], X0, Fr.nil n0⟩ Q (fun _ _ q => q)
theorem o_callS (X : OW p l e R s m args below meth c Z y bytes mx ret n0 T h k n) {i : Nat} (hd : decode bytes pc = .ok (.invokestatic i, 3)) {y' : MethodName} {bytes' : ByteArray} {mx' : Nat} {ret' : Option FieldType} {rm : Room} {as' : Array Value} {Q' : Option Value → Heap → Prop} (C : OC l Z y' bytes' mx' ret' [] rm n0 as' h Q')
    (w1 : (Cond.methodLink y.cls i y').before a0 Z = true) (w2 : (Cond.static y').before a0 Z = true) (w3 : (Cond.initialized y'.cls).before a0 Z = true) (w4 : (Cond.code y' bytes' mx' ret').before a0 Z = true) (hy : y'.cls ≠ "java/lang/invoke/MethodHandle" ∧ y'.cls ≠ "java/lang/invoke/VarHandle")
    (Wd : Nat) (hf : rm.frames + 1 ≤ R.frames) (hlo : Wd + (mx' + 11) + rm.locals ≤ R.locals) (hls : Ls.size = mx) (argsL : List Value) (has : as' = argsL.toArray) {ps : List FieldType} {r' : Option FieldType} (hpd : parseMethodDescriptor y'.desc = some ⟨ps, r'⟩) (hlen : argsL.length = ps.length) (hst : st = argsL.reverse ++ rest) (hW : (rest.map fun v => v.category).sum ≤ Wd) (k2 n2 : Nat) (hk2 : k + rm.cells = k2) (hn2 : n + rm.slots = n2) (hk : k2 ≤ R.cells) (hn : n2 ≤ R.slots) (pc' : Nat) (hp : pc + 3 = pc')
    (K : ∀ v T' h', OW p l e R s m args below meth c Z y bytes mx ret n0 T' h' k2 n2 → Q' v h' → OE p e R below s n0 Q T' (mkF m pc' Ls (v.toList ++ rest))) : OE p e R below s n0 Q T (mkF m pc Ls st) := by
  obtain ⟨hx, hZ, hown, hby, hmx, hret, hnm, hlk, hn0, hT, locs, S, N0⟩ := X; subst hp has hk2 hn2
  obtain ⟨v, _, ⟨T2, L2, k2, n2⟩, -, X2, ⟨Lc, hQ, l2, y2, z2⟩, stp⟩ := Jvm.LawKit.callS S hx (y := y') hown (mvT hZ w1) (mvT hZ w2) (mvT hZ w3) (mvT hZ w4) hy (backOf (W := Wd) (Q := fun v hh LL => Q' v hh ∧ Fr n0 LL) C hZ w4 w3 hf hlo) (g := mkF m pc Ls st) rfl (by rw [hmx]; exact hls) (argsL := argsL) (rest := rest) (lenOf hpd hlen) hst (by show 2 * 0 + _ ≤ _; omega) (hb hby hd) (fun _ _ => ⟨rfl, hT, hk, hn⟩)
  dsimp only [Pt.U, Pt.locs, Pt.cells, Pt.slots] at X2 l2 y2 z2 stp hQ
  subst l2 y2 z2
  exact OE.by stp (K v T2 T2.heap ⟨hx, hZ, hown, hby, hmx, hret, hnm, hlk, hn0, rfl, _, X2, N0.app hQ.2⟩ hQ.1)
/-! clone, checkcast, System.arraycopy of arrays of ints, bytes, booleans -/
theorem o_ofNat {N : Nat} (h : N < 2 ^ 31) : (Int32.ofNat N).toInt = N ∧ (Int32.ofNat N).toNatClampNeg = N ∧ ¬ Int32.ofNat N < 0 := by
  have e : (Int32.ofNat N).toInt = N := Int32.toInt_ofNat_of_lt h
  refine ⟨e, by simp only [Int32.toNatClampNeg, e]; rfl, ?_⟩
  rw [Int32.lt_iff_toInt_lt, e, show (0 : Int32).toInt = 0 from rfl]; omega
theorem o_getD (vs : List Int32) (i : Nat) (hi : i < vs.length) : (vs.map Value.int).getD i (.int 0) = .int vs[i] := by
  rw [List.getD_eq_getElem?_getD, List.getElem?_map, List.getElem?_eq_getElem hi]; rfl
theorem OA.arv {c : Cell} (A : OA Z ty vs c) (hc : h[a]? = some c) (hl : vs.length < 2 ^ 31) : Arv Z h a c.cls ty (Int32.ofNat vs.length) (vs.map Value.int) (.int 0) := by
  obtain ⟨e1, e2, e3⟩ := o_ofNat hl
  have hs := A.size
  refine ⟨c, ⟨hc, A.1, A.2.1⟩, rfl, by rw [hs, e2], e3, fun k hk => ?_, fun k hk => ?_⟩
  · rw [hs] at hk; rw [o_getD vs k hk, A.2.2.1]; simp [List.getElem?_eq_getElem hk]
  · rw [hs] at hk; rw [o_getD vs k hk]; exact A.2.2.2.1 _ (List.getElem_mem hk)
theorem OA.exa {c : Cell} (A : OA Z ty vs c) (hc : h[a]? = some c) : Exa Z h a ("[" ++ ty.toString) := by
  obtain ⟨-, k, h1, comp, h2⟩ := A.1
  exact ⟨c, k, hc, A.2.2.2.2, h1, Arr.plain (Z := Z) (h := h) (a := a) ⟨hc, A.1, A.2.1⟩, fun q => by rw [h2] at q; cases q⟩
theorem OA.of_arv {k : ClassId} {z : Int32} (V : Arv Z h a k ty z (vs.map Value.int) (.int 0)) (hz : z.toNatClampNeg = vs.length) (hk : Z.vm.findClass ("[" ++ ty.toString) = some k) : ∃ c : Cell, h[a]? = some c ∧ OA Z ty vs c := by
  obtain ⟨c, A, q1, q2, q3, H, G⟩ := V
  rw [hz] at q2
  refine ⟨c, A.1, A.2.1, A.2.2, ?_, fun x hx => ?_, by rw [q1]; exact hk⟩
  · apply Array.ext_getElem?
    intro i
    by_cases hi : i < vs.length
    · rw [H i (by rw [q2]; exact hi), o_getD vs i hi]; simp [List.getElem?_eq_getElem hi]
    · rw [Array.getElem?_eq_none (by rw [q2]; omega)]; simp [List.getElem?_eq_none (Nat.le_of_not_lt hi)]
  · obtain ⟨i, hi, rfl⟩ := List.getElem_of_mem hx
    rw [← o_getD vs i hi]; exact G i (by rw [q2]; exact hi)
theorem OL.keep {b : Addr} (H : OL n0 h L) (K : Keep h h' [b]) {i : Nat} {P' : Cell → Prop} (hi : L[i]? = some (b, PP)) {c : Cell} (hc : h'[b]? = some c) (hp : P' c) : OL n0 h' (L.set i (b, P')) := by
  have hmap : (L.set i (b, P')).map (·.1) = L.map (·.1) := by
    apply List.ext_getElem?
    intro j
    simp only [List.getElem?_map, List.getElem?_set]
    split
    · rename_i e; subst e; rw [if_pos (List.getElem?_eq_some_iff.mp hi).1, hi]; rfl
    · rfl
  refine ⟨by rw [hmap]; exact H.1, fun q hq => ?_⟩
  obtain ⟨j, hj⟩ := List.getElem?_of_mem hq
  rw [List.getElem?_set] at hj
  split at hj
  · split at hj
    · cases hj; exact ⟨(H.get hi).1, c, hc, hp⟩
    · cases hj
  · rename_i e
    obtain ⟨d, PD⟩ := q
    obtain ⟨h1, c1, h2, h3⟩ := H.get hj
    exact ⟨h1, c1, K.2.1 d c1 h2 (ninS (H.ne hj hi (fun r => e r.symm)) nin0), h3⟩
theorem o_checkcast (X : OW p l e R s m args below meth c Z y bytes mx ret n0 T h k n) (H : OL n0 h L) (i : Nat) (hi : L[i]? = some (a, OA Z ty vs)) {ix : Nat} (hd : decode bytes pc = .ok (.checkcast ix, 3)) {C : String} (hC : "[" ++ ty.toString = C) (w : (Cond.classLink y.cls ix C).before a0 Z = true) (pc' : Nat) (hp : pc + 3 = pc')
    (K : ∀ T', OW p l e R s m args below meth c Z y bytes mx ret n0 T' h k n → OE p e R below s n0 Q T' (mkF m pc' Ls (.ref a :: st))) : OE p e R below s n0 Q T (mkF m pc Ls (.ref a :: st)) := by
  obtain ⟨hx, hZ, hown, hby, hmx, hret, hnm, hlk, hn0, hT, locs, S, N0⟩ := X; subst hp hC
  obtain ⟨h1, cell, h2, A⟩ := H.get hi
  obtain ⟨T', S', hT', stp⟩ := castY S hx hZ hown w hT (Ins.self (A.exa h2)) (g := mkF m pc Ls (.ref a :: st)) rfl rfl (hb hby hd)
  exact OE.by stp (K T' ⟨hx, hZ, hown, hby, hmx, hret, hnm, hlk, hn0, hT', locs, S', N0⟩)
theorem o_clone (X : OW p l e R s m args below meth c Z y bytes mx ret n0 T h k n) (H : OL n0 h L) (i : Nat) (hi : L[i]? = some (a, OA Z ty vs)) {ix : Nat} (hd : decode bytes pc = .ok (.invokevirtual ix, 3)) {ad : String} (hC : "[" ++ ty.toString = ad) (w1 : (Cond.methodLink y.cls ix ⟨ad, "clone", "()Ljava/lang/Object;"⟩).before a0 Z = true) (w2 : (Cond.sameMethod ad "java/lang/Object" "clone" "()Ljava/lang/Object;").before a0 Z = true) (w3 : (Cond.native ⟨"java/lang/Object", "clone", "()Ljava/lang/Object;"⟩).before a0 Z = true)
    (w4 : (Cond.instanceMethod ⟨"java/lang/Object", "clone", "()Ljava/lang/Object;"⟩).before a0 Z = true) (w5 : (Cond.selects ad ⟨ad, "clone", "()Ljava/lang/Object;"⟩ ⟨"java/lang/Object", "clone", "()Ljava/lang/Object;"⟩).before a0 Z = true) (w6 : (Cond.castable ad "java/lang/Cloneable").before a0 Z = true) (hlen : vs.length < 2 ^ 31) (cap : Nat) (hcap : vs.length ≤ cap) (hls : Ls.size = mx) (hf : 1 ≤ R.frames) (Wd : Nat) (hW : (st.map fun v => v.category).sum ≤ Wd) (hlo : Wd + 14 ≤ R.locals) (k2 n2 : Nat) (hk2 : k + 1 = k2) (hn2 : n + cap = n2) (hc : k2 ≤ R.cells) (hsl : n2 ≤ R.slots) (pc' : Nat) (hp : pc + 3 = pc')
    (K : ∀ T' h' b, OW p l e R s m args below meth c Z y bytes mx ret n0 T' h' k2 n2 → OL n0 h' ((b, OA Z ty vs) :: L) → OE p e R below s n0 Q T' (mkF m pc' Ls (.ref b :: st))) : OE p e R below s n0 Q T (mkF m pc Ls (.ref a :: st)) := by
  have h0 := X.size
  obtain ⟨hx, hZ, hown, hby, hmx, hret, hnm, hlk, hn0, hT, locs, S, N0⟩ := X; subst hp hk2 hn2 hC
  obtain ⟨h1, cell, h2, A⟩ := H.get hi
  obtain ⟨c1, A1, q1, q2, q3, H1, G1⟩ := A.arv h2 hlen
  have F : Arh Z h a cell.cls ty (Int32.ofNat vs.length) [] (vs.map Value.int) (.int 0) := ⟨c1, A1, q1, q2, q3, H1, G1⟩
  obtain ⟨T', h', S', hT', E, F', EX, stp⟩ := cloneH S hx hZ hown w1 w2 w3 w4 w5 w6 hT F (A.exa h2) (g := mkF m pc Ls (.ref a :: st)) rfl (by rw [hmx]; exact hls) rfl (hb hby hd) hf (W := Wd) (cap := cap) (by show 2 * 0 + _ ≤ _; omega) hlo (by rw [(o_ofNat hlen).2.1]; exact hcap) hc hsl
  obtain ⟨c2, A2, r1, r2, r3, H2, G2⟩ := F'
  obtain ⟨c3, e1, e2⟩ := OA.of_arv (vs := vs) (k := cell.cls) ⟨c2, A2, r1, r2, r3, H2, G2⟩ (o_ofNat hlen).2.1 A.2.2.2.2
  exact OE.by stp (K T' h' h.size ⟨hx, hZ, hown, hby, hmx, hret, hnm, hlk, hn0, hT', locs, S', N0⟩ (H.push E h0 e1 e2))
theorem o_us (vs : List Int32) (sp nn : Nat) (h : sp + nn ≤ vs.length) : ((vs.drop sp).take nn).map Value.int = (List.range nn).map fun i => (vs.map Value.int).getD (sp + i) (.int 0) := by
  apply List.ext_getElem?
  intro i
  by_cases hi : i < nn
  · simp only [List.getElem?_map, List.getElem?_take_of_lt hi, List.getElem?_drop, List.getElem?_range hi]
    rw [List.getElem?_eq_getElem (show sp + i < vs.length by omega)]
    simp only [Option.map_some]; rw [o_getD vs (sp + i) (by omega)]
  · rw [List.getElem?_eq_none (by simp; omega), List.getElem?_eq_none (by simp; omega)]
theorem o_arraycopy (X : OW p l e R s m args below meth c Z y bytes mx ret n0 T h k n) (H : OL n0 h L) (i j : Nat) {b : Addr} {vd : List Int32} (hi : L[i]? = some (a, OA Z ty vs)) (hj : L[j]? = some (b, OA Z ty vd)) {ix : Nat} (hd : decode bytes pc = .ok (.invokestatic ix, 3)) (w1 : (Cond.methodLink y.cls ix Jvm.Stand.acN).before a0 Z = true) (w2 : (Cond.native Jvm.Stand.acN).before a0 Z = true) (w3 : (Cond.static Jvm.Stand.acN).before a0 Z = true) (w4 : (Cond.initialized "java/lang/System").before a0 Z = true) (hrk : refKind ty = false) (hl1 : vs.length < 2 ^ 31) (hl2 : vd.length < 2 ^ 31)
    {sp dp nn : Int32} (spn dpn nnn : Nat) (e1 : sp.toInt = spn) (e2 : dp.toInt = dpn) (e3 : nn.toInt = nnn) (h4 : spn + nnn ≤ vs.length) (h5 : dpn + nnn ≤ vd.length) (hls : Ls.size = mx) (hf : 1 ≤ R.frames) (Wd : Nat) (hW : (st.map fun v => v.category).sum ≤ Wd) (hlo : Wd + (nativeFrameWords "java/lang/System" "arraycopy" 5 + 11) ≤ R.locals) (pc' : Nat) (hp : pc + 3 = pc')
    (K : ∀ T' h', OW p l e R s m args below meth c Z y bytes mx ret n0 T' h' k n → OL n0 h' (L.set j (b, OA Z ty (vd.take dpn ++ (vs.drop spn).take nnn ++ vd.drop (dpn + nnn)))) → OE p e R below s n0 Q T' (mkF m pc' Ls st)) : OE p e R below s n0 Q T (mkF m pc Ls (.int nn :: .int dp :: .ref b :: .int sp :: .ref a :: st)) := by
  obtain ⟨hx, hZ, hown, hby, hmx, hret, hnm, hlk, hn0, hT, locs, S, N0⟩ := X; subst hp
  obtain ⟨h1, ca, h2, A⟩ := H.get hi
  obtain ⟨g1, cb, g2, B⟩ := H.get hj
  have f : ∀ {x : Int32} {N : Nat}, x.toInt = N → ¬ x < 0 ∧ x.toNatClampNeg = N := fun {x N} q => ⟨by rw [Int32.lt_iff_toInt_lt, q, show (0 : Int32).toInt = 0 from rfl]; omega, by simp only [Int32.toNatClampNeg, q]; rfl⟩
  obtain ⟨a1, a2⟩ := f e1
  obtain ⟨b1, b2⟩ := f e2
  obtain ⟨c1, c2⟩ := f e3
  obtain ⟨T', h', LL, S', hT', N', KK, V, stp⟩ := cpA S hx hZ hown w1 w2 w3 w4 hT (A.arv h2 hl1) (B.arv g2 hl2) (Or.inl ⟨rfl, hrk⟩) a1 b1 c1 (by rw [a2, c2, (o_ofNat hl1).2.1]; exact h4) (by rw [b2, c2, (o_ofNat hl2).2.1]; exact h5) (us := ((vs.drop spn).take nnn).map Value.int) (by rw [a2, c2]; exact o_us vs spn nnn h4) (by rw [b2, c2, List.length_map]; exact h5) N0 g1 (g := mkF m pc Ls (.int nn :: .int dp :: .ref b :: .int sp :: .ref a :: st)) rfl (by rw [hmx]; exact hls) rfl (hb hby hd) hf (W := Wd) (by show 2 * 0 + _ ≤ _; omega) hlo
  rw [b2, c2, ← List.map_take, ← List.map_drop, ← List.map_append, ← List.map_append] at V
  obtain ⟨c3, r1, r2⟩ := OA.of_arv V (by rw [(o_ofNat hl2).2.1]; simp; omega) B.2.2.2.2
  exact OE.by stp (K T' h' ⟨hx, hZ, hown, hby, hmx, hret, hnm, hlk, hn0, hT', _, S', N'⟩ (H.keep KK hj r1 r2))
/-! objects -/
def OFc (Z : State) (cell : Cell) (O nm d : String) (v : Value) : Prop := ∃ (cf : ClassId) (k : Class) (i : Nat) (f : Field), Z.fieldFound? O nm d = some (cf, k, i, f) ∧ f.isStatic = false ∧ cell.vm ≠ .unknown ∧ cell.vm.isStatics = false ∧ Z.vm.assignable cell.cls cf = true ∧ cell.slots[f.slot]? = some v
def OO (Z : State) (C : String) (fs : List (String × String × String × Value)) (cell : Cell) : Prop := (∃ k : Class, Z.vm.findClass C = some cell.cls ∧ Z.vm.classes[cell.cls]? = some k ∧ cell.vm.isStatics = false ∧ (k.kind = .ordinary → cell.slots.size = k.instanceTypes.size)) ∧ ∀ f ∈ fs, OFc Z cell f.1 f.2.1 f.2.2.1 f.2.2.2
variable {fs : List (String × String × String × Value)} {C O nm d : String} {v : Value}
theorem oq0 {α : Type} {P : α → Prop} : ∀ q ∈ ([] : List α), P q := fun _ q => nomatch q
theorem oqS {α : Type} {P : α → Prop} {z : α} {M : List α} (q : P z) (r : ∀ x ∈ M, P x) : ∀ x ∈ z :: M, P x := List.forall_mem_cons.mpr ⟨q, r⟩
theorem o_new (X : OW p l e R s m args below meth c Z y bytes mx ret n0 T h k n) (H : OL n0 h L) {i nn : Nat} (hd : decode bytes pc = .ok (.new i, 3)) (w : (Cond.classLink y.cls i C).before a0 Z = true) (wi : (Cond.instantiable C nn).before a0 Z = true) (wz : (Cond.initialized C).before a0 Z = true) (fs : List (String × String × String × Value)) (hfs : ∀ f ∈ fs, ∃ ty, Laid Z a0 C f.1 f.2.1 f.2.2.1 ∧ parseFieldDescriptor f.2.2.1 = some ty ∧ f.2.2.2 = defaultValue ty) (k2 n2 : Nat) (hk2 : k + 1 = k2) (hn2 : n + nn = n2) (hc : k2 ≤ R.cells) (hl : n2 ≤ R.slots) (pc' : Nat) (hp : pc + 3 = pc')
    (K : ∀ T' h' a, OW p l e R s m args below meth c Z y bytes mx ret n0 T' h' k2 n2 → OL n0 h' ((a, OO Z C fs) :: L) → OE p e R below s n0 Q T' (mkF m pc' Ls (.ref a :: st))) : OE p e R below s n0 Q T (mkF m pc Ls st) := by
  have h0 := X.size
  obtain ⟨hx, hZ, hown, hby, hmx, hret, hnm, hlk, hn0, hT, locs, S, N0⟩ := X; subst hp hk2 hn2
  obtain ⟨T', h', S', hT', E, A, D, -, stp⟩ := newO S hx hZ hown w wi wz hT (g := mkF m pc Ls st) rfl (hb hby hd) hc hl
  obtain ⟨cell, kk, g1, g2, g3, g4, g5⟩ := A
  refine OE.by stp (K T' h' h.size ⟨hx, hZ, hown, hby, hmx, hret, hnm, hlk, hn0, hT', locs, S', N0⟩ (H.push E h0 g1 ⟨⟨kk, g2, g3, g4, g5⟩, fun f hf => ?_⟩))
  obtain ⟨ty, q1, q2, q3⟩ := hfs f hf
  obtain ⟨cell', cf, kf, ii, ff, r1, r2, r3, r4, r5, r6, r7⟩ := D q1 q2
  cases g1.symm.trans r1
  exact ⟨cf, kf, ii, ff, r2, r3, r4, r5, r6, by rw [q3]; exact r7⟩
theorem OO.fld {cell : Cell} (A : OO Z C fs cell) (hc : h[a]? = some cell) {j : Nat} (hj : fs[j]? = some (O, nm, d, v)) : Fld Z h a O nm d v := by
  obtain ⟨cf, kf, ii, ff, r2, r3, r4, r5, r6, r7⟩ := A.2 _ (List.mem_of_getElem? hj)
  exact ⟨cell, cf, kf, ii, ff, hc, r2, r3, r4, r5, r6, r7⟩
theorem OO.exa {cell : Cell} (A : OO Z C fs cell) (hc : h[a]? = some cell) : Exa Z h a C := by
  obtain ⟨⟨kk, g2, g3, g4, g5⟩, -⟩ := A; exact ⟨cell, kk, hc, g2, g3, g4, g5⟩
theorem o_getF (X : OW p l e R s m args below meth c Z y bytes mx ret n0 T h k n) (H : OL n0 h L) (i : Nat) (hi : L[i]? = some (a, OO Z C fs)) {ix : Nat} (hd : decode bytes pc = .ok (.getfield ix, 3)) (j : Nat) (hj : fs[j]? = some (O, nm, d, v)) (w : (Cond.fieldLink y.cls ix O nm d).before a0 Z = true) (pc' : Nat) (hp : pc + 3 = pc')
    (K : ∀ T', OW p l e R s m args below meth c Z y bytes mx ret n0 T' h k n → OE p e R below s n0 Q T' (mkF m pc' Ls (v :: st))) : OE p e R below s n0 Q T (mkF m pc Ls (.ref a :: st)) := by
  obtain ⟨hx, hZ, hown, hby, hmx, hret, hnm, hlk, hn0, hT, locs, S, N0⟩ := X; subst hp
  obtain ⟨h1, cell, h2, A⟩ := H.get hi
  obtain ⟨T', S', hT', stp⟩ := getF S hx hZ hown (host := "") (Or.inl w) Via.refl hT (A.fld h2 hj) (g := mkF m pc Ls (.ref a :: st)) rfl rfl (hb hby hd)
  exact OE.by stp (K T' ⟨hx, hZ, hown, hby, hmx, hret, hnm, hlk, hn0, hT', locs, S', N0⟩)
theorem o_putF (X : OW p l e R s m args below meth c Z y bytes mx ret n0 T h k n) (H : OL n0 h L) (i : Nat) (hi : L[i]? = some (a, OO Z C fs)) {ix kk : Nat} (hd : decode bytes pc = .ok (.putfield ix, 3)) (j : Nat) {old : Value} (hj : fs[j]? = some (O, nm, d, old)) (w : (Cond.fieldLink y.cls ix O nm d).before a0 Z = true)
    (Lw : (Cond.lays C O nm d).before a0 Z = true ∨ ((Cond.laysFinal C O nm d).before a0 Z = true ∧ y.cls = O ∧ y.name = "<init>")) (wi : (Cond.instantiable C kk).before a0 Z = true) {ty : FieldType} (hty : parseFieldDescriptor d = some ty) (hnr : narrow ty v = v) (hft : fits ty v = true) (hsl : ∀ q ∈ fs.eraseIdx j, RoadKit.slotOf Z q.1 q.2.1 q.2.2.1 ≠ RoadKit.slotOf Z O nm d) (pc' : Nat) (hp : pc + 3 = pc')
    (K : ∀ T' h', OW p l e R s m args below meth c Z y bytes mx ret n0 T' h' k n → OL n0 h' (L.set i (a, OO Z C (fs.set j (O, nm, d, v)))) → OE p e R below s n0 Q T' (mkF m pc' Ls st)) : OE p e R below s n0 Q T (mkF m pc Ls (v :: .ref a :: st)) := by
  obtain ⟨hx, hZ, hown, hby, hmx, hret, hnm, hlk, hn0, hT, locs, S, N0⟩ := X; subst hp
  obtain ⟨h1, cell, h2, A⟩ := H.get hi
  obtain ⟨T', h', S', hT', W, stp⟩ := putF S hx hZ hown (host := "") (Or.inl w) Via.refl hT (A.fld h2 hj) (A.exa h2) (Lw.imp id fun q => ⟨q.1, q.2.1, hnm.trans q.2.2⟩) wi hty hnr hft (g := mkF m pc Ls (v :: .ref a :: st)) rfl rfl (hb hby hd)
  refine OE.by stp (K T' h' ⟨hx, hZ, hown, hby, hmx, hret, hnm, hlk, hn0, hT', _, S', N0.app fun z hz => by cases List.mem_singleton.mp hz; exact h1⟩ (H.wr hi W fun c' hc' B => ?_))
  obtain ⟨⟨kq, g2, g3, g4, g5⟩, F⟩ := B
  refine ⟨⟨kq, g2, g3, g4, fun q => by rw [sz_set]; exact g5 q⟩, fun q hq => ?_⟩
  obtain ⟨j', hj'⟩ := List.getElem?_of_mem hq
  rw [List.getElem?_set] at hj'
  split at hj'
  · split at hj'
    · cases hj'
      obtain ⟨cf, kf, ii, ff, r2, r3, r4, r5, r6, r7⟩ := F _ (List.mem_of_getElem? hj)
      have hlt := (Array.getElem?_eq_some_iff.mp r7).1
      refine ⟨cf, kf, ii, ff, r2, r3, r4, r5, r6, ?_⟩
      have es : RoadKit.slotOf Z O nm d = ff.slot := by simp only [RoadKit.slotOf]; simp only at r2; rw [r2]; rfl
      show (c'.slots.setIfInBounds (RoadKit.slotOf Z O nm d) v)[ff.slot]? = some v
      rw [es, Array.getElem?_setIfInBounds_self_of_lt hlt]
    · cases hj'
  · rename_i hne
    obtain ⟨cf, kf, ii, ff, r2, r3, r4, r5, r6, r7⟩ := F _ (List.mem_of_getElem? hj')
    refine ⟨cf, kf, ii, ff, r2, r3, r4, r5, r6, ?_⟩
    have ne := hsl q (List.mem_eraseIdx_iff_getElem?.mpr ⟨j', fun z => hne z.symm, hj'⟩)
    have es : RoadKit.slotOf Z q.1 q.2.1 q.2.2.1 = ff.slot := by simp only [RoadKit.slotOf]; rw [r2]; rfl
    show (c'.slots.setIfInBounds (RoadKit.slotOf Z O nm d) v)[ff.slot]? = some q.2.2.2
    rw [← es, Array.getElem?_setIfInBounds_ne (fun z => ne z.symm), es]; exact r7
theorem o_initO (X : OW p l e R s m args below meth c Z y bytes mx ret n0 T h k n) {i : Nat} (hd : decode bytes pc = .ok (.invokespecial i, 3)) (w1 : (Cond.methodLink y.cls i Lib.objectInit).before a0 Z = true) (w2 : (Cond.instanceMethod Lib.objectInit).before a0 Z = true) (w3 : (Cond.code Lib.objectInit ⟨#[0xb1]⟩ 1 none).before a0 Z = true) (hls : Ls.size = mx) (hf : 1 ≤ R.frames) (Wd : Nat) (hW : (st.map fun v => v.category).sum ≤ Wd) (hlo : Wd + 12 ≤ R.locals) (pc' : Nat) (hp : pc + 3 = pc')
    (K : ∀ T', OW p l e R s m args below meth c Z y bytes mx ret n0 T' h k n → OE p e R below s n0 Q T' (mkF m pc' Ls st)) : OE p e R below s n0 Q T (mkF m pc Ls (.ref a :: st)) := by
  obtain ⟨hx, hZ, hown, hby, hmx, hret, hnm, hlk, hn0, hT, locs, S, N0⟩ := X; subst hp
  obtain ⟨T', S', hT', stp⟩ := initO S hx hZ hown w1 w2 w3 hT (g := mkF m pc Ls (.ref a :: st)) rfl (by rw [hmx]; exact hls) rfl (hb hby hd) hf (W := Wd) (by show 2 * 0 + _ ≤ _; omega) hlo
  exact OE.by stp (K T' ⟨hx, hZ, hown, hby, hmx, hret, hnm, hlk, hn0, hT', locs, S', N0⟩)
theorem o_callI (X : OW p l e R s m args below meth c Z y bytes mx ret n0 T h k n) {i : Nat} (hd : decode bytes pc = .ok (.invokespecial i, 3)) {y' : MethodName} {bytes' : ByteArray} {mx' : Nat} {rm : Room} {as' : Array Value} {Q' : Option Value → Heap → Prop} (C : OC l Z y' bytes' mx' none [] rm n0 as' h Q') (hini : y'.name = "<init>")
    (w1 : (Cond.methodLink y.cls i y').before a0 Z = true) (w2 : (Cond.instanceMethod y').before a0 Z = true) (w3 : (Cond.initialized y'.cls).before a0 Z = true) (w4 : (Cond.code y' bytes' mx' none).before a0 Z = true) (hy : y'.cls ≠ "java/lang/invoke/MethodHandle" ∧ y'.cls ≠ "java/lang/invoke/VarHandle")
    (Wd : Nat) (hf : rm.frames + 1 ≤ R.frames) (hlo : Wd + (mx' + 11) + rm.locals ≤ R.locals) (hls : Ls.size = mx) (argsL : List Value) (has : as' = (.ref a :: argsL).toArray) {ps : List FieldType} {r' : Option FieldType} (hpd : parseMethodDescriptor y'.desc = some ⟨ps, r'⟩) (hlen : argsL.length = ps.length) (hst : st = argsL.reverse ++ .ref a :: rest) (hW : (rest.map fun v => v.category).sum ≤ Wd) (k2 n2 : Nat) (hk2 : k + rm.cells = k2) (hn2 : n + rm.slots = n2) (hk : k2 ≤ R.cells) (hn : n2 ≤ R.slots) (pc' : Nat) (hp : pc + 3 = pc')
    (K : ∀ v T' h', OW p l e R s m args below meth c Z y bytes mx ret n0 T' h' k2 n2 → Q' v h' → OE p e R below s n0 Q T' (mkF m pc' Ls (v.toList ++ rest))) : OE p e R below s n0 Q T (mkF m pc Ls st) := by
  obtain ⟨hx, hZ, hown, hby, hmx, hret, hnm, hlk, hn0, hT, locs, S, N0⟩ := X; subst hp has hk2 hn2
  obtain ⟨v, _, ⟨T2, L2, k2, n2⟩, -, X2, ⟨Lc, hQ, l2, y2, z2⟩, stp⟩ := S.specialBack hx (y := y') hini hown (mvT hZ w1) (mvT hZ w2) (mvT hZ w4) hy (backOf (W := Wd) (Q := fun v hh LL => Q' v hh ∧ Fr n0 LL) C hZ w4 w3 hf hlo) (g := mkF m pc Ls st) rfl (by rw [hmx]; exact hls) (Steps.refl _) (a := a) (argsL := argsL) (rest := rest) (lenOf hpd hlen) hst (by show 2 * 0 + _ ≤ _; omega) (hb hby hd) (fun _ _ => ⟨rfl, hT, hk, hn⟩)
  dsimp only [Pt.U, Pt.locs, Pt.cells, Pt.slots] at X2 l2 y2 z2 stp hQ
  subst l2 y2 z2
  exact OE.by (fun t q => stp.trans q) (K v T2 T2.heap ⟨hx, hZ, hown, hby, hmx, hret, hnm, hlk, hn0, rfl, _, X2, N0.app hQ.2⟩ hQ.1)
theorem o_callV (X : OW p l e R s m args below meth c Z y bytes mx ret n0 T h k n) (H : OL n0 h L) (io : Nat) {Cc : String} (hi : L[io]? = some (a, OO Z Cc fs)) {i : Nat} (hd : decode bytes pc = .ok (.invokevirtual i, 3)) {y' : MethodName} {bytes' : ByteArray} {mx' : Nat} {ret' : Option FieldType} {rm : Room} {as' : Array Value} {Q' : Option Value → Heap → Prop} (C : OC l Z y' bytes' mx' ret' [] rm n0 as' h Q')
    (w1 : (Cond.methodLink y.cls i y').before a0 Z = true) (w2 : (Cond.declares y').before a0 Z = true) (w5 : (Cond.selects Cc y' y').before a0 Z = true) (w6 : (Cond.instanceMethod y').before a0 Z = true) (w3 : (Cond.initialized y'.cls).before a0 Z = true) (w4 : (Cond.code y' bytes' mx' ret').before a0 Z = true) (hy : y'.cls ≠ "java/lang/invoke/MethodHandle" ∧ y'.cls ≠ "java/lang/invoke/VarHandle")
    (Wd : Nat) (hf : rm.frames + 1 ≤ R.frames) (hlo : Wd + (mx' + 11) + rm.locals ≤ R.locals) (hls : Ls.size = mx) (argsL : List Value) (has : as' = (.ref a :: argsL).toArray) {ps : List FieldType} {r' : Option FieldType} (hpd : parseMethodDescriptor y'.desc = some ⟨ps, r'⟩) (hlen : argsL.length = ps.length) (hst : st = argsL.reverse ++ .ref a :: rest) (hW : (rest.map fun v => v.category).sum ≤ Wd) (k2 n2 : Nat) (hk2 : k + rm.cells = k2) (hn2 : n + rm.slots = n2) (hk : k2 ≤ R.cells) (hn : n2 ≤ R.slots) (pc' : Nat) (hp : pc + 3 = pc')
    (K : ∀ v T' h', OW p l e R s m args below meth c Z y bytes mx ret n0 T' h' k2 n2 → Q' v h' → OE p e R below s n0 Q T' (mkF m pc' Ls (v.toList ++ rest))) : OE p e R below s n0 Q T (mkF m pc Ls st) := by
  obtain ⟨hx, hZ, hown, hby, hmx, hret, hnm, hlk, hn0, hT, locs, S, N0⟩ := X; subst hp has hk2 hn2
  obtain ⟨h1, cell, h2, A⟩ := H.get hi
  obtain ⟨cq, kq, q1, q2, q3⟩ := isOf hZ hT (A.exa h2)
  obtain ⟨v, _, ⟨T2, L2, k2, n2⟩, -, X2, ⟨Lc, hQ, l2, y2, z2⟩, stp⟩ := S.virtualBack hx (y := y') (z := y') hown (mvT hZ w1) (mvT hZ w2) (notFace_of_selects (args := #[]) (mvT hZ w5)) (mvT hZ w5) (mvT hZ w6) hy (backOf (W := Wd) (Q := fun v hh LL => Q' v hh ∧ Fr n0 LL) C hZ w4 w3 hf hlo) q1 q3 (g := mkF m pc Ls st) rfl (by rw [hmx]; exact hls) (Steps.refl _) (argsL := argsL) (rest := rest) (lenOf hpd hlen) hst (by show 2 * 0 + _ ≤ _; omega) (hb hby hd) (fun _ _ => ⟨rfl, hT, hk, hn⟩)
  dsimp only [Pt.U, Pt.locs, Pt.cells, Pt.slots] at X2 l2 y2 z2 stp hQ
  subst l2 y2 z2
  exact OE.by (fun t q => stp.trans q) (K v T2 T2.heap ⟨hx, hZ, hown, hby, hmx, hret, hnm, hlk, hn0, rfl, _, X2, N0.app hQ.2⟩ hQ.1)
end OwnKit
theorem d1_0 : decode prog_10_method_1_code 0 = .ok (.aload_n 0, 1) := by decide +kernel
theorem d1_1 : decode prog_10_method_1_code 1 = .ok (.invokespecial 1, 3) := by decide +kernel
theorem d1_4 : decode prog_10_method_1_code 4 = .ok (.aload_n 0, 1) := by decide +kernel
theorem d1_5 : decode prog_10_method_1_code 5 = .ok (.iconst 4, 1) := by decide +kernel
theorem d1_6 : decode prog_10_method_1_code 6 = .ok (.newarray .int, 2) := by decide +kernel
theorem d1_8 : decode prog_10_method_1_code 8 = .ok (.putfield 7, 3) := by decide +kernel
theorem d1_11 : decode prog_10_method_1_code 11 = .ok (.return_, 1) := by decide +kernel
theorem d2_0 : decode object_method_1_code 0 = .ok (.return_, 1) := by decide +kernel
theorem d3_0 : decode prog_10_method_2_code 0 = .ok (.aload_n 0, 1) := by decide +kernel
theorem d3_1 : decode prog_10_method_2_code 1 = .ok (.getfield 13, 3) := by decide +kernel
theorem d3_4 : decode prog_10_method_2_code 4 = .ok (.aload_n 0, 1) := by decide +kernel
theorem d3_5 : decode prog_10_method_2_code 5 = .ok (.getfield 7, 3) := by decide +kernel
theorem d3_8 : decode prog_10_method_2_code 8 = .ok (.arraylength, 1) := by decide +kernel
theorem d3_9 : decode prog_10_method_2_code 9 = .ok (.if_icmp .ne 20, 3) := by decide +kernel
theorem d3_12 : decode prog_10_method_2_code 12 = .ok (.aload_n 0, 1) := by decide +kernel
theorem d3_13 : decode prog_10_method_2_code 13 = .ok (.aload_n 0, 1) := by decide +kernel
theorem d3_14 : decode prog_10_method_2_code 14 = .ok (.getfield 7, 3) := by decide +kernel
theorem d3_17 : decode prog_10_method_2_code 17 = .ok (.aload_n 0, 1) := by decide +kernel
theorem d3_18 : decode prog_10_method_2_code 18 = .ok (.getfield 13, 3) := by decide +kernel
theorem d3_21 : decode prog_10_method_2_code 21 = .ok (.iconst 2, 1) := by decide +kernel
theorem d3_22 : decode prog_10_method_2_code 22 = .ok (.imul, 1) := by decide +kernel
theorem d3_23 : decode prog_10_method_2_code 23 = .ok (.invokestatic 17, 3) := by decide +kernel
theorem d3_26 : decode prog_10_method_2_code 26 = .ok (.putfield 7, 3) := by decide +kernel
theorem d3_29 : decode prog_10_method_2_code 29 = .ok (.aload_n 0, 1) := by decide +kernel
theorem d3_30 : decode prog_10_method_2_code 30 = .ok (.getfield 7, 3) := by decide +kernel
theorem d3_33 : decode prog_10_method_2_code 33 = .ok (.aload_n 0, 1) := by decide +kernel
theorem d3_34 : decode prog_10_method_2_code 34 = .ok (.dup, 1) := by decide +kernel
theorem d3_35 : decode prog_10_method_2_code 35 = .ok (.getfield 13, 3) := by decide +kernel
theorem d3_38 : decode prog_10_method_2_code 38 = .ok (.dup_x1, 1) := by decide +kernel
theorem d3_39 : decode prog_10_method_2_code 39 = .ok (.iconst 1, 1) := by decide +kernel
theorem d3_40 : decode prog_10_method_2_code 40 = .ok (.iadd, 1) := by decide +kernel
theorem d3_41 : decode prog_10_method_2_code 41 = .ok (.putfield 13, 3) := by decide +kernel
theorem d3_44 : decode prog_10_method_2_code 44 = .ok (.iload_n 1, 1) := by decide +kernel
theorem d3_45 : decode prog_10_method_2_code 45 = .ok (.iastore, 1) := by decide +kernel
theorem d3_46 : decode prog_10_method_2_code 46 = .ok (.return_, 1) := by decide +kernel
theorem d4_0 : decode prog_10_method_5_code 0 = .ok (.aload_n 0, 1) := by decide +kernel
theorem d4_1 : decode prog_10_method_5_code 1 = .ok (.getfield 13, 3) := by decide +kernel
theorem d4_4 : decode prog_10_method_5_code 4 = .ok (.ireturn, 1) := by decide +kernel
theorem d5_0 : decode prog_10_method_6_code 0 = .ok (.aload_n 0, 1) := by decide +kernel
theorem d5_1 : decode prog_10_method_6_code 1 = .ok (.getfield 7, 3) := by decide +kernel
theorem d5_4 : decode prog_10_method_6_code 4 = .ok (.arraylength, 1) := by decide +kernel
theorem d5_5 : decode prog_10_method_6_code 5 = .ok (.ireturn, 1) := by decide +kernel
theorem d6_0 : decode prog_10_method_3_code 0 = .ok (.aload_n 0, 1) := by decide +kernel
theorem d6_1 : decode prog_10_method_3_code 1 = .ok (.getfield 7, 3) := by decide +kernel
theorem d6_4 : decode prog_10_method_3_code 4 = .ok (.iload_n 1, 1) := by decide +kernel
theorem d6_5 : decode prog_10_method_3_code 5 = .ok (.iaload, 1) := by decide +kernel
theorem d6_6 : decode prog_10_method_3_code 6 = .ok (.ireturn, 1) := by decide +kernel
theorem d7_0 : decode jdk_65_method_123_code 0 = .ok (.iload_n 1, 1) := by decide +kernel
theorem d7_1 : decode jdk_65_method_123_code 1 = .ok (.aload_n 0, 1) := by decide +kernel
theorem d7_2 : decode jdk_65_method_123_code 2 = .ok (.arraylength, 1) := by decide +kernel
theorem d7_3 : decode jdk_65_method_123_code 3 = .ok (.if_icmp .ne 11, 3) := by decide +kernel
theorem d7_6 : decode jdk_65_method_123_code 6 = .ok (.aload_n 0, 1) := by decide +kernel
theorem d7_7 : decode jdk_65_method_123_code 7 = .ok (.invokevirtual 316, 3) := by decide +kernel
theorem d7_10 : decode jdk_65_method_123_code 10 = .ok (.checkcast 317, 3) := by decide +kernel
theorem d7_13 : decode jdk_65_method_123_code 13 = .ok (.areturn, 1) := by decide +kernel
theorem d7_14 : decode jdk_65_method_123_code 14 = .ok (.iload_n 1, 1) := by decide +kernel
theorem d7_15 : decode jdk_65_method_123_code 15 = .ok (.newarray .int, 2) := by decide +kernel
theorem d7_17 : decode jdk_65_method_123_code 17 = .ok (.astore_n 2, 1) := by decide +kernel
theorem d7_18 : decode jdk_65_method_123_code 18 = .ok (.aload_n 0, 1) := by decide +kernel
theorem d7_19 : decode jdk_65_method_123_code 19 = .ok (.iconst 0, 1) := by decide +kernel
theorem d7_20 : decode jdk_65_method_123_code 20 = .ok (.aload_n 2, 1) := by decide +kernel
theorem d7_21 : decode jdk_65_method_123_code 21 = .ok (.iconst 0, 1) := by decide +kernel
theorem d7_22 : decode jdk_65_method_123_code 22 = .ok (.aload_n 0, 1) := by decide +kernel
theorem d7_23 : decode jdk_65_method_123_code 23 = .ok (.arraylength, 1) := by decide +kernel
theorem d7_24 : decode jdk_65_method_123_code 24 = .ok (.iload_n 1, 1) := by decide +kernel
theorem d7_25 : decode jdk_65_method_123_code 25 = .ok (.invokestatic 304, 3) := by decide +kernel
theorem d7_28 : decode jdk_65_method_123_code 28 = .ok (.invokestatic 150, 3) := by decide +kernel
theorem d7_31 : decode jdk_65_method_123_code 31 = .ok (.aload_n 2, 1) := by decide +kernel
theorem d7_32 : decode jdk_65_method_123_code 32 = .ok (.areturn, 1) := by decide +kernel
theorem d8_0 : decode jdk_29_method_69_code 0 = .ok (.iload_n 0, 1) := by decide +kernel
theorem d8_1 : decode jdk_29_method_69_code 1 = .ok (.iload_n 1, 1) := by decide +kernel
theorem d8_2 : decode jdk_29_method_69_code 2 = .ok (.if_icmp .gt 7, 3) := by decide +kernel
theorem d8_5 : decode jdk_29_method_69_code 5 = .ok (.iload_n 0, 1) := by decide +kernel
theorem d8_6 : decode jdk_29_method_69_code 6 = .ok (.goto 4, 3) := by decide +kernel
theorem d8_9 : decode jdk_29_method_69_code 9 = .ok (.iload_n 1, 1) := by decide +kernel
theorem d8_10 : decode jdk_29_method_69_code 10 = .ok (.ireturn, 1) := by decide +kernel
theorem pn_0 : plainName "com/example/eratosthenes/eratosthenes/index/IntList" = true := by first | (simp [plainName, overriddenIn]; done) | decide +kernel
theorem pn_2 : plainName "java/util/Arrays" = true := by first | (simp [plainName, overriddenIn]; done) | decide +kernel
theorem pf_8 : plainFor (⟨"java/lang/Math", "min", "(II)I"⟩ : MethodName) = true := by decide +kernel
theorem pn_4 : plainName "com/example/eratosthenes/eratosthenes/index/IntListAddPinLaw" = true := by first | (simp [plainName, overriddenIn]; done) | decide +kernel
theorem pd_1 : parseMethodDescriptor "()V" = some ⟨[], none⟩ := by decide +kernel
theorem pd_2 : parseMethodDescriptor "()V" = some ⟨[], none⟩ := by decide +kernel
theorem pd_3 : parseMethodDescriptor "(I)V" = some ⟨[.int], none⟩ := by decide +kernel
theorem pd_4 : parseMethodDescriptor "()I" = some ⟨[], (some .int)⟩ := by decide +kernel
theorem pd_5 : parseMethodDescriptor "()I" = some ⟨[], (some .int)⟩ := by decide +kernel
theorem pd_6 : parseMethodDescriptor "(I)I" = some ⟨[.int], (some .int)⟩ := by decide +kernel
theorem pd_7 : parseMethodDescriptor "([II)[I" = some ⟨[(.array .int), .int], (some (.array .int))⟩ := by decide +kernel
theorem pd_8 : parseMethodDescriptor "(II)I" = some ⟨[.int, .int], (some .int)⟩ := by decide +kernel
def f_min (x z : Int32) : Int32 := if z < x then z else x
theorem v_k (x : Int32) : (x &&& 7) % 6 = 0 ∨ (x &&& 7) % 6 = 1 ∨ (x &&& 7) % 6 = 2 ∨ (x &&& 7) % 6 = 3 ∨ (x &&& 7) % 6 = 4 ∨ (x &&& 7) % 6 = 5 := by
  have h := Jvm.Kit.i32_mask x 7 (k := 3) (by decide) (by decide)
  have r := (c_irem (x &&& 7) 6 6 rfl).1 (by omega)
  simp only [← Int32.toInt_inj, Int32.reduceToInt]; omega
theorem v_j1 (x : Int32) : (x &&& 7) % 1 = 0 := by
  have h := Jvm.Kit.i32_mask x 7 (k := 3) (by decide) (by decide)
  have r := (c_irem (x &&& 7) 1 1 rfl).1 (by omega)
  simp only [← Int32.toInt_inj, Int32.reduceToInt]; omega
theorem v_j2 (x : Int32) : (x &&& 7) % 2 = 0 ∨ (x &&& 7) % 2 = 1 := by
  have h := Jvm.Kit.i32_mask x 7 (k := 3) (by decide) (by decide)
  have r := (c_irem (x &&& 7) 2 2 rfl).1 (by omega)
  simp only [← Int32.toInt_inj, Int32.reduceToInt]; omega
theorem v_j3 (x : Int32) : (x &&& 7) % 3 = 0 ∨ (x &&& 7) % 3 = 1 ∨ (x &&& 7) % 3 = 2 := by
  have h := Jvm.Kit.i32_mask x 7 (k := 3) (by decide) (by decide)
  have r := (c_irem (x &&& 7) 3 3 rfl).1 (by omega)
  simp only [← Int32.toInt_inj, Int32.reduceToInt]; omega
theorem v_j4 (x : Int32) : (x &&& 7) % 4 = 0 ∨ (x &&& 7) % 4 = 1 ∨ (x &&& 7) % 4 = 2 ∨ (x &&& 7) % 4 = 3 := by
  have h := Jvm.Kit.i32_mask x 7 (k := 3) (by decide) (by decide)
  have r := (c_irem (x &&& 7) 4 4 rfl).1 (by omega)
  simp only [← Int32.toInt_inj, Int32.reduceToInt]; omega
theorem v_j5 (x : Int32) : (x &&& 7) % 5 = 0 ∨ (x &&& 7) % 5 = 1 ∨ (x &&& 7) % 5 = 2 ∨ (x &&& 7) % 5 = 3 ∨ (x &&& 7) % 5 = 4 := by
  have h := Jvm.Kit.i32_mask x 7 (k := 3) (by decide) (by decide)
  have r := (c_irem (x &&& 7) 5 5 rfl).1 (by omega)
  simp only [← Int32.toInt_inj, Int32.reduceToInt]; omega
set_option maxRecDepth 65536 in
set_option maxHeartbeats 40000000 in
theorem c_min (l : Launch) (Z : State) (a0 : Array Value) (hw : ∀ d ∈ tables_1, d.before a0 Z = true) (ws : List Jvm.Cond) (n0 : Nat) (h0 : Heap) (hn0 : n0 ≤ h0.size) (xx : Int32) (xz : Int32) :
    OC l Z (⟨"java/lang/Math", "min", "(II)I"⟩ : MethodName) jdk_29_method_69_code 2 (some .int) ws ({ frames := 0, cells := 0, slots := 0, locals := 0 } : Room) n0 #[(.int xx), (.int xz)] h0 (fun r h => r = some (.int (f_min xx xz)) ∧ h0 = h) := by
  refine OC.of pf_8 hn0 #[.val (.int xx), .val (.int xz)] (fun m => by first | (simp [entryFrame, mkF, argsToLocals, Value.category, maxLocals]; done) | rfl) ?_
  intro p e s m below meth cd0 T0 X0 Q' hQ
  refine o_iloadN X0 d8_0 rfl 1 rfl ?_
  refine o_iloadN X0 d8_1 rfl 2 rfl ?_
  refine o_icmpGt X0 d8_2 9 5 (by decide) (by decide) rfl ?_ ?_
  · intro hc2
    refine o_iloadN X0 d8_9 rfl 10 rfl ?_
    exact o_retI X0 d8_10 (by decide) (by decide) (hQ _ _ ⟨by show some (Value.int xz) = some (Value.int (f_min xx xz)); simp [f_min, hc2], rfl⟩)
  · intro hc2
    refine o_iloadN X0 d8_5 rfl 6 rfl ?_
    refine o_goto X0 d8_6 10 (by decide) (by decide) ?_
    exact o_retI X0 d8_10 (by decide) (by decide) (hQ _ _ ⟨by show some (Value.int xx) = some (Value.int (f_min xx xz)); simp [f_min, hc2], rfl⟩)
set_option maxRecDepth 65536 in
set_option maxHeartbeats 40000000 in
theorem c_copy (l : Launch) (Z : State) (a0 : Array Value) (hw : ∀ d ∈ tables_1, d.before a0 Z = true) (ws : List Jvm.Cond) (n0 : Nat) (h0 : Heap) (hn0 : n0 ≤ h0.size) (xa : Addr) (y0 y1 y2 y3 : Int32) (L' : List (Addr × (Cell → Prop))) (H0 : OL n0 h0 ((xa, OA Z .int [y0, y1, y2, y3]) :: L')) :
    OC l Z (⟨"java/util/Arrays", "copyOf", "([II)[I"⟩ : MethodName) jdk_65_method_123_code 3 (some (.array .int)) ws ({ frames := 1, cells := 1, slots := 8, locals := 40 } : Room) n0 #[(.ref xa), (.int (8 : Int32))] h0 (fun r h => ∃ a, r = some (.ref a) ∧ OL n0 h ((a, OA Z .int [y0, y1, y2, y3, (0 : Int32), (0 : Int32), (0 : Int32), (0 : Int32)]) :: (xa, OA Z .int [y0, y1, y2, y3]) :: L')) := by
  refine OC.of (plainFor_of_name pn_2) hn0 #[.val (.ref xa), .val (.int (8 : Int32)), .unset] (fun m => by first | (simp [entryFrame, mkF, argsToLocals, Value.category, maxLocals]; done) | rfl) ?_
  intro p e s m below meth cd0 T0 X0 Q' hQ
  refine o_iloadN X0 d7_0 rfl 1 rfl ?_
  refine o_aloadN X0 d7_1 rfl rfl 2 rfl ?_
  refine o_arraylength X0 H0 0 rfl d7_2 (4 : Int32) rfl 3 rfl ?_
  refine o_icmpNe X0 d7_3 14 6 (by decide) (by decide) rfl ?_ (fun q => by exfalso; exact absurd q (by decide))
  intro hc3
  refine o_iloadN X0 d7_14 rfl 15 rfl ?_
  refine o_newarray (L := ((xa, OA Z .int [y0, y1, y2, y3]) :: L')) X0 H0 d7_15 (hw _ (List.mem_of_getElem? (i := 0) rfl)) rfl rfl 8 8 rfl (by decide) (by decide) 1 8 rfl rfl (by decide) (by decide) 17 rfl ?_
  intro T1 h1 b1 X1 H1
  replace H1 : OL n0 h1 ((b1, OA Z .int [(0 : Int32), (0 : Int32), (0 : Int32), (0 : Int32), (0 : Int32), (0 : Int32), (0 : Int32), (0 : Int32)]) :: (xa, OA Z .int [y0, y1, y2, y3]) :: L') := H1
  refine o_astoreN X1 d7_17 rfl #[.val (.ref xa), .val (.int (8 : Int32)), .val (.ref b1)] rfl 18 rfl ?_
  refine o_aloadN X1 d7_18 rfl rfl 19 rfl ?_
  refine o_iconst (v := (0 : Int32)) X1 d7_19 rfl 20 rfl ?_
  refine o_aloadN X1 d7_20 rfl rfl 21 rfl ?_
  refine o_iconst (v := (0 : Int32)) X1 d7_21 rfl 22 rfl ?_
  refine o_aloadN X1 d7_22 rfl rfl 23 rfl ?_
  refine o_arraylength X1 H1 1 rfl d7_23 (4 : Int32) rfl 24 rfl ?_
  refine o_iloadN X1 d7_24 rfl 25 rfl ?_
  refine o_callS X1 d7_25 (rest := [(.int (0 : Int32)), (.ref b1), (.int (0 : Int32)), (.ref xa)]) (c_min l Z a0 hw [] n0 _ X1.size (4 : Int32) (8 : Int32) ) (hw _ (List.mem_of_getElem? (i := 38) rfl)) (hw _ (List.mem_of_getElem? (i := 39) rfl)) (hw _ (List.mem_of_getElem? (i := 40) rfl)) (hw _ (List.mem_of_getElem? (i := 41) rfl)) (by decide) 4 (by decide) (by decide) rfl [(.int (4 : Int32)), (.int (8 : Int32))] rfl pd_8 rfl rfl (Nat.le_of_eq rfl) 1 8 rfl rfl (by decide) (by decide) 28 rfl ?_
  rintro _ T2 _ X2 ⟨rfl, rfl⟩
  rw [show (f_min (4 : Int32) (8 : Int32)) = (4 : Int32) from rfl]
  show OE p e ({ frames := 1, cells := 1, slots := 8, locals := 40 } : Room) below s n0 Q' T2 (mkF m 28 #[.val (.ref xa), .val (.int (8 : Int32)), .val (.ref b1)] [(.int (4 : Int32)), (.int (0 : Int32)), (.ref b1), (.int (0 : Int32)), (.ref xa)])
  refine o_arraycopy X2 H1 1 0 rfl rfl d7_28 (hw _ (List.mem_of_getElem? (i := 42) rfl)) (hw _ (List.mem_of_getElem? (i := 45) rfl)) (hw _ (List.mem_of_getElem? (i := 43) rfl)) (hw _ (List.mem_of_getElem? (i := 44) rfl)) rfl (by show 4 < 2 ^ 31; decide) (by show 8 < 2 ^ 31; decide) 0 0 4 rfl rfl rfl (by show 4 ≤ 4; decide) (by show 4 ≤ 8; decide) rfl (by decide) 0 (Nat.le_of_eq rfl) (by decide) 31 rfl ?_
  intro T3 h3 X3 H3
  replace H3 : OL n0 h3 ((b1, OA Z .int [y0, y1, y2, y3, (0 : Int32), (0 : Int32), (0 : Int32), (0 : Int32)]) :: (xa, OA Z .int [y0, y1, y2, y3]) :: L') := H3
  refine o_aloadN X3 d7_31 rfl rfl 32 rfl ?_
  exact o_retA X3 rfl rfl d7_32 (by decide) (by decide) (hQ _ _ ⟨_, rfl, H3⟩)
set_option maxRecDepth 65536 in
set_option maxHeartbeats 40000000 in
theorem c_ini (l : Launch) (Z : State) (a0 : Array Value) (hw : ∀ d ∈ tables_1, d.before a0 Z = true) (ws : List Jvm.Cond) (n0 : Nat) (h0 : Heap) (hn0 : n0 ≤ h0.size) (xo : Addr) (u : Value) (L' : List (Addr × (Cell → Prop))) (H0 : OL n0 h0 ((xo, OO Z "com/example/eratosthenes/eratosthenes/index/IntList" [("com/example/eratosthenes/eratosthenes/index/IntList", "values", "[I", u), ("com/example/eratosthenes/eratosthenes/index/IntList", "size", "I", .int (0 : Int32))]) :: L')) :
    OC l Z (⟨"com/example/eratosthenes/eratosthenes/index/IntList", "<init>", "()V"⟩ : MethodName) prog_10_method_1_code 1 none ws ({ frames := 1, cells := 1, slots := 4, locals := 12 } : Room) n0 #[(.ref xo)] h0 (fun r h => ∃ b, r = none ∧ OL n0 h ((xo, OO Z "com/example/eratosthenes/eratosthenes/index/IntList" [("com/example/eratosthenes/eratosthenes/index/IntList", "values", "[I", .ref b), ("com/example/eratosthenes/eratosthenes/index/IntList", "size", "I", .int (0 : Int32))]) :: (b, OA Z .int [(0 : Int32), (0 : Int32), (0 : Int32), (0 : Int32)]) :: L')) := by
  refine OC.of (plainFor_of_name pn_0) hn0 #[.val (.ref xo)] (fun m => by first | (simp [entryFrame, mkF, argsToLocals, Value.category, maxLocals]; done) | rfl) ?_
  intro p e s m below meth cd0 T0 X0 Q' hQ
  refine o_aloadN X0 d1_0 rfl rfl 1 rfl ?_
  refine o_initO X0 d1_1 (hw _ (List.mem_of_getElem? (i := 7) rfl)) (hw _ (List.mem_of_getElem? (i := 8) rfl)) (hw _ (List.mem_of_getElem? (i := 9) rfl)) rfl (by decide) 0 (Nat.le_of_eq rfl) (by decide) 4 rfl ?_
  intro T1 X1
  refine o_aloadN X1 d1_4 rfl rfl 5 rfl ?_
  refine o_iconst (v := (4 : Int32)) X1 d1_5 rfl 6 rfl ?_
  refine o_newarray (L := ((xo, OO Z "com/example/eratosthenes/eratosthenes/index/IntList" [("com/example/eratosthenes/eratosthenes/index/IntList", "values", "[I", u), ("com/example/eratosthenes/eratosthenes/index/IntList", "size", "I", .int (0 : Int32))]) :: L')) X1 H0 d1_6 (hw _ (List.mem_of_getElem? (i := 0) rfl)) rfl rfl 4 4 rfl (by decide) (by decide) 1 4 rfl rfl (by decide) (by decide) 8 rfl ?_
  intro T2 h2 b2 X2 H2
  replace H2 : OL n0 h2 ((b2, OA Z .int [(0 : Int32), (0 : Int32), (0 : Int32), (0 : Int32)]) :: (xo, OO Z "com/example/eratosthenes/eratosthenes/index/IntList" [("com/example/eratosthenes/eratosthenes/index/IntList", "values", "[I", u), ("com/example/eratosthenes/eratosthenes/index/IntList", "size", "I", .int (0 : Int32))]) :: L') := H2
  refine o_putF X2 H2 1 rfl d1_8 0 rfl (hw _ (List.mem_of_getElem? (i := 10) rfl)) (Or.inl (hw _ (List.mem_of_getElem? (i := 11) rfl))) (hw _ (List.mem_of_getElem? (i := 2) rfl)) (ty := (.array .int)) (by decide) rfl rfl (oqS (slot_ne (C := "com/example/eratosthenes/eratosthenes/index/IntList") (Or.inl (hw _ (List.mem_of_getElem? (i := 18) rfl))) (Or.inl (hw _ (List.mem_of_getElem? (i := 11) rfl))) (by show "size" ≠ "values"; decide) (t := .int) (by show parseFieldDescriptor "I" = some .int; decide) (t' := (.array .int)) (by show parseFieldDescriptor "[I" = some (.array .int); decide)) oq0) 11 rfl ?_
  intro T3 h3 X3 H3
  replace H3 : OL n0 h3 ((b2, OA Z .int [(0 : Int32), (0 : Int32), (0 : Int32), (0 : Int32)]) :: (xo, OO Z "com/example/eratosthenes/eratosthenes/index/IntList" [("com/example/eratosthenes/eratosthenes/index/IntList", "values", "[I", .ref b2), ("com/example/eratosthenes/eratosthenes/index/IntList", "size", "I", .int (0 : Int32))]) :: L') := H3
  have H4 : OL n0 h3 ((xo, OO Z "com/example/eratosthenes/eratosthenes/index/IntList" [("com/example/eratosthenes/eratosthenes/index/IntList", "values", "[I", .ref b2), ("com/example/eratosthenes/eratosthenes/index/IntList", "size", "I", .int (0 : Int32))]) :: (b2, OA Z .int [(0 : Int32), (0 : Int32), (0 : Int32), (0 : Int32)]) :: L') := H3.front 1 rfl
  exact o_ret X3 d1_11 (by decide) (by decide) (hQ _ _ ⟨_, rfl, H4⟩)
set_option maxRecDepth 65536 in
set_option maxHeartbeats 40000000 in
theorem c_add0 (l : Launch) (Z : State) (a0 : Array Value) (hw : ∀ d ∈ tables_1, d.before a0 Z = true) (ws : List Jvm.Cond) (n0 : Nat) (h0 : Heap) (hn0 : n0 ≤ h0.size) (xo xb : Addr) (xv y0 y1 y2 y3 : Int32) (L' : List (Addr × (Cell → Prop))) (H0 : OL n0 h0 ((xo, OO Z "com/example/eratosthenes/eratosthenes/index/IntList" [("com/example/eratosthenes/eratosthenes/index/IntList", "values", "[I", .ref xb), ("com/example/eratosthenes/eratosthenes/index/IntList", "size", "I", .int (0 : Int32))]) :: (xb, OA Z .int [y0, y1, y2, y3]) :: L')) :
    OC l Z (⟨"com/example/eratosthenes/eratosthenes/index/IntList", "add", "(I)V"⟩ : MethodName) prog_10_method_2_code 2 none ws ({ frames := 0, cells := 0, slots := 0, locals := 0 } : Room) n0 #[(.ref xo), (.int xv)] h0 (fun r h => r = none ∧ OL n0 h ((xo, OO Z "com/example/eratosthenes/eratosthenes/index/IntList" [("com/example/eratosthenes/eratosthenes/index/IntList", "values", "[I", .ref xb), ("com/example/eratosthenes/eratosthenes/index/IntList", "size", "I", .int (1 : Int32))]) :: (xb, OA Z .int [xv, y1, y2, y3]) :: L')) := by
  refine OC.of (plainFor_of_name pn_0) hn0 #[.val (.ref xo), .val (.int xv)] (fun m => by first | (simp [entryFrame, mkF, argsToLocals, Value.category, maxLocals]; done) | rfl) ?_
  intro p e s m below meth cd0 T0 X0 Q' hQ
  refine o_aloadN X0 d3_0 rfl rfl 1 rfl ?_
  refine o_getF X0 H0 0 rfl d3_1 1 rfl (hw _ (List.mem_of_getElem? (i := 17) rfl)) 4 rfl ?_
  intro T1 X1
  refine o_aloadN X1 d3_4 rfl rfl 5 rfl ?_
  refine o_getF X1 H0 0 rfl d3_5 0 rfl (hw _ (List.mem_of_getElem? (i := 10) rfl)) 8 rfl ?_
  intro T2 X2
  refine o_arraylength X2 H0 1 rfl d3_8 (4 : Int32) rfl 9 rfl ?_
  refine o_icmpNe X2 d3_9 29 12 (by decide) (by decide) rfl ?_ (fun q => by exfalso; exact absurd q (by decide))
  intro hc9
  refine o_aloadN X2 d3_29 rfl rfl 30 rfl ?_
  refine o_getF X2 H0 0 rfl d3_30 0 rfl (hw _ (List.mem_of_getElem? (i := 10) rfl)) 33 rfl ?_
  intro T3 X3
  refine o_aloadN X3 d3_33 rfl rfl 34 rfl ?_
  refine o_dup X3 d3_34 rfl 35 rfl ?_
  refine o_getF X3 H0 0 rfl d3_35 1 rfl (hw _ (List.mem_of_getElem? (i := 17) rfl)) 38 rfl ?_
  intro T4 X4
  refine o_dupX1 X4 d3_38 rfl rfl 39 rfl ?_
  refine o_iconst (v := (1 : Int32)) X4 d3_39 rfl 40 rfl ?_
  refine o_iadd X4 d3_40 41 rfl ?_
  rw [show ((0 : Int32) + (1 : Int32)) = (1 : Int32) from rfl]
  refine o_putF X4 H0 0 rfl d3_41 1 rfl (hw _ (List.mem_of_getElem? (i := 17) rfl)) (Or.inl (hw _ (List.mem_of_getElem? (i := 18) rfl))) (hw _ (List.mem_of_getElem? (i := 2) rfl)) (ty := .int) (by decide) rfl rfl (oqS (slot_ne (C := "com/example/eratosthenes/eratosthenes/index/IntList") (Or.inl (hw _ (List.mem_of_getElem? (i := 11) rfl))) (Or.inl (hw _ (List.mem_of_getElem? (i := 18) rfl))) (by show "values" ≠ "size"; decide) (t := (.array .int)) (by show parseFieldDescriptor "[I" = some (.array .int); decide) (t' := .int) (by show parseFieldDescriptor "I" = some .int; decide)) oq0) 44 rfl ?_
  intro T5 h5 X5 H5
  replace H5 : OL n0 h5 ((xo, OO Z "com/example/eratosthenes/eratosthenes/index/IntList" [("com/example/eratosthenes/eratosthenes/index/IntList", "values", "[I", .ref xb), ("com/example/eratosthenes/eratosthenes/index/IntList", "size", "I", .int (1 : Int32))]) :: (xb, OA Z .int [y0, y1, y2, y3]) :: L') := H5
  refine o_iloadN X5 d3_44 rfl 45 rfl ?_
  refine o_iastore X5 H5 1 rfl d3_45 0 rfl (by show 0 < 4; decide) 46 rfl ?_
  intro T6 h6 X6 H6
  replace H6 : OL n0 h6 ((xo, OO Z "com/example/eratosthenes/eratosthenes/index/IntList" [("com/example/eratosthenes/eratosthenes/index/IntList", "values", "[I", .ref xb), ("com/example/eratosthenes/eratosthenes/index/IntList", "size", "I", .int (1 : Int32))]) :: (xb, OA Z .int [xv, y1, y2, y3]) :: L') := H6
  exact o_ret X6 d3_46 (by decide) (by decide) (hQ _ _ ⟨rfl, H6⟩)
set_option maxRecDepth 65536 in
set_option maxHeartbeats 40000000 in
theorem c_add1 (l : Launch) (Z : State) (a0 : Array Value) (hw : ∀ d ∈ tables_1, d.before a0 Z = true) (ws : List Jvm.Cond) (n0 : Nat) (h0 : Heap) (hn0 : n0 ≤ h0.size) (xo xb : Addr) (xv y0 y1 y2 y3 : Int32) (L' : List (Addr × (Cell → Prop))) (H0 : OL n0 h0 ((xo, OO Z "com/example/eratosthenes/eratosthenes/index/IntList" [("com/example/eratosthenes/eratosthenes/index/IntList", "values", "[I", .ref xb), ("com/example/eratosthenes/eratosthenes/index/IntList", "size", "I", .int (1 : Int32))]) :: (xb, OA Z .int [y0, y1, y2, y3]) :: L')) :
    OC l Z (⟨"com/example/eratosthenes/eratosthenes/index/IntList", "add", "(I)V"⟩ : MethodName) prog_10_method_2_code 2 none ws ({ frames := 0, cells := 0, slots := 0, locals := 0 } : Room) n0 #[(.ref xo), (.int xv)] h0 (fun r h => r = none ∧ OL n0 h ((xo, OO Z "com/example/eratosthenes/eratosthenes/index/IntList" [("com/example/eratosthenes/eratosthenes/index/IntList", "values", "[I", .ref xb), ("com/example/eratosthenes/eratosthenes/index/IntList", "size", "I", .int (2 : Int32))]) :: (xb, OA Z .int [y0, xv, y2, y3]) :: L')) := by
  refine OC.of (plainFor_of_name pn_0) hn0 #[.val (.ref xo), .val (.int xv)] (fun m => by first | (simp [entryFrame, mkF, argsToLocals, Value.category, maxLocals]; done) | rfl) ?_
  intro p e s m below meth cd0 T0 X0 Q' hQ
  refine o_aloadN X0 d3_0 rfl rfl 1 rfl ?_
  refine o_getF X0 H0 0 rfl d3_1 1 rfl (hw _ (List.mem_of_getElem? (i := 17) rfl)) 4 rfl ?_
  intro T1 X1
  refine o_aloadN X1 d3_4 rfl rfl 5 rfl ?_
  refine o_getF X1 H0 0 rfl d3_5 0 rfl (hw _ (List.mem_of_getElem? (i := 10) rfl)) 8 rfl ?_
  intro T2 X2
  refine o_arraylength X2 H0 1 rfl d3_8 (4 : Int32) rfl 9 rfl ?_
  refine o_icmpNe X2 d3_9 29 12 (by decide) (by decide) rfl ?_ (fun q => by exfalso; exact absurd q (by decide))
  intro hc9
  refine o_aloadN X2 d3_29 rfl rfl 30 rfl ?_
  refine o_getF X2 H0 0 rfl d3_30 0 rfl (hw _ (List.mem_of_getElem? (i := 10) rfl)) 33 rfl ?_
  intro T3 X3
  refine o_aloadN X3 d3_33 rfl rfl 34 rfl ?_
  refine o_dup X3 d3_34 rfl 35 rfl ?_
  refine o_getF X3 H0 0 rfl d3_35 1 rfl (hw _ (List.mem_of_getElem? (i := 17) rfl)) 38 rfl ?_
  intro T4 X4
  refine o_dupX1 X4 d3_38 rfl rfl 39 rfl ?_
  refine o_iconst (v := (1 : Int32)) X4 d3_39 rfl 40 rfl ?_
  refine o_iadd X4 d3_40 41 rfl ?_
  rw [show ((1 : Int32) + (1 : Int32)) = (2 : Int32) from rfl]
  refine o_putF X4 H0 0 rfl d3_41 1 rfl (hw _ (List.mem_of_getElem? (i := 17) rfl)) (Or.inl (hw _ (List.mem_of_getElem? (i := 18) rfl))) (hw _ (List.mem_of_getElem? (i := 2) rfl)) (ty := .int) (by decide) rfl rfl (oqS (slot_ne (C := "com/example/eratosthenes/eratosthenes/index/IntList") (Or.inl (hw _ (List.mem_of_getElem? (i := 11) rfl))) (Or.inl (hw _ (List.mem_of_getElem? (i := 18) rfl))) (by show "values" ≠ "size"; decide) (t := (.array .int)) (by show parseFieldDescriptor "[I" = some (.array .int); decide) (t' := .int) (by show parseFieldDescriptor "I" = some .int; decide)) oq0) 44 rfl ?_
  intro T5 h5 X5 H5
  replace H5 : OL n0 h5 ((xo, OO Z "com/example/eratosthenes/eratosthenes/index/IntList" [("com/example/eratosthenes/eratosthenes/index/IntList", "values", "[I", .ref xb), ("com/example/eratosthenes/eratosthenes/index/IntList", "size", "I", .int (2 : Int32))]) :: (xb, OA Z .int [y0, y1, y2, y3]) :: L') := H5
  refine o_iloadN X5 d3_44 rfl 45 rfl ?_
  refine o_iastore X5 H5 1 rfl d3_45 1 rfl (by show 1 < 4; decide) 46 rfl ?_
  intro T6 h6 X6 H6
  replace H6 : OL n0 h6 ((xo, OO Z "com/example/eratosthenes/eratosthenes/index/IntList" [("com/example/eratosthenes/eratosthenes/index/IntList", "values", "[I", .ref xb), ("com/example/eratosthenes/eratosthenes/index/IntList", "size", "I", .int (2 : Int32))]) :: (xb, OA Z .int [y0, xv, y2, y3]) :: L') := H6
  exact o_ret X6 d3_46 (by decide) (by decide) (hQ _ _ ⟨rfl, H6⟩)
set_option maxRecDepth 65536 in
set_option maxHeartbeats 40000000 in
theorem c_add2 (l : Launch) (Z : State) (a0 : Array Value) (hw : ∀ d ∈ tables_1, d.before a0 Z = true) (ws : List Jvm.Cond) (n0 : Nat) (h0 : Heap) (hn0 : n0 ≤ h0.size) (xo xb : Addr) (xv y0 y1 y2 y3 : Int32) (L' : List (Addr × (Cell → Prop))) (H0 : OL n0 h0 ((xo, OO Z "com/example/eratosthenes/eratosthenes/index/IntList" [("com/example/eratosthenes/eratosthenes/index/IntList", "values", "[I", .ref xb), ("com/example/eratosthenes/eratosthenes/index/IntList", "size", "I", .int (2 : Int32))]) :: (xb, OA Z .int [y0, y1, y2, y3]) :: L')) :
    OC l Z (⟨"com/example/eratosthenes/eratosthenes/index/IntList", "add", "(I)V"⟩ : MethodName) prog_10_method_2_code 2 none ws ({ frames := 0, cells := 0, slots := 0, locals := 0 } : Room) n0 #[(.ref xo), (.int xv)] h0 (fun r h => r = none ∧ OL n0 h ((xo, OO Z "com/example/eratosthenes/eratosthenes/index/IntList" [("com/example/eratosthenes/eratosthenes/index/IntList", "values", "[I", .ref xb), ("com/example/eratosthenes/eratosthenes/index/IntList", "size", "I", .int (3 : Int32))]) :: (xb, OA Z .int [y0, y1, xv, y3]) :: L')) := by
  refine OC.of (plainFor_of_name pn_0) hn0 #[.val (.ref xo), .val (.int xv)] (fun m => by first | (simp [entryFrame, mkF, argsToLocals, Value.category, maxLocals]; done) | rfl) ?_
  intro p e s m below meth cd0 T0 X0 Q' hQ
  refine o_aloadN X0 d3_0 rfl rfl 1 rfl ?_
  refine o_getF X0 H0 0 rfl d3_1 1 rfl (hw _ (List.mem_of_getElem? (i := 17) rfl)) 4 rfl ?_
  intro T1 X1
  refine o_aloadN X1 d3_4 rfl rfl 5 rfl ?_
  refine o_getF X1 H0 0 rfl d3_5 0 rfl (hw _ (List.mem_of_getElem? (i := 10) rfl)) 8 rfl ?_
  intro T2 X2
  refine o_arraylength X2 H0 1 rfl d3_8 (4 : Int32) rfl 9 rfl ?_
  refine o_icmpNe X2 d3_9 29 12 (by decide) (by decide) rfl ?_ (fun q => by exfalso; exact absurd q (by decide))
  intro hc9
  refine o_aloadN X2 d3_29 rfl rfl 30 rfl ?_
  refine o_getF X2 H0 0 rfl d3_30 0 rfl (hw _ (List.mem_of_getElem? (i := 10) rfl)) 33 rfl ?_
  intro T3 X3
  refine o_aloadN X3 d3_33 rfl rfl 34 rfl ?_
  refine o_dup X3 d3_34 rfl 35 rfl ?_
  refine o_getF X3 H0 0 rfl d3_35 1 rfl (hw _ (List.mem_of_getElem? (i := 17) rfl)) 38 rfl ?_
  intro T4 X4
  refine o_dupX1 X4 d3_38 rfl rfl 39 rfl ?_
  refine o_iconst (v := (1 : Int32)) X4 d3_39 rfl 40 rfl ?_
  refine o_iadd X4 d3_40 41 rfl ?_
  rw [show ((2 : Int32) + (1 : Int32)) = (3 : Int32) from rfl]
  refine o_putF X4 H0 0 rfl d3_41 1 rfl (hw _ (List.mem_of_getElem? (i := 17) rfl)) (Or.inl (hw _ (List.mem_of_getElem? (i := 18) rfl))) (hw _ (List.mem_of_getElem? (i := 2) rfl)) (ty := .int) (by decide) rfl rfl (oqS (slot_ne (C := "com/example/eratosthenes/eratosthenes/index/IntList") (Or.inl (hw _ (List.mem_of_getElem? (i := 11) rfl))) (Or.inl (hw _ (List.mem_of_getElem? (i := 18) rfl))) (by show "values" ≠ "size"; decide) (t := (.array .int)) (by show parseFieldDescriptor "[I" = some (.array .int); decide) (t' := .int) (by show parseFieldDescriptor "I" = some .int; decide)) oq0) 44 rfl ?_
  intro T5 h5 X5 H5
  replace H5 : OL n0 h5 ((xo, OO Z "com/example/eratosthenes/eratosthenes/index/IntList" [("com/example/eratosthenes/eratosthenes/index/IntList", "values", "[I", .ref xb), ("com/example/eratosthenes/eratosthenes/index/IntList", "size", "I", .int (3 : Int32))]) :: (xb, OA Z .int [y0, y1, y2, y3]) :: L') := H5
  refine o_iloadN X5 d3_44 rfl 45 rfl ?_
  refine o_iastore X5 H5 1 rfl d3_45 2 rfl (by show 2 < 4; decide) 46 rfl ?_
  intro T6 h6 X6 H6
  replace H6 : OL n0 h6 ((xo, OO Z "com/example/eratosthenes/eratosthenes/index/IntList" [("com/example/eratosthenes/eratosthenes/index/IntList", "values", "[I", .ref xb), ("com/example/eratosthenes/eratosthenes/index/IntList", "size", "I", .int (3 : Int32))]) :: (xb, OA Z .int [y0, y1, xv, y3]) :: L') := H6
  exact o_ret X6 d3_46 (by decide) (by decide) (hQ _ _ ⟨rfl, H6⟩)
set_option maxRecDepth 65536 in
set_option maxHeartbeats 40000000 in
theorem c_add3 (l : Launch) (Z : State) (a0 : Array Value) (hw : ∀ d ∈ tables_1, d.before a0 Z = true) (ws : List Jvm.Cond) (n0 : Nat) (h0 : Heap) (hn0 : n0 ≤ h0.size) (xo xb : Addr) (xv y0 y1 y2 y3 : Int32) (L' : List (Addr × (Cell → Prop))) (H0 : OL n0 h0 ((xo, OO Z "com/example/eratosthenes/eratosthenes/index/IntList" [("com/example/eratosthenes/eratosthenes/index/IntList", "values", "[I", .ref xb), ("com/example/eratosthenes/eratosthenes/index/IntList", "size", "I", .int (3 : Int32))]) :: (xb, OA Z .int [y0, y1, y2, y3]) :: L')) :
    OC l Z (⟨"com/example/eratosthenes/eratosthenes/index/IntList", "add", "(I)V"⟩ : MethodName) prog_10_method_2_code 2 none ws ({ frames := 0, cells := 0, slots := 0, locals := 0 } : Room) n0 #[(.ref xo), (.int xv)] h0 (fun r h => r = none ∧ OL n0 h ((xo, OO Z "com/example/eratosthenes/eratosthenes/index/IntList" [("com/example/eratosthenes/eratosthenes/index/IntList", "values", "[I", .ref xb), ("com/example/eratosthenes/eratosthenes/index/IntList", "size", "I", .int (4 : Int32))]) :: (xb, OA Z .int [y0, y1, y2, xv]) :: L')) := by
  refine OC.of (plainFor_of_name pn_0) hn0 #[.val (.ref xo), .val (.int xv)] (fun m => by first | (simp [entryFrame, mkF, argsToLocals, Value.category, maxLocals]; done) | rfl) ?_
  intro p e s m below meth cd0 T0 X0 Q' hQ
  refine o_aloadN X0 d3_0 rfl rfl 1 rfl ?_
  refine o_getF X0 H0 0 rfl d3_1 1 rfl (hw _ (List.mem_of_getElem? (i := 17) rfl)) 4 rfl ?_
  intro T1 X1
  refine o_aloadN X1 d3_4 rfl rfl 5 rfl ?_
  refine o_getF X1 H0 0 rfl d3_5 0 rfl (hw _ (List.mem_of_getElem? (i := 10) rfl)) 8 rfl ?_
  intro T2 X2
  refine o_arraylength X2 H0 1 rfl d3_8 (4 : Int32) rfl 9 rfl ?_
  refine o_icmpNe X2 d3_9 29 12 (by decide) (by decide) rfl ?_ (fun q => by exfalso; exact absurd q (by decide))
  intro hc9
  refine o_aloadN X2 d3_29 rfl rfl 30 rfl ?_
  refine o_getF X2 H0 0 rfl d3_30 0 rfl (hw _ (List.mem_of_getElem? (i := 10) rfl)) 33 rfl ?_
  intro T3 X3
  refine o_aloadN X3 d3_33 rfl rfl 34 rfl ?_
  refine o_dup X3 d3_34 rfl 35 rfl ?_
  refine o_getF X3 H0 0 rfl d3_35 1 rfl (hw _ (List.mem_of_getElem? (i := 17) rfl)) 38 rfl ?_
  intro T4 X4
  refine o_dupX1 X4 d3_38 rfl rfl 39 rfl ?_
  refine o_iconst (v := (1 : Int32)) X4 d3_39 rfl 40 rfl ?_
  refine o_iadd X4 d3_40 41 rfl ?_
  rw [show ((3 : Int32) + (1 : Int32)) = (4 : Int32) from rfl]
  refine o_putF X4 H0 0 rfl d3_41 1 rfl (hw _ (List.mem_of_getElem? (i := 17) rfl)) (Or.inl (hw _ (List.mem_of_getElem? (i := 18) rfl))) (hw _ (List.mem_of_getElem? (i := 2) rfl)) (ty := .int) (by decide) rfl rfl (oqS (slot_ne (C := "com/example/eratosthenes/eratosthenes/index/IntList") (Or.inl (hw _ (List.mem_of_getElem? (i := 11) rfl))) (Or.inl (hw _ (List.mem_of_getElem? (i := 18) rfl))) (by show "values" ≠ "size"; decide) (t := (.array .int)) (by show parseFieldDescriptor "[I" = some (.array .int); decide) (t' := .int) (by show parseFieldDescriptor "I" = some .int; decide)) oq0) 44 rfl ?_
  intro T5 h5 X5 H5
  replace H5 : OL n0 h5 ((xo, OO Z "com/example/eratosthenes/eratosthenes/index/IntList" [("com/example/eratosthenes/eratosthenes/index/IntList", "values", "[I", .ref xb), ("com/example/eratosthenes/eratosthenes/index/IntList", "size", "I", .int (4 : Int32))]) :: (xb, OA Z .int [y0, y1, y2, y3]) :: L') := H5
  refine o_iloadN X5 d3_44 rfl 45 rfl ?_
  refine o_iastore X5 H5 1 rfl d3_45 3 rfl (by show 3 < 4; decide) 46 rfl ?_
  intro T6 h6 X6 H6
  replace H6 : OL n0 h6 ((xo, OO Z "com/example/eratosthenes/eratosthenes/index/IntList" [("com/example/eratosthenes/eratosthenes/index/IntList", "values", "[I", .ref xb), ("com/example/eratosthenes/eratosthenes/index/IntList", "size", "I", .int (4 : Int32))]) :: (xb, OA Z .int [y0, y1, y2, xv]) :: L') := H6
  exact o_ret X6 d3_46 (by decide) (by decide) (hQ _ _ ⟨rfl, H6⟩)
set_option maxRecDepth 65536 in
set_option maxHeartbeats 40000000 in
theorem c_add4 (l : Launch) (Z : State) (a0 : Array Value) (hw : ∀ d ∈ tables_1, d.before a0 Z = true) (ws : List Jvm.Cond) (n0 : Nat) (h0 : Heap) (hn0 : n0 ≤ h0.size) (xo xb : Addr) (xv y0 y1 y2 y3 : Int32) (L' : List (Addr × (Cell → Prop))) (H0 : OL n0 h0 ((xo, OO Z "com/example/eratosthenes/eratosthenes/index/IntList" [("com/example/eratosthenes/eratosthenes/index/IntList", "values", "[I", .ref xb), ("com/example/eratosthenes/eratosthenes/index/IntList", "size", "I", .int (4 : Int32))]) :: (xb, OA Z .int [y0, y1, y2, y3]) :: L')) :
    OC l Z (⟨"com/example/eratosthenes/eratosthenes/index/IntList", "add", "(I)V"⟩ : MethodName) prog_10_method_2_code 2 none ws ({ frames := 2, cells := 1, slots := 8, locals := 56 } : Room) n0 #[(.ref xo), (.int xv)] h0 (fun r h => ∃ b, r = none ∧ OL n0 h ((xo, OO Z "com/example/eratosthenes/eratosthenes/index/IntList" [("com/example/eratosthenes/eratosthenes/index/IntList", "values", "[I", .ref b), ("com/example/eratosthenes/eratosthenes/index/IntList", "size", "I", .int (5 : Int32))]) :: (b, OA Z .int [y0, y1, y2, y3, xv, (0 : Int32), (0 : Int32), (0 : Int32)]) :: (xb, OA Z .int [y0, y1, y2, y3]) :: L')) := by
  refine OC.of (plainFor_of_name pn_0) hn0 #[.val (.ref xo), .val (.int xv)] (fun m => by first | (simp [entryFrame, mkF, argsToLocals, Value.category, maxLocals]; done) | rfl) ?_
  intro p e s m below meth cd0 T0 X0 Q' hQ
  refine o_aloadN X0 d3_0 rfl rfl 1 rfl ?_
  refine o_getF X0 H0 0 rfl d3_1 1 rfl (hw _ (List.mem_of_getElem? (i := 17) rfl)) 4 rfl ?_
  intro T1 X1
  refine o_aloadN X1 d3_4 rfl rfl 5 rfl ?_
  refine o_getF X1 H0 0 rfl d3_5 0 rfl (hw _ (List.mem_of_getElem? (i := 10) rfl)) 8 rfl ?_
  intro T2 X2
  refine o_arraylength X2 H0 1 rfl d3_8 (4 : Int32) rfl 9 rfl ?_
  refine o_icmpNe X2 d3_9 29 12 (by decide) (by decide) rfl (fun q => by exfalso; exact absurd q (by decide)) ?_
  intro hc9
  refine o_aloadN X2 d3_12 rfl rfl 13 rfl ?_
  refine o_aloadN X2 d3_13 rfl rfl 14 rfl ?_
  refine o_getF X2 H0 0 rfl d3_14 0 rfl (hw _ (List.mem_of_getElem? (i := 10) rfl)) 17 rfl ?_
  intro T3 X3
  refine o_aloadN X3 d3_17 rfl rfl 18 rfl ?_
  refine o_getF X3 H0 0 rfl d3_18 1 rfl (hw _ (List.mem_of_getElem? (i := 17) rfl)) 21 rfl ?_
  intro T4 X4
  refine o_iconst (v := (2 : Int32)) X4 d3_21 rfl 22 rfl ?_
  refine o_imul X4 d3_22 23 rfl ?_
  have H6 : OL n0 h0 ((xb, OA Z .int [y0, y1, y2, y3]) :: (xo, OO Z "com/example/eratosthenes/eratosthenes/index/IntList" [("com/example/eratosthenes/eratosthenes/index/IntList", "values", "[I", .ref xb), ("com/example/eratosthenes/eratosthenes/index/IntList", "size", "I", .int (4 : Int32))]) :: L') := H0.front 1 rfl
  refine o_callS X4 d3_23 (rest := [(.ref xo)]) (c_copy l Z a0 hw [] n0 _ X4.size xb y0 y1 y2 y3 ((xo, OO Z "com/example/eratosthenes/eratosthenes/index/IntList" [("com/example/eratosthenes/eratosthenes/index/IntList", "values", "[I", .ref xb), ("com/example/eratosthenes/eratosthenes/index/IntList", "size", "I", .int (4 : Int32))]) :: L') H6) (hw _ (List.mem_of_getElem? (i := 34) rfl)) (hw _ (List.mem_of_getElem? (i := 35) rfl)) (hw _ (List.mem_of_getElem? (i := 36) rfl)) (hw _ (List.mem_of_getElem? (i := 37) rfl)) (by decide) 1 (by decide) (by decide) rfl [(.ref xb), (.int ((4 : Int32) * (2 : Int32)))] rfl pd_7 rfl rfl (Nat.le_of_eq rfl) 1 8 rfl rfl (by decide) (by decide) 26 rfl ?_
  rintro _ T5 h5 X5 ⟨a5, rfl, H5⟩
  replace H5 : OL n0 h5 ((a5, OA Z .int [y0, y1, y2, y3, (0 : Int32), (0 : Int32), (0 : Int32), (0 : Int32)]) :: (xb, OA Z .int [y0, y1, y2, y3]) :: (xo, OO Z "com/example/eratosthenes/eratosthenes/index/IntList" [("com/example/eratosthenes/eratosthenes/index/IntList", "values", "[I", .ref xb), ("com/example/eratosthenes/eratosthenes/index/IntList", "size", "I", .int (4 : Int32))]) :: L') := H5
  show OE p e ({ frames := 2, cells := 1, slots := 8, locals := 56 } : Room) below s n0 Q' T5 (mkF m 26 #[.val (.ref xo), .val (.int xv)] [(.ref a5), (.ref xo)])
  refine o_putF X5 H5 2 rfl d3_26 0 rfl (hw _ (List.mem_of_getElem? (i := 10) rfl)) (Or.inl (hw _ (List.mem_of_getElem? (i := 11) rfl))) (hw _ (List.mem_of_getElem? (i := 2) rfl)) (ty := (.array .int)) (by decide) rfl rfl (oqS (slot_ne (C := "com/example/eratosthenes/eratosthenes/index/IntList") (Or.inl (hw _ (List.mem_of_getElem? (i := 18) rfl))) (Or.inl (hw _ (List.mem_of_getElem? (i := 11) rfl))) (by show "size" ≠ "values"; decide) (t := .int) (by show parseFieldDescriptor "I" = some .int; decide) (t' := (.array .int)) (by show parseFieldDescriptor "[I" = some (.array .int); decide)) oq0) 29 rfl ?_
  intro T7 h7 X7 H7
  replace H7 : OL n0 h7 ((a5, OA Z .int [y0, y1, y2, y3, (0 : Int32), (0 : Int32), (0 : Int32), (0 : Int32)]) :: (xb, OA Z .int [y0, y1, y2, y3]) :: (xo, OO Z "com/example/eratosthenes/eratosthenes/index/IntList" [("com/example/eratosthenes/eratosthenes/index/IntList", "values", "[I", .ref a5), ("com/example/eratosthenes/eratosthenes/index/IntList", "size", "I", .int (4 : Int32))]) :: L') := H7
  refine o_aloadN X7 d3_29 rfl rfl 30 rfl ?_
  refine o_getF X7 H7 2 rfl d3_30 0 rfl (hw _ (List.mem_of_getElem? (i := 10) rfl)) 33 rfl ?_
  intro T8 X8
  refine o_aloadN X8 d3_33 rfl rfl 34 rfl ?_
  refine o_dup X8 d3_34 rfl 35 rfl ?_
  refine o_getF X8 H7 2 rfl d3_35 1 rfl (hw _ (List.mem_of_getElem? (i := 17) rfl)) 38 rfl ?_
  intro T9 X9
  refine o_dupX1 X9 d3_38 rfl rfl 39 rfl ?_
  refine o_iconst (v := (1 : Int32)) X9 d3_39 rfl 40 rfl ?_
  refine o_iadd X9 d3_40 41 rfl ?_
  rw [show ((4 : Int32) + (1 : Int32)) = (5 : Int32) from rfl]
  refine o_putF X9 H7 2 rfl d3_41 1 rfl (hw _ (List.mem_of_getElem? (i := 17) rfl)) (Or.inl (hw _ (List.mem_of_getElem? (i := 18) rfl))) (hw _ (List.mem_of_getElem? (i := 2) rfl)) (ty := .int) (by decide) rfl rfl (oqS (slot_ne (C := "com/example/eratosthenes/eratosthenes/index/IntList") (Or.inl (hw _ (List.mem_of_getElem? (i := 11) rfl))) (Or.inl (hw _ (List.mem_of_getElem? (i := 18) rfl))) (by show "values" ≠ "size"; decide) (t := (.array .int)) (by show parseFieldDescriptor "[I" = some (.array .int); decide) (t' := .int) (by show parseFieldDescriptor "I" = some .int; decide)) oq0) 44 rfl ?_
  intro T10 h10 X10 H10
  replace H10 : OL n0 h10 ((a5, OA Z .int [y0, y1, y2, y3, (0 : Int32), (0 : Int32), (0 : Int32), (0 : Int32)]) :: (xb, OA Z .int [y0, y1, y2, y3]) :: (xo, OO Z "com/example/eratosthenes/eratosthenes/index/IntList" [("com/example/eratosthenes/eratosthenes/index/IntList", "values", "[I", .ref a5), ("com/example/eratosthenes/eratosthenes/index/IntList", "size", "I", .int (5 : Int32))]) :: L') := H10
  refine o_iloadN X10 d3_44 rfl 45 rfl ?_
  refine o_iastore X10 H10 0 rfl d3_45 4 rfl (by show 4 < 8; decide) 46 rfl ?_
  intro T11 h11 X11 H11
  replace H11 : OL n0 h11 ((a5, OA Z .int [y0, y1, y2, y3, xv, (0 : Int32), (0 : Int32), (0 : Int32)]) :: (xb, OA Z .int [y0, y1, y2, y3]) :: (xo, OO Z "com/example/eratosthenes/eratosthenes/index/IntList" [("com/example/eratosthenes/eratosthenes/index/IntList", "values", "[I", .ref a5), ("com/example/eratosthenes/eratosthenes/index/IntList", "size", "I", .int (5 : Int32))]) :: L') := H11
  have H12 : OL n0 h11 ((xb, OA Z .int [y0, y1, y2, y3]) :: (a5, OA Z .int [y0, y1, y2, y3, xv, (0 : Int32), (0 : Int32), (0 : Int32)]) :: (xo, OO Z "com/example/eratosthenes/eratosthenes/index/IntList" [("com/example/eratosthenes/eratosthenes/index/IntList", "values", "[I", .ref a5), ("com/example/eratosthenes/eratosthenes/index/IntList", "size", "I", .int (5 : Int32))]) :: L') := H11.front 1 rfl
  have H13 : OL n0 h11 ((a5, OA Z .int [y0, y1, y2, y3, xv, (0 : Int32), (0 : Int32), (0 : Int32)]) :: (xb, OA Z .int [y0, y1, y2, y3]) :: (xo, OO Z "com/example/eratosthenes/eratosthenes/index/IntList" [("com/example/eratosthenes/eratosthenes/index/IntList", "values", "[I", .ref a5), ("com/example/eratosthenes/eratosthenes/index/IntList", "size", "I", .int (5 : Int32))]) :: L') := H12.front 1 rfl
  have H14 : OL n0 h11 ((xo, OO Z "com/example/eratosthenes/eratosthenes/index/IntList" [("com/example/eratosthenes/eratosthenes/index/IntList", "values", "[I", .ref a5), ("com/example/eratosthenes/eratosthenes/index/IntList", "size", "I", .int (5 : Int32))]) :: (a5, OA Z .int [y0, y1, y2, y3, xv, (0 : Int32), (0 : Int32), (0 : Int32)]) :: (xb, OA Z .int [y0, y1, y2, y3]) :: L') := H13.front 2 rfl
  exact o_ret X11 d3_46 (by decide) (by decide) (hQ _ _ ⟨_, rfl, H14⟩)
set_option maxRecDepth 65536 in
set_option maxHeartbeats 40000000 in
theorem c_size (l : Launch) (Z : State) (a0 : Array Value) (hw : ∀ d ∈ tables_1, d.before a0 Z = true) (ws : List Jvm.Cond) (n0 : Nat) (h0 : Heap) (hn0 : n0 ≤ h0.size) (xo xb : Addr) (xs : Int32) (vs : List Int32) (L' : List (Addr × (Cell → Prop))) (H0 : OL n0 h0 ((xo, OO Z "com/example/eratosthenes/eratosthenes/index/IntList" [("com/example/eratosthenes/eratosthenes/index/IntList", "values", "[I", .ref xb), ("com/example/eratosthenes/eratosthenes/index/IntList", "size", "I", .int xs)]) :: (xb, OA Z .int vs) :: L')) :
    OC l Z (⟨"com/example/eratosthenes/eratosthenes/index/IntList", "size", "()I"⟩ : MethodName) prog_10_method_5_code 1 (some .int) ws ({ frames := 0, cells := 0, slots := 0, locals := 0 } : Room) n0 #[(.ref xo)] h0 (fun r h => r = some (.int xs) ∧ h0 = h) := by
  refine OC.of (plainFor_of_name pn_0) hn0 #[.val (.ref xo)] (fun m => by first | (simp [entryFrame, mkF, argsToLocals, Value.category, maxLocals]; done) | rfl) ?_
  intro p e s m below meth cd0 T0 X0 Q' hQ
  refine o_aloadN X0 d4_0 rfl rfl 1 rfl ?_
  refine o_getF X0 H0 0 rfl d4_1 1 rfl (hw _ (List.mem_of_getElem? (i := 17) rfl)) 4 rfl ?_
  intro T1 X1
  exact o_retI X1 d4_4 (by decide) (by decide) (hQ _ _ ⟨rfl, rfl⟩)
set_option maxRecDepth 65536 in
set_option maxHeartbeats 40000000 in
theorem c_cap (l : Launch) (Z : State) (a0 : Array Value) (hw : ∀ d ∈ tables_1, d.before a0 Z = true) (ws : List Jvm.Cond) (n0 : Nat) (h0 : Heap) (hn0 : n0 ≤ h0.size) (xo xb : Addr) (xs : Int32) (vs : List Int32) (L' : List (Addr × (Cell → Prop))) (H0 : OL n0 h0 ((xo, OO Z "com/example/eratosthenes/eratosthenes/index/IntList" [("com/example/eratosthenes/eratosthenes/index/IntList", "values", "[I", .ref xb), ("com/example/eratosthenes/eratosthenes/index/IntList", "size", "I", .int xs)]) :: (xb, OA Z .int vs) :: L')) :
    OC l Z (⟨"com/example/eratosthenes/eratosthenes/index/IntList", "capacity", "()I"⟩ : MethodName) prog_10_method_6_code 1 (some .int) ws ({ frames := 0, cells := 0, slots := 0, locals := 0 } : Room) n0 #[(.ref xo)] h0 (fun r h => r = some (.int (Int32.ofNat vs.length)) ∧ h0 = h) := by
  refine OC.of (plainFor_of_name pn_0) hn0 #[.val (.ref xo)] (fun m => by first | (simp [entryFrame, mkF, argsToLocals, Value.category, maxLocals]; done) | rfl) ?_
  intro p e s m below meth cd0 T0 X0 Q' hQ
  refine o_aloadN X0 d5_0 rfl rfl 1 rfl ?_
  refine o_getF X0 H0 0 rfl d5_1 0 rfl (hw _ (List.mem_of_getElem? (i := 10) rfl)) 4 rfl ?_
  intro T1 X1
  refine o_arraylength X1 H0 1 rfl d5_4 (Int32.ofNat vs.length) rfl 5 rfl ?_
  exact o_retI X1 d5_5 (by decide) (by decide) (hQ _ _ ⟨rfl, rfl⟩)
set_option maxRecDepth 65536 in
set_option maxHeartbeats 40000000 in
theorem c_get (l : Launch) (Z : State) (a0 : Array Value) (hw : ∀ d ∈ tables_1, d.before a0 Z = true) (ws : List Jvm.Cond) (n0 : Nat) (h0 : Heap) (hn0 : n0 ≤ h0.size) (xo xb : Addr) (xs : Int32) (vs : List Int32) (L' : List (Addr × (Cell → Prop))) (H0 : OL n0 h0 ((xo, OO Z "com/example/eratosthenes/eratosthenes/index/IntList" [("com/example/eratosthenes/eratosthenes/index/IntList", "values", "[I", .ref xb), ("com/example/eratosthenes/eratosthenes/index/IntList", "size", "I", .int xs)]) :: (xb, OA Z .int vs) :: L')) (xi : Int32) (i : Nat) (hi : xi.toInt = i) (v : Int32) (hv : vs[i]? = some v) :
    OC l Z (⟨"com/example/eratosthenes/eratosthenes/index/IntList", "get", "(I)I"⟩ : MethodName) prog_10_method_3_code 2 (some .int) ws ({ frames := 0, cells := 0, slots := 0, locals := 0 } : Room) n0 #[(.ref xo), (.int xi)] h0 (fun r h => r = some (.int v) ∧ h0 = h) := by
  refine OC.of (plainFor_of_name pn_0) hn0 #[.val (.ref xo), .val (.int xi)] (fun m => by first | (simp [entryFrame, mkF, argsToLocals, Value.category, maxLocals]; done) | rfl) ?_
  intro p e s m below meth cd0 T0 X0 Q' hQ
  refine o_aloadN X0 d6_0 rfl rfl 1 rfl ?_
  refine o_getF X0 H0 0 rfl d6_1 0 rfl (hw _ (List.mem_of_getElem? (i := 10) rfl)) 4 rfl ?_
  intro T1 X1
  refine o_iloadN X1 d6_4 rfl 5 rfl ?_
  refine o_iaload X1 H0 1 rfl d6_5 i hi v hv 6 rfl ?_
  exact o_retI X1 d6_6 (by decide) (by decide) (hQ _ _ ⟨rfl, rfl⟩)
set_option maxRecDepth 65536 in
set_option maxHeartbeats 40000000 in
theorem c_law (l : Launch) (Z : State) (a0 : Array Value) (hw : ∀ d ∈ tables_1, d.before a0 Z = true) (ws : List Jvm.Cond) (n0 : Nat) (h0 : Heap) (hn0 : n0 ≤ h0.size) (xa : Int32) (xb : Int32) (xc : Int32) (xd : Int32) (xe : Int32) (xn : Int32) :
    OC l Z x code maxLocals ret ws room_1 n0 #[(.int xa), (.int xb), (.int xc), (.int xd), (.int xe), (.int xn)] h0 (fun r h => r = some (.int 1)) := by
  refine OC.of (plainFor_of_name pn_4) hn0 #[.val (.int xa), .val (.int xb), .val (.int xc), .val (.int xd), .val (.int xe), .val (.int xn), .unset, .unset, .unset, .unset, .unset] (fun m => by first | (simp [entryFrame, mkF, argsToLocals, Value.category, maxLocals]; done) | rfl) ?_
  intro p e s m below meth cd0 T0 X0 Q' hQ
  refine o_iload X0 at_0 rfl 2 rfl ?_
  refine o_bipush (v := (7 : Int32)) X0 at_2 rfl 4 rfl ?_
  refine o_iand X0 at_4 5 rfl ?_
  refine o_bipush (v := (6 : Int32)) X0 at_5 rfl 7 rfl ?_
  refine o_irem X0 at_7 (by decide) 8 rfl ?_
  refine o_istore X0 at_8 #[.val (.int xa), .val (.int xb), .val (.int xc), .val (.int xd), .val (.int xe), .val (.int xn), .val (.int ((xn &&& (7 : Int32)) % (6 : Int32))), .unset, .unset, .unset, .unset] rfl 10 rfl ?_
  refine o_iconst (v := (5 : Int32)) X0 at_10 rfl 11 rfl ?_
  refine o_newarray (L := []) X0 OL.nil at_11 (hw _ (List.mem_of_getElem? (i := 0) rfl)) rfl rfl 5 5 rfl (by decide) (by decide) 1 5 rfl rfl (by decide) (by decide) 13 rfl ?_
  intro T1 h1 b1 X1 H1
  replace H1 : OL n0 h1 ((b1, OA Z .int [(0 : Int32), (0 : Int32), (0 : Int32), (0 : Int32), (0 : Int32)]) :: []) := H1
  refine o_dup X1 at_13 rfl 14 rfl ?_
  refine o_iconst (v := (0 : Int32)) X1 at_14 rfl 15 rfl ?_
  refine o_iloadN X1 at_15 rfl 16 rfl ?_
  refine o_iastore X1 H1 0 rfl at_16 0 rfl (by show 0 < 5; decide) 17 rfl ?_
  intro T2 h2 X2 H2
  replace H2 : OL n0 h2 ((b1, OA Z .int [xa, (0 : Int32), (0 : Int32), (0 : Int32), (0 : Int32)]) :: []) := H2
  refine o_dup X2 at_17 rfl 18 rfl ?_
  refine o_iconst (v := (1 : Int32)) X2 at_18 rfl 19 rfl ?_
  refine o_iloadN X2 at_19 rfl 20 rfl ?_
  refine o_iastore X2 H2 0 rfl at_20 1 rfl (by show 1 < 5; decide) 21 rfl ?_
  intro T3 h3 X3 H3
  replace H3 : OL n0 h3 ((b1, OA Z .int [xa, xb, (0 : Int32), (0 : Int32), (0 : Int32)]) :: []) := H3
  refine o_dup X3 at_21 rfl 22 rfl ?_
  refine o_iconst (v := (2 : Int32)) X3 at_22 rfl 23 rfl ?_
  refine o_iloadN X3 at_23 rfl 24 rfl ?_
  refine o_iastore X3 H3 0 rfl at_24 2 rfl (by show 2 < 5; decide) 25 rfl ?_
  intro T4 h4 X4 H4
  replace H4 : OL n0 h4 ((b1, OA Z .int [xa, xb, xc, (0 : Int32), (0 : Int32)]) :: []) := H4
  refine o_dup X4 at_25 rfl 26 rfl ?_
  refine o_iconst (v := (3 : Int32)) X4 at_26 rfl 27 rfl ?_
  refine o_iloadN X4 at_27 rfl 28 rfl ?_
  refine o_iastore X4 H4 0 rfl at_28 3 rfl (by show 3 < 5; decide) 29 rfl ?_
  intro T5 h5 X5 H5
  replace H5 : OL n0 h5 ((b1, OA Z .int [xa, xb, xc, xd, (0 : Int32)]) :: []) := H5
  refine o_dup X5 at_29 rfl 30 rfl ?_
  refine o_iconst (v := (4 : Int32)) X5 at_30 rfl 31 rfl ?_
  refine o_iload X5 at_31 rfl 33 rfl ?_
  refine o_iastore X5 H5 0 rfl at_33 4 rfl (by show 4 < 5; decide) 34 rfl ?_
  intro T6 h6 X6 H6
  replace H6 : OL n0 h6 ((b1, OA Z .int [xa, xb, xc, xd, xe]) :: []) := H6
  refine o_astore X6 at_34 rfl #[.val (.int xa), .val (.int xb), .val (.int xc), .val (.int xd), .val (.int xe), .val (.int xn), .val (.int ((xn &&& (7 : Int32)) % (6 : Int32))), .val (.ref b1), .unset, .unset, .unset] rfl 36 rfl ?_
  rcases v_k xn with hv | hv | hv | hv | hv | hv
  · rw [hv]
    refine o_new (L := ((b1, OA Z .int [xa, xb, xc, xd, xe]) :: [])) X6 H6 at_36 (hw _ (List.mem_of_getElem? (i := 1) rfl)) (hw _ (List.mem_of_getElem? (i := 2) rfl)) (hw _ (List.mem_of_getElem? (i := 3) rfl)) [("com/example/eratosthenes/eratosthenes/index/IntList", "values", "[I", .null), ("com/example/eratosthenes/eratosthenes/index/IntList", "size", "I", .int (0 : Int32))] (oqS ⟨(.array .int), Or.inl (hw _ (List.mem_of_getElem? (i := 11) rfl)), by decide, rfl⟩ (oqS ⟨.int, Or.inl (hw _ (List.mem_of_getElem? (i := 18) rfl)), by decide, rfl⟩ oq0)) 2 7 rfl rfl (by decide) (by decide) 39 rfl ?_
    intro T7 h7 b7 X7 H7
    refine o_dup X7 at_39 rfl 40 rfl ?_
    refine o_callI X7 at_40 (rest := [(.ref b7)]) (c_ini l Z a0 hw [] n0 _ X7.size b7 _ ((b1, OA Z .int [xa, xb, xc, xd, xe]) :: []) H7) rfl (hw _ (List.mem_of_getElem? (i := 4) rfl)) (hw _ (List.mem_of_getElem? (i := 5) rfl)) (hw _ (List.mem_of_getElem? (i := 3) rfl)) (hw _ (List.mem_of_getElem? (i := 6) rfl)) (by decide) 1 (by decide) (by decide) rfl [] rfl pd_1 rfl rfl (Nat.le_of_eq rfl) 3 11 rfl rfl (by decide) (by decide) 43 rfl ?_
    rintro _ T8 h8 X8 ⟨b8, rfl, H8⟩
    replace H8 : OL n0 h8 ((b7, OO Z "com/example/eratosthenes/eratosthenes/index/IntList" [("com/example/eratosthenes/eratosthenes/index/IntList", "values", "[I", .ref b8), ("com/example/eratosthenes/eratosthenes/index/IntList", "size", "I", .int (0 : Int32))]) :: (b8, OA Z .int [(0 : Int32), (0 : Int32), (0 : Int32), (0 : Int32)]) :: (b1, OA Z .int [xa, xb, xc, xd, xe]) :: []) := H8
    show OE p e room_1 below s n0 Q' T8 (mkF m 43 #[.val (.int xa), .val (.int xb), .val (.int xc), .val (.int xd), .val (.int xe), .val (.int xn), .val (.int (0 : Int32)), .val (.ref b1), .unset, .unset, .unset] [(.ref b7)])
    refine o_astore X8 at_43 rfl #[.val (.int xa), .val (.int xb), .val (.int xc), .val (.int xd), .val (.int xe), .val (.int xn), .val (.int (0 : Int32)), .val (.ref b1), .val (.ref b7), .unset, .unset] rfl 45 rfl ?_
    refine o_iload X8 at_45 rfl 47 rfl ?_
    refine o_iconst (v := (1 : Int32)) X8 at_47 rfl 48 rfl ?_
    refine o_icmpLt X8 at_48 57 51 (by decide) (by decide) rfl ?_ (fun q => by exfalso; exact absurd q (by decide))
    intro hc48
    refine o_iload X8 at_57 rfl 59 rfl ?_
    refine o_iconst (v := (2 : Int32)) X8 at_59 rfl 60 rfl ?_
    refine o_icmpLt X8 at_60 69 63 (by decide) (by decide) rfl ?_ (fun q => by exfalso; exact absurd q (by decide))
    intro hc60
    refine o_iload X8 at_69 rfl 71 rfl ?_
    refine o_iconst (v := (3 : Int32)) X8 at_71 rfl 72 rfl ?_
    refine o_icmpLt X8 at_72 81 75 (by decide) (by decide) rfl ?_ (fun q => by exfalso; exact absurd q (by decide))
    intro hc72
    refine o_iload X8 at_81 rfl 83 rfl ?_
    refine o_iconst (v := (4 : Int32)) X8 at_83 rfl 84 rfl ?_
    refine o_icmpLt X8 at_84 93 87 (by decide) (by decide) rfl ?_ (fun q => by exfalso; exact absurd q (by decide))
    intro hc84
    refine o_iload X8 at_93 rfl 95 rfl ?_
    refine o_iconst (v := (5 : Int32)) X8 at_95 rfl 96 rfl ?_
    refine o_icmpLt X8 at_96 106 99 (by decide) (by decide) rfl ?_ (fun q => by exfalso; exact absurd q (by decide))
    intro hc96
    refine o_aload X8 at_106 rfl rfl 108 rfl ?_
    have H10 : OL n0 h8 ((b8, OA Z .int [(0 : Int32), (0 : Int32), (0 : Int32), (0 : Int32)]) :: (b7, OO Z "com/example/eratosthenes/eratosthenes/index/IntList" [("com/example/eratosthenes/eratosthenes/index/IntList", "values", "[I", .ref b8), ("com/example/eratosthenes/eratosthenes/index/IntList", "size", "I", .int (0 : Int32))]) :: (b1, OA Z .int [xa, xb, xc, xd, xe]) :: []) := H8.front 1 rfl
    have H11 : OL n0 h8 ((b7, OO Z "com/example/eratosthenes/eratosthenes/index/IntList" [("com/example/eratosthenes/eratosthenes/index/IntList", "values", "[I", .ref b8), ("com/example/eratosthenes/eratosthenes/index/IntList", "size", "I", .int (0 : Int32))]) :: (b8, OA Z .int [(0 : Int32), (0 : Int32), (0 : Int32), (0 : Int32)]) :: (b1, OA Z .int [xa, xb, xc, xd, xe]) :: []) := H10.front 1 rfl
    refine o_callV X8 H11 0 rfl at_108 (rest := []) (c_size l Z a0 hw [] n0 _ X8.size b7 b8 (0 : Int32) [(0 : Int32), (0 : Int32), (0 : Int32), (0 : Int32)] ((b1, OA Z .int [xa, xb, xc, xd, xe]) :: []) H11) (hw _ (List.mem_of_getElem? (i := 19) rfl)) (hw _ (List.mem_of_getElem? (i := 20) rfl)) (hw _ (List.mem_of_getElem? (i := 22) rfl)) (hw _ (List.mem_of_getElem? (i := 21) rfl)) (hw _ (List.mem_of_getElem? (i := 3) rfl)) (hw _ (List.mem_of_getElem? (i := 23) rfl)) (by decide) 0 (by decide) (by decide) rfl [] rfl pd_4 rfl rfl (Nat.le_of_eq rfl) 3 11 rfl rfl (by decide) (by decide) 111 rfl ?_
    rintro _ T9 _ X9 ⟨rfl, rfl⟩
    show OE p e room_1 below s n0 Q' T9 (mkF m 111 #[.val (.int xa), .val (.int xb), .val (.int xc), .val (.int xd), .val (.int xe), .val (.int xn), .val (.int (0 : Int32)), .val (.ref b1), .val (.ref b7), .unset, .unset] [(.int (0 : Int32))])
    refine o_iload X9 at_111 rfl 113 rfl ?_
    refine o_icmpEq X9 at_113 118 116 (by decide) (by decide) rfl ?_ (fun q => by exfalso; exact absurd q (by decide))
    intro hc113
    refine o_iload X9 at_118 rfl 120 rfl ?_
    refine o_iconst (v := (5 : Int32)) X9 at_120 rfl 121 rfl ?_
    refine o_icmpNe X9 at_121 129 124 (by decide) (by decide) rfl ?_ (fun q => by exfalso; exact absurd q (by decide))
    intro hc121
    refine o_iconst (v := (4 : Int32)) X9 at_129 rfl 130 rfl ?_
    refine o_istore X9 at_130 #[.val (.int xa), .val (.int xb), .val (.int xc), .val (.int xd), .val (.int xe), .val (.int xn), .val (.int (0 : Int32)), .val (.ref b1), .val (.ref b7), .val (.int (4 : Int32)), .unset] rfl 132 rfl ?_
    refine o_aload X9 at_132 rfl rfl 134 rfl ?_
    have H13 : OL n0 h8 ((b8, OA Z .int [(0 : Int32), (0 : Int32), (0 : Int32), (0 : Int32)]) :: (b7, OO Z "com/example/eratosthenes/eratosthenes/index/IntList" [("com/example/eratosthenes/eratosthenes/index/IntList", "values", "[I", .ref b8), ("com/example/eratosthenes/eratosthenes/index/IntList", "size", "I", .int (0 : Int32))]) :: (b1, OA Z .int [xa, xb, xc, xd, xe]) :: []) := H11.front 1 rfl
    have H14 : OL n0 h8 ((b7, OO Z "com/example/eratosthenes/eratosthenes/index/IntList" [("com/example/eratosthenes/eratosthenes/index/IntList", "values", "[I", .ref b8), ("com/example/eratosthenes/eratosthenes/index/IntList", "size", "I", .int (0 : Int32))]) :: (b8, OA Z .int [(0 : Int32), (0 : Int32), (0 : Int32), (0 : Int32)]) :: (b1, OA Z .int [xa, xb, xc, xd, xe]) :: []) := H13.front 1 rfl
    refine o_callV X9 H14 0 rfl at_134 (rest := []) (c_cap l Z a0 hw [] n0 _ X9.size b7 b8 (0 : Int32) [(0 : Int32), (0 : Int32), (0 : Int32), (0 : Int32)] ((b1, OA Z .int [xa, xb, xc, xd, xe]) :: []) H14) (hw _ (List.mem_of_getElem? (i := 24) rfl)) (hw _ (List.mem_of_getElem? (i := 25) rfl)) (hw _ (List.mem_of_getElem? (i := 27) rfl)) (hw _ (List.mem_of_getElem? (i := 26) rfl)) (hw _ (List.mem_of_getElem? (i := 3) rfl)) (hw _ (List.mem_of_getElem? (i := 28) rfl)) (by decide) 0 (by decide) (by decide) rfl [] rfl pd_5 rfl rfl (Nat.le_of_eq rfl) 3 11 rfl rfl (by decide) (by decide) 137 rfl ?_
    rintro _ T12 _ X12 ⟨rfl, rfl⟩
    rw [show (Int32.ofNat [(0 : Int32), (0 : Int32), (0 : Int32), (0 : Int32)].length) = (4 : Int32) from rfl]
    show OE p e room_1 below s n0 Q' T12 (mkF m 137 #[.val (.int xa), .val (.int xb), .val (.int xc), .val (.int xd), .val (.int xe), .val (.int xn), .val (.int (0 : Int32)), .val (.ref b1), .val (.ref b7), .val (.int (4 : Int32)), .unset] [(.int (4 : Int32))])
    refine o_iload X12 at_137 rfl 139 rfl ?_
    refine o_icmpEq X12 at_139 144 142 (by decide) (by decide) rfl ?_ (fun q => by exfalso; exact absurd q (by decide))
    intro hc139
    refine o_iload X12 at_144 rfl 146 rfl ?_
    refine o_ifNe X12 at_146 151 149 (by decide) (by decide) rfl (fun q => by exfalso; exact absurd q (by decide)) ?_
    intro hc146
    refine o_iconst (v := (1 : Int32)) X12 at_149 rfl 150 rfl ?_
    exact o_retZ X12 at_150 (by decide) (by decide) (hQ _ _ rfl)
  · rw [hv]
    refine o_new (L := ((b1, OA Z .int [xa, xb, xc, xd, xe]) :: [])) X6 H6 at_36 (hw _ (List.mem_of_getElem? (i := 1) rfl)) (hw _ (List.mem_of_getElem? (i := 2) rfl)) (hw _ (List.mem_of_getElem? (i := 3) rfl)) [("com/example/eratosthenes/eratosthenes/index/IntList", "values", "[I", .null), ("com/example/eratosthenes/eratosthenes/index/IntList", "size", "I", .int (0 : Int32))] (oqS ⟨(.array .int), Or.inl (hw _ (List.mem_of_getElem? (i := 11) rfl)), by decide, rfl⟩ (oqS ⟨.int, Or.inl (hw _ (List.mem_of_getElem? (i := 18) rfl)), by decide, rfl⟩ oq0)) 2 7 rfl rfl (by decide) (by decide) 39 rfl ?_
    intro T15 h15 b15 X15 H15
    refine o_dup X15 at_39 rfl 40 rfl ?_
    refine o_callI X15 at_40 (rest := [(.ref b15)]) (c_ini l Z a0 hw [] n0 _ X15.size b15 _ ((b1, OA Z .int [xa, xb, xc, xd, xe]) :: []) H15) rfl (hw _ (List.mem_of_getElem? (i := 4) rfl)) (hw _ (List.mem_of_getElem? (i := 5) rfl)) (hw _ (List.mem_of_getElem? (i := 3) rfl)) (hw _ (List.mem_of_getElem? (i := 6) rfl)) (by decide) 1 (by decide) (by decide) rfl [] rfl pd_1 rfl rfl (Nat.le_of_eq rfl) 3 11 rfl rfl (by decide) (by decide) 43 rfl ?_
    rintro _ T16 h16 X16 ⟨b16, rfl, H16⟩
    replace H16 : OL n0 h16 ((b15, OO Z "com/example/eratosthenes/eratosthenes/index/IntList" [("com/example/eratosthenes/eratosthenes/index/IntList", "values", "[I", .ref b16), ("com/example/eratosthenes/eratosthenes/index/IntList", "size", "I", .int (0 : Int32))]) :: (b16, OA Z .int [(0 : Int32), (0 : Int32), (0 : Int32), (0 : Int32)]) :: (b1, OA Z .int [xa, xb, xc, xd, xe]) :: []) := H16
    show OE p e room_1 below s n0 Q' T16 (mkF m 43 #[.val (.int xa), .val (.int xb), .val (.int xc), .val (.int xd), .val (.int xe), .val (.int xn), .val (.int (1 : Int32)), .val (.ref b1), .unset, .unset, .unset] [(.ref b15)])
    refine o_astore X16 at_43 rfl #[.val (.int xa), .val (.int xb), .val (.int xc), .val (.int xd), .val (.int xe), .val (.int xn), .val (.int (1 : Int32)), .val (.ref b1), .val (.ref b15), .unset, .unset] rfl 45 rfl ?_
    refine o_iload X16 at_45 rfl 47 rfl ?_
    refine o_iconst (v := (1 : Int32)) X16 at_47 rfl 48 rfl ?_
    refine o_icmpLt X16 at_48 57 51 (by decide) (by decide) rfl (fun q => by exfalso; exact absurd q (by decide)) ?_
    intro hc48
    refine o_aload X16 at_51 rfl rfl 53 rfl ?_
    refine o_iloadN X16 at_53 rfl 54 rfl ?_
    have H18 : OL n0 h16 ((b16, OA Z .int [(0 : Int32), (0 : Int32), (0 : Int32), (0 : Int32)]) :: (b15, OO Z "com/example/eratosthenes/eratosthenes/index/IntList" [("com/example/eratosthenes/eratosthenes/index/IntList", "values", "[I", .ref b16), ("com/example/eratosthenes/eratosthenes/index/IntList", "size", "I", .int (0 : Int32))]) :: (b1, OA Z .int [xa, xb, xc, xd, xe]) :: []) := H16.front 1 rfl
    have H19 : OL n0 h16 ((b15, OO Z "com/example/eratosthenes/eratosthenes/index/IntList" [("com/example/eratosthenes/eratosthenes/index/IntList", "values", "[I", .ref b16), ("com/example/eratosthenes/eratosthenes/index/IntList", "size", "I", .int (0 : Int32))]) :: (b16, OA Z .int [(0 : Int32), (0 : Int32), (0 : Int32), (0 : Int32)]) :: (b1, OA Z .int [xa, xb, xc, xd, xe]) :: []) := H18.front 1 rfl
    refine o_callV X16 H19 0 rfl at_54 (rest := []) (c_add0 l Z a0 hw [] n0 _ X16.size b15 b16 xa (0 : Int32) (0 : Int32) (0 : Int32) (0 : Int32) ((b1, OA Z .int [xa, xb, xc, xd, xe]) :: []) H19) (hw _ (List.mem_of_getElem? (i := 12) rfl)) (hw _ (List.mem_of_getElem? (i := 13) rfl)) (hw _ (List.mem_of_getElem? (i := 15) rfl)) (hw _ (List.mem_of_getElem? (i := 14) rfl)) (hw _ (List.mem_of_getElem? (i := 3) rfl)) (hw _ (List.mem_of_getElem? (i := 16) rfl)) (by decide) 0 (by decide) (by decide) rfl [(.int xa)] rfl pd_3 rfl rfl (Nat.le_of_eq rfl) 3 11 rfl rfl (by decide) (by decide) 57 rfl ?_
    rintro _ T17 h17 X17 ⟨rfl, H17⟩
    replace H17 : OL n0 h17 ((b15, OO Z "com/example/eratosthenes/eratosthenes/index/IntList" [("com/example/eratosthenes/eratosthenes/index/IntList", "values", "[I", .ref b16), ("com/example/eratosthenes/eratosthenes/index/IntList", "size", "I", .int (1 : Int32))]) :: (b16, OA Z .int [xa, (0 : Int32), (0 : Int32), (0 : Int32)]) :: (b1, OA Z .int [xa, xb, xc, xd, xe]) :: []) := H17
    show OE p e room_1 below s n0 Q' T17 (mkF m 57 #[.val (.int xa), .val (.int xb), .val (.int xc), .val (.int xd), .val (.int xe), .val (.int xn), .val (.int (1 : Int32)), .val (.ref b1), .val (.ref b15), .unset, .unset] [])
    refine o_iload X17 at_57 rfl 59 rfl ?_
    refine o_iconst (v := (2 : Int32)) X17 at_59 rfl 60 rfl ?_
    refine o_icmpLt X17 at_60 69 63 (by decide) (by decide) rfl ?_ (fun q => by exfalso; exact absurd q (by decide))
    intro hc60
    refine o_iload X17 at_69 rfl 71 rfl ?_
    refine o_iconst (v := (3 : Int32)) X17 at_71 rfl 72 rfl ?_
    refine o_icmpLt X17 at_72 81 75 (by decide) (by decide) rfl ?_ (fun q => by exfalso; exact absurd q (by decide))
    intro hc72
    refine o_iload X17 at_81 rfl 83 rfl ?_
    refine o_iconst (v := (4 : Int32)) X17 at_83 rfl 84 rfl ?_
    refine o_icmpLt X17 at_84 93 87 (by decide) (by decide) rfl ?_ (fun q => by exfalso; exact absurd q (by decide))
    intro hc84
    refine o_iload X17 at_93 rfl 95 rfl ?_
    refine o_iconst (v := (5 : Int32)) X17 at_95 rfl 96 rfl ?_
    refine o_icmpLt X17 at_96 106 99 (by decide) (by decide) rfl ?_ (fun q => by exfalso; exact absurd q (by decide))
    intro hc96
    refine o_aload X17 at_106 rfl rfl 108 rfl ?_
    have H21 : OL n0 h17 ((b16, OA Z .int [xa, (0 : Int32), (0 : Int32), (0 : Int32)]) :: (b15, OO Z "com/example/eratosthenes/eratosthenes/index/IntList" [("com/example/eratosthenes/eratosthenes/index/IntList", "values", "[I", .ref b16), ("com/example/eratosthenes/eratosthenes/index/IntList", "size", "I", .int (1 : Int32))]) :: (b1, OA Z .int [xa, xb, xc, xd, xe]) :: []) := H17.front 1 rfl
    have H22 : OL n0 h17 ((b15, OO Z "com/example/eratosthenes/eratosthenes/index/IntList" [("com/example/eratosthenes/eratosthenes/index/IntList", "values", "[I", .ref b16), ("com/example/eratosthenes/eratosthenes/index/IntList", "size", "I", .int (1 : Int32))]) :: (b16, OA Z .int [xa, (0 : Int32), (0 : Int32), (0 : Int32)]) :: (b1, OA Z .int [xa, xb, xc, xd, xe]) :: []) := H21.front 1 rfl
    refine o_callV X17 H22 0 rfl at_108 (rest := []) (c_size l Z a0 hw [] n0 _ X17.size b15 b16 (1 : Int32) [xa, (0 : Int32), (0 : Int32), (0 : Int32)] ((b1, OA Z .int [xa, xb, xc, xd, xe]) :: []) H22) (hw _ (List.mem_of_getElem? (i := 19) rfl)) (hw _ (List.mem_of_getElem? (i := 20) rfl)) (hw _ (List.mem_of_getElem? (i := 22) rfl)) (hw _ (List.mem_of_getElem? (i := 21) rfl)) (hw _ (List.mem_of_getElem? (i := 3) rfl)) (hw _ (List.mem_of_getElem? (i := 23) rfl)) (by decide) 0 (by decide) (by decide) rfl [] rfl pd_4 rfl rfl (Nat.le_of_eq rfl) 3 11 rfl rfl (by decide) (by decide) 111 rfl ?_
    rintro _ T20 _ X20 ⟨rfl, rfl⟩
    show OE p e room_1 below s n0 Q' T20 (mkF m 111 #[.val (.int xa), .val (.int xb), .val (.int xc), .val (.int xd), .val (.int xe), .val (.int xn), .val (.int (1 : Int32)), .val (.ref b1), .val (.ref b15), .unset, .unset] [(.int (1 : Int32))])
    refine o_iload X20 at_111 rfl 113 rfl ?_
    refine o_icmpEq X20 at_113 118 116 (by decide) (by decide) rfl ?_ (fun q => by exfalso; exact absurd q (by decide))
    intro hc113
    refine o_iload X20 at_118 rfl 120 rfl ?_
    refine o_iconst (v := (5 : Int32)) X20 at_120 rfl 121 rfl ?_
    refine o_icmpNe X20 at_121 129 124 (by decide) (by decide) rfl ?_ (fun q => by exfalso; exact absurd q (by decide))
    intro hc121
    refine o_iconst (v := (4 : Int32)) X20 at_129 rfl 130 rfl ?_
    refine o_istore X20 at_130 #[.val (.int xa), .val (.int xb), .val (.int xc), .val (.int xd), .val (.int xe), .val (.int xn), .val (.int (1 : Int32)), .val (.ref b1), .val (.ref b15), .val (.int (4 : Int32)), .unset] rfl 132 rfl ?_
    refine o_aload X20 at_132 rfl rfl 134 rfl ?_
    have H24 : OL n0 h17 ((b16, OA Z .int [xa, (0 : Int32), (0 : Int32), (0 : Int32)]) :: (b15, OO Z "com/example/eratosthenes/eratosthenes/index/IntList" [("com/example/eratosthenes/eratosthenes/index/IntList", "values", "[I", .ref b16), ("com/example/eratosthenes/eratosthenes/index/IntList", "size", "I", .int (1 : Int32))]) :: (b1, OA Z .int [xa, xb, xc, xd, xe]) :: []) := H22.front 1 rfl
    have H25 : OL n0 h17 ((b15, OO Z "com/example/eratosthenes/eratosthenes/index/IntList" [("com/example/eratosthenes/eratosthenes/index/IntList", "values", "[I", .ref b16), ("com/example/eratosthenes/eratosthenes/index/IntList", "size", "I", .int (1 : Int32))]) :: (b16, OA Z .int [xa, (0 : Int32), (0 : Int32), (0 : Int32)]) :: (b1, OA Z .int [xa, xb, xc, xd, xe]) :: []) := H24.front 1 rfl
    refine o_callV X20 H25 0 rfl at_134 (rest := []) (c_cap l Z a0 hw [] n0 _ X20.size b15 b16 (1 : Int32) [xa, (0 : Int32), (0 : Int32), (0 : Int32)] ((b1, OA Z .int [xa, xb, xc, xd, xe]) :: []) H25) (hw _ (List.mem_of_getElem? (i := 24) rfl)) (hw _ (List.mem_of_getElem? (i := 25) rfl)) (hw _ (List.mem_of_getElem? (i := 27) rfl)) (hw _ (List.mem_of_getElem? (i := 26) rfl)) (hw _ (List.mem_of_getElem? (i := 3) rfl)) (hw _ (List.mem_of_getElem? (i := 28) rfl)) (by decide) 0 (by decide) (by decide) rfl [] rfl pd_5 rfl rfl (Nat.le_of_eq rfl) 3 11 rfl rfl (by decide) (by decide) 137 rfl ?_
    rintro _ T23 _ X23 ⟨rfl, rfl⟩
    rw [show (Int32.ofNat [xa, (0 : Int32), (0 : Int32), (0 : Int32)].length) = (4 : Int32) from rfl]
    show OE p e room_1 below s n0 Q' T23 (mkF m 137 #[.val (.int xa), .val (.int xb), .val (.int xc), .val (.int xd), .val (.int xe), .val (.int xn), .val (.int (1 : Int32)), .val (.ref b1), .val (.ref b15), .val (.int (4 : Int32)), .unset] [(.int (4 : Int32))])
    refine o_iload X23 at_137 rfl 139 rfl ?_
    refine o_icmpEq X23 at_139 144 142 (by decide) (by decide) rfl ?_ (fun q => by exfalso; exact absurd q (by decide))
    intro hc139
    refine o_iload X23 at_144 rfl 146 rfl ?_
    refine o_ifNe X23 at_146 151 149 (by decide) (by decide) rfl ?_ (fun q => by exfalso; exact absurd q (by decide))
    intro hc146
    refine o_aload X23 at_151 rfl rfl 153 rfl ?_
    refine o_iload X23 at_153 rfl 155 rfl ?_
    refine o_iconst (v := (1 : Int32)) X23 at_155 rfl 156 rfl ?_
    refine o_isub X23 at_156 157 rfl ?_
    have H27 : OL n0 h17 ((b16, OA Z .int [xa, (0 : Int32), (0 : Int32), (0 : Int32)]) :: (b15, OO Z "com/example/eratosthenes/eratosthenes/index/IntList" [("com/example/eratosthenes/eratosthenes/index/IntList", "values", "[I", .ref b16), ("com/example/eratosthenes/eratosthenes/index/IntList", "size", "I", .int (1 : Int32))]) :: (b1, OA Z .int [xa, xb, xc, xd, xe]) :: []) := H25.front 1 rfl
    have H28 : OL n0 h17 ((b15, OO Z "com/example/eratosthenes/eratosthenes/index/IntList" [("com/example/eratosthenes/eratosthenes/index/IntList", "values", "[I", .ref b16), ("com/example/eratosthenes/eratosthenes/index/IntList", "size", "I", .int (1 : Int32))]) :: (b16, OA Z .int [xa, (0 : Int32), (0 : Int32), (0 : Int32)]) :: (b1, OA Z .int [xa, xb, xc, xd, xe]) :: []) := H27.front 1 rfl
    refine o_callV X23 H28 0 rfl at_157 (rest := []) (c_get l Z a0 hw [] n0 _ X23.size b15 b16 (1 : Int32) [xa, (0 : Int32), (0 : Int32), (0 : Int32)] ((b1, OA Z .int [xa, xb, xc, xd, xe]) :: []) H28 ((1 : Int32) - (1 : Int32)) 0 rfl xa rfl) (hw _ (List.mem_of_getElem? (i := 29) rfl)) (hw _ (List.mem_of_getElem? (i := 30) rfl)) (hw _ (List.mem_of_getElem? (i := 32) rfl)) (hw _ (List.mem_of_getElem? (i := 31) rfl)) (hw _ (List.mem_of_getElem? (i := 3) rfl)) (hw _ (List.mem_of_getElem? (i := 33) rfl)) (by decide) 0 (by decide) (by decide) rfl [(.int ((1 : Int32) - (1 : Int32)))] rfl pd_6 rfl rfl (Nat.le_of_eq rfl) 3 11 rfl rfl (by decide) (by decide) 160 rfl ?_
    rintro _ T26 _ X26 ⟨rfl, rfl⟩
    show OE p e room_1 below s n0 Q' T26 (mkF m 160 #[.val (.int xa), .val (.int xb), .val (.int xc), .val (.int xd), .val (.int xe), .val (.int xn), .val (.int (1 : Int32)), .val (.ref b1), .val (.ref b15), .val (.int (4 : Int32)), .unset] [(.int xa)])
    refine o_aload X26 at_160 rfl rfl 162 rfl ?_
    refine o_iload X26 at_162 rfl 164 rfl ?_
    refine o_iconst (v := (1 : Int32)) X26 at_164 rfl 165 rfl ?_
    refine o_isub X26 at_165 166 rfl ?_
    refine o_iaload X26 H28 2 rfl at_166 0 rfl xa rfl 167 rfl ?_
    refine o_icmpEq X26 at_167 172 170 (by decide) (by decide) rfl ?_ (fun q => by exfalso; exact absurd rfl q)
    intro hc167
    refine o_iload X26 at_172 rfl 174 rfl ?_
    refine o_iconst (v := (3 : Int32)) X26 at_174 rfl 175 rfl ?_
    refine o_iushr X26 at_175 176 rfl ?_
    refine o_bipush (v := (7 : Int32)) X26 at_176 rfl 178 rfl ?_
    refine o_iand X26 at_178 179 rfl ?_
    refine o_iload X26 at_179 rfl 181 rfl ?_
    refine o_irem X26 at_181 (by decide) 182 rfl ?_
    refine o_istore X26 at_182 #[.val (.int xa), .val (.int xb), .val (.int xc), .val (.int xd), .val (.int xe), .val (.int xn), .val (.int (1 : Int32)), .val (.ref b1), .val (.ref b15), .val (.int (4 : Int32)), .val (.int (((XT.ushr xn (3 : Int32)) &&& (7 : Int32)) % (1 : Int32)))] rfl 184 rfl ?_
    rcases v_j1 (XT.ushr xn 3) with hv
    · rw [hv]
      refine o_aload X26 at_184 rfl rfl 186 rfl ?_
      refine o_iload X26 at_186 rfl 188 rfl ?_
      have H30 : OL n0 h17 ((b16, OA Z .int [xa, (0 : Int32), (0 : Int32), (0 : Int32)]) :: (b15, OO Z "com/example/eratosthenes/eratosthenes/index/IntList" [("com/example/eratosthenes/eratosthenes/index/IntList", "values", "[I", .ref b16), ("com/example/eratosthenes/eratosthenes/index/IntList", "size", "I", .int (1 : Int32))]) :: (b1, OA Z .int [xa, xb, xc, xd, xe]) :: []) := H28.front 1 rfl
      have H31 : OL n0 h17 ((b15, OO Z "com/example/eratosthenes/eratosthenes/index/IntList" [("com/example/eratosthenes/eratosthenes/index/IntList", "values", "[I", .ref b16), ("com/example/eratosthenes/eratosthenes/index/IntList", "size", "I", .int (1 : Int32))]) :: (b16, OA Z .int [xa, (0 : Int32), (0 : Int32), (0 : Int32)]) :: (b1, OA Z .int [xa, xb, xc, xd, xe]) :: []) := H30.front 1 rfl
      refine o_callV X26 H31 0 rfl at_188 (rest := []) (c_get l Z a0 hw [] n0 _ X26.size b15 b16 (1 : Int32) [xa, (0 : Int32), (0 : Int32), (0 : Int32)] ((b1, OA Z .int [xa, xb, xc, xd, xe]) :: []) H31 (0 : Int32) 0 rfl xa rfl) (hw _ (List.mem_of_getElem? (i := 29) rfl)) (hw _ (List.mem_of_getElem? (i := 30) rfl)) (hw _ (List.mem_of_getElem? (i := 32) rfl)) (hw _ (List.mem_of_getElem? (i := 31) rfl)) (hw _ (List.mem_of_getElem? (i := 3) rfl)) (hw _ (List.mem_of_getElem? (i := 33) rfl)) (by decide) 0 (by decide) (by decide) rfl [(.int (0 : Int32))] rfl pd_6 rfl rfl (Nat.le_of_eq rfl) 3 11 rfl rfl (by decide) (by decide) 191 rfl ?_
      rintro _ T29 _ X29 ⟨rfl, rfl⟩
      show OE p e room_1 below s n0 Q' T29 (mkF m 191 #[.val (.int xa), .val (.int xb), .val (.int xc), .val (.int xd), .val (.int xe), .val (.int xn), .val (.int (1 : Int32)), .val (.ref b1), .val (.ref b15), .val (.int (4 : Int32)), .val (.int (0 : Int32))] [(.int xa)])
      refine o_aload X29 at_191 rfl rfl 193 rfl ?_
      refine o_iload X29 at_193 rfl 195 rfl ?_
      refine o_iaload X29 H31 2 rfl at_195 0 rfl xa rfl 196 rfl ?_
      refine o_icmpNe X29 at_196 203 199 (by decide) (by decide) rfl (fun q => by exfalso; exact q rfl) ?_
      intro hc196
      refine o_iconst (v := (1 : Int32)) X29 at_199 rfl 200 rfl ?_
      refine o_goto X29 at_200 204 (by decide) (by decide) ?_
      exact o_retZ X29 at_204 (by decide) (by decide) (hQ _ _ rfl)
  · rw [hv]
    refine o_new (L := ((b1, OA Z .int [xa, xb, xc, xd, xe]) :: [])) X6 H6 at_36 (hw _ (List.mem_of_getElem? (i := 1) rfl)) (hw _ (List.mem_of_getElem? (i := 2) rfl)) (hw _ (List.mem_of_getElem? (i := 3) rfl)) [("com/example/eratosthenes/eratosthenes/index/IntList", "values", "[I", .null), ("com/example/eratosthenes/eratosthenes/index/IntList", "size", "I", .int (0 : Int32))] (oqS ⟨(.array .int), Or.inl (hw _ (List.mem_of_getElem? (i := 11) rfl)), by decide, rfl⟩ (oqS ⟨.int, Or.inl (hw _ (List.mem_of_getElem? (i := 18) rfl)), by decide, rfl⟩ oq0)) 2 7 rfl rfl (by decide) (by decide) 39 rfl ?_
    intro T32 h32 b32 X32 H32
    refine o_dup X32 at_39 rfl 40 rfl ?_
    refine o_callI X32 at_40 (rest := [(.ref b32)]) (c_ini l Z a0 hw [] n0 _ X32.size b32 _ ((b1, OA Z .int [xa, xb, xc, xd, xe]) :: []) H32) rfl (hw _ (List.mem_of_getElem? (i := 4) rfl)) (hw _ (List.mem_of_getElem? (i := 5) rfl)) (hw _ (List.mem_of_getElem? (i := 3) rfl)) (hw _ (List.mem_of_getElem? (i := 6) rfl)) (by decide) 1 (by decide) (by decide) rfl [] rfl pd_1 rfl rfl (Nat.le_of_eq rfl) 3 11 rfl rfl (by decide) (by decide) 43 rfl ?_
    rintro _ T33 h33 X33 ⟨b33, rfl, H33⟩
    replace H33 : OL n0 h33 ((b32, OO Z "com/example/eratosthenes/eratosthenes/index/IntList" [("com/example/eratosthenes/eratosthenes/index/IntList", "values", "[I", .ref b33), ("com/example/eratosthenes/eratosthenes/index/IntList", "size", "I", .int (0 : Int32))]) :: (b33, OA Z .int [(0 : Int32), (0 : Int32), (0 : Int32), (0 : Int32)]) :: (b1, OA Z .int [xa, xb, xc, xd, xe]) :: []) := H33
    show OE p e room_1 below s n0 Q' T33 (mkF m 43 #[.val (.int xa), .val (.int xb), .val (.int xc), .val (.int xd), .val (.int xe), .val (.int xn), .val (.int (2 : Int32)), .val (.ref b1), .unset, .unset, .unset] [(.ref b32)])
    refine o_astore X33 at_43 rfl #[.val (.int xa), .val (.int xb), .val (.int xc), .val (.int xd), .val (.int xe), .val (.int xn), .val (.int (2 : Int32)), .val (.ref b1), .val (.ref b32), .unset, .unset] rfl 45 rfl ?_
    refine o_iload X33 at_45 rfl 47 rfl ?_
    refine o_iconst (v := (1 : Int32)) X33 at_47 rfl 48 rfl ?_
    refine o_icmpLt X33 at_48 57 51 (by decide) (by decide) rfl (fun q => by exfalso; exact absurd q (by decide)) ?_
    intro hc48
    refine o_aload X33 at_51 rfl rfl 53 rfl ?_
    refine o_iloadN X33 at_53 rfl 54 rfl ?_
    have H35 : OL n0 h33 ((b33, OA Z .int [(0 : Int32), (0 : Int32), (0 : Int32), (0 : Int32)]) :: (b32, OO Z "com/example/eratosthenes/eratosthenes/index/IntList" [("com/example/eratosthenes/eratosthenes/index/IntList", "values", "[I", .ref b33), ("com/example/eratosthenes/eratosthenes/index/IntList", "size", "I", .int (0 : Int32))]) :: (b1, OA Z .int [xa, xb, xc, xd, xe]) :: []) := H33.front 1 rfl
    have H36 : OL n0 h33 ((b32, OO Z "com/example/eratosthenes/eratosthenes/index/IntList" [("com/example/eratosthenes/eratosthenes/index/IntList", "values", "[I", .ref b33), ("com/example/eratosthenes/eratosthenes/index/IntList", "size", "I", .int (0 : Int32))]) :: (b33, OA Z .int [(0 : Int32), (0 : Int32), (0 : Int32), (0 : Int32)]) :: (b1, OA Z .int [xa, xb, xc, xd, xe]) :: []) := H35.front 1 rfl
    refine o_callV X33 H36 0 rfl at_54 (rest := []) (c_add0 l Z a0 hw [] n0 _ X33.size b32 b33 xa (0 : Int32) (0 : Int32) (0 : Int32) (0 : Int32) ((b1, OA Z .int [xa, xb, xc, xd, xe]) :: []) H36) (hw _ (List.mem_of_getElem? (i := 12) rfl)) (hw _ (List.mem_of_getElem? (i := 13) rfl)) (hw _ (List.mem_of_getElem? (i := 15) rfl)) (hw _ (List.mem_of_getElem? (i := 14) rfl)) (hw _ (List.mem_of_getElem? (i := 3) rfl)) (hw _ (List.mem_of_getElem? (i := 16) rfl)) (by decide) 0 (by decide) (by decide) rfl [(.int xa)] rfl pd_3 rfl rfl (Nat.le_of_eq rfl) 3 11 rfl rfl (by decide) (by decide) 57 rfl ?_
    rintro _ T34 h34 X34 ⟨rfl, H34⟩
    replace H34 : OL n0 h34 ((b32, OO Z "com/example/eratosthenes/eratosthenes/index/IntList" [("com/example/eratosthenes/eratosthenes/index/IntList", "values", "[I", .ref b33), ("com/example/eratosthenes/eratosthenes/index/IntList", "size", "I", .int (1 : Int32))]) :: (b33, OA Z .int [xa, (0 : Int32), (0 : Int32), (0 : Int32)]) :: (b1, OA Z .int [xa, xb, xc, xd, xe]) :: []) := H34
    show OE p e room_1 below s n0 Q' T34 (mkF m 57 #[.val (.int xa), .val (.int xb), .val (.int xc), .val (.int xd), .val (.int xe), .val (.int xn), .val (.int (2 : Int32)), .val (.ref b1), .val (.ref b32), .unset, .unset] [])
    refine o_iload X34 at_57 rfl 59 rfl ?_
    refine o_iconst (v := (2 : Int32)) X34 at_59 rfl 60 rfl ?_
    refine o_icmpLt X34 at_60 69 63 (by decide) (by decide) rfl (fun q => by exfalso; exact absurd q (by decide)) ?_
    intro hc60
    refine o_aload X34 at_63 rfl rfl 65 rfl ?_
    refine o_iloadN X34 at_65 rfl 66 rfl ?_
    have H38 : OL n0 h34 ((b33, OA Z .int [xa, (0 : Int32), (0 : Int32), (0 : Int32)]) :: (b32, OO Z "com/example/eratosthenes/eratosthenes/index/IntList" [("com/example/eratosthenes/eratosthenes/index/IntList", "values", "[I", .ref b33), ("com/example/eratosthenes/eratosthenes/index/IntList", "size", "I", .int (1 : Int32))]) :: (b1, OA Z .int [xa, xb, xc, xd, xe]) :: []) := H34.front 1 rfl
    have H39 : OL n0 h34 ((b32, OO Z "com/example/eratosthenes/eratosthenes/index/IntList" [("com/example/eratosthenes/eratosthenes/index/IntList", "values", "[I", .ref b33), ("com/example/eratosthenes/eratosthenes/index/IntList", "size", "I", .int (1 : Int32))]) :: (b33, OA Z .int [xa, (0 : Int32), (0 : Int32), (0 : Int32)]) :: (b1, OA Z .int [xa, xb, xc, xd, xe]) :: []) := H38.front 1 rfl
    refine o_callV X34 H39 0 rfl at_66 (rest := []) (c_add1 l Z a0 hw [] n0 _ X34.size b32 b33 xb xa (0 : Int32) (0 : Int32) (0 : Int32) ((b1, OA Z .int [xa, xb, xc, xd, xe]) :: []) H39) (hw _ (List.mem_of_getElem? (i := 12) rfl)) (hw _ (List.mem_of_getElem? (i := 13) rfl)) (hw _ (List.mem_of_getElem? (i := 15) rfl)) (hw _ (List.mem_of_getElem? (i := 14) rfl)) (hw _ (List.mem_of_getElem? (i := 3) rfl)) (hw _ (List.mem_of_getElem? (i := 16) rfl)) (by decide) 0 (by decide) (by decide) rfl [(.int xb)] rfl pd_3 rfl rfl (Nat.le_of_eq rfl) 3 11 rfl rfl (by decide) (by decide) 69 rfl ?_
    rintro _ T37 h37 X37 ⟨rfl, H37⟩
    replace H37 : OL n0 h37 ((b32, OO Z "com/example/eratosthenes/eratosthenes/index/IntList" [("com/example/eratosthenes/eratosthenes/index/IntList", "values", "[I", .ref b33), ("com/example/eratosthenes/eratosthenes/index/IntList", "size", "I", .int (2 : Int32))]) :: (b33, OA Z .int [xa, xb, (0 : Int32), (0 : Int32)]) :: (b1, OA Z .int [xa, xb, xc, xd, xe]) :: []) := H37
    show OE p e room_1 below s n0 Q' T37 (mkF m 69 #[.val (.int xa), .val (.int xb), .val (.int xc), .val (.int xd), .val (.int xe), .val (.int xn), .val (.int (2 : Int32)), .val (.ref b1), .val (.ref b32), .unset, .unset] [])
    refine o_iload X37 at_69 rfl 71 rfl ?_
    refine o_iconst (v := (3 : Int32)) X37 at_71 rfl 72 rfl ?_
    refine o_icmpLt X37 at_72 81 75 (by decide) (by decide) rfl ?_ (fun q => by exfalso; exact absurd q (by decide))
    intro hc72
    refine o_iload X37 at_81 rfl 83 rfl ?_
    refine o_iconst (v := (4 : Int32)) X37 at_83 rfl 84 rfl ?_
    refine o_icmpLt X37 at_84 93 87 (by decide) (by decide) rfl ?_ (fun q => by exfalso; exact absurd q (by decide))
    intro hc84
    refine o_iload X37 at_93 rfl 95 rfl ?_
    refine o_iconst (v := (5 : Int32)) X37 at_95 rfl 96 rfl ?_
    refine o_icmpLt X37 at_96 106 99 (by decide) (by decide) rfl ?_ (fun q => by exfalso; exact absurd q (by decide))
    intro hc96
    refine o_aload X37 at_106 rfl rfl 108 rfl ?_
    have H41 : OL n0 h37 ((b33, OA Z .int [xa, xb, (0 : Int32), (0 : Int32)]) :: (b32, OO Z "com/example/eratosthenes/eratosthenes/index/IntList" [("com/example/eratosthenes/eratosthenes/index/IntList", "values", "[I", .ref b33), ("com/example/eratosthenes/eratosthenes/index/IntList", "size", "I", .int (2 : Int32))]) :: (b1, OA Z .int [xa, xb, xc, xd, xe]) :: []) := H37.front 1 rfl
    have H42 : OL n0 h37 ((b32, OO Z "com/example/eratosthenes/eratosthenes/index/IntList" [("com/example/eratosthenes/eratosthenes/index/IntList", "values", "[I", .ref b33), ("com/example/eratosthenes/eratosthenes/index/IntList", "size", "I", .int (2 : Int32))]) :: (b33, OA Z .int [xa, xb, (0 : Int32), (0 : Int32)]) :: (b1, OA Z .int [xa, xb, xc, xd, xe]) :: []) := H41.front 1 rfl
    refine o_callV X37 H42 0 rfl at_108 (rest := []) (c_size l Z a0 hw [] n0 _ X37.size b32 b33 (2 : Int32) [xa, xb, (0 : Int32), (0 : Int32)] ((b1, OA Z .int [xa, xb, xc, xd, xe]) :: []) H42) (hw _ (List.mem_of_getElem? (i := 19) rfl)) (hw _ (List.mem_of_getElem? (i := 20) rfl)) (hw _ (List.mem_of_getElem? (i := 22) rfl)) (hw _ (List.mem_of_getElem? (i := 21) rfl)) (hw _ (List.mem_of_getElem? (i := 3) rfl)) (hw _ (List.mem_of_getElem? (i := 23) rfl)) (by decide) 0 (by decide) (by decide) rfl [] rfl pd_4 rfl rfl (Nat.le_of_eq rfl) 3 11 rfl rfl (by decide) (by decide) 111 rfl ?_
    rintro _ T40 _ X40 ⟨rfl, rfl⟩
    show OE p e room_1 below s n0 Q' T40 (mkF m 111 #[.val (.int xa), .val (.int xb), .val (.int xc), .val (.int xd), .val (.int xe), .val (.int xn), .val (.int (2 : Int32)), .val (.ref b1), .val (.ref b32), .unset, .unset] [(.int (2 : Int32))])
    refine o_iload X40 at_111 rfl 113 rfl ?_
    refine o_icmpEq X40 at_113 118 116 (by decide) (by decide) rfl ?_ (fun q => by exfalso; exact absurd q (by decide))
    intro hc113
    refine o_iload X40 at_118 rfl 120 rfl ?_
    refine o_iconst (v := (5 : Int32)) X40 at_120 rfl 121 rfl ?_
    refine o_icmpNe X40 at_121 129 124 (by decide) (by decide) rfl ?_ (fun q => by exfalso; exact absurd q (by decide))
    intro hc121
    refine o_iconst (v := (4 : Int32)) X40 at_129 rfl 130 rfl ?_
    refine o_istore X40 at_130 #[.val (.int xa), .val (.int xb), .val (.int xc), .val (.int xd), .val (.int xe), .val (.int xn), .val (.int (2 : Int32)), .val (.ref b1), .val (.ref b32), .val (.int (4 : Int32)), .unset] rfl 132 rfl ?_
    refine o_aload X40 at_132 rfl rfl 134 rfl ?_
    have H44 : OL n0 h37 ((b33, OA Z .int [xa, xb, (0 : Int32), (0 : Int32)]) :: (b32, OO Z "com/example/eratosthenes/eratosthenes/index/IntList" [("com/example/eratosthenes/eratosthenes/index/IntList", "values", "[I", .ref b33), ("com/example/eratosthenes/eratosthenes/index/IntList", "size", "I", .int (2 : Int32))]) :: (b1, OA Z .int [xa, xb, xc, xd, xe]) :: []) := H42.front 1 rfl
    have H45 : OL n0 h37 ((b32, OO Z "com/example/eratosthenes/eratosthenes/index/IntList" [("com/example/eratosthenes/eratosthenes/index/IntList", "values", "[I", .ref b33), ("com/example/eratosthenes/eratosthenes/index/IntList", "size", "I", .int (2 : Int32))]) :: (b33, OA Z .int [xa, xb, (0 : Int32), (0 : Int32)]) :: (b1, OA Z .int [xa, xb, xc, xd, xe]) :: []) := H44.front 1 rfl
    refine o_callV X40 H45 0 rfl at_134 (rest := []) (c_cap l Z a0 hw [] n0 _ X40.size b32 b33 (2 : Int32) [xa, xb, (0 : Int32), (0 : Int32)] ((b1, OA Z .int [xa, xb, xc, xd, xe]) :: []) H45) (hw _ (List.mem_of_getElem? (i := 24) rfl)) (hw _ (List.mem_of_getElem? (i := 25) rfl)) (hw _ (List.mem_of_getElem? (i := 27) rfl)) (hw _ (List.mem_of_getElem? (i := 26) rfl)) (hw _ (List.mem_of_getElem? (i := 3) rfl)) (hw _ (List.mem_of_getElem? (i := 28) rfl)) (by decide) 0 (by decide) (by decide) rfl [] rfl pd_5 rfl rfl (Nat.le_of_eq rfl) 3 11 rfl rfl (by decide) (by decide) 137 rfl ?_
    rintro _ T43 _ X43 ⟨rfl, rfl⟩
    rw [show (Int32.ofNat [xa, xb, (0 : Int32), (0 : Int32)].length) = (4 : Int32) from rfl]
    show OE p e room_1 below s n0 Q' T43 (mkF m 137 #[.val (.int xa), .val (.int xb), .val (.int xc), .val (.int xd), .val (.int xe), .val (.int xn), .val (.int (2 : Int32)), .val (.ref b1), .val (.ref b32), .val (.int (4 : Int32)), .unset] [(.int (4 : Int32))])
    refine o_iload X43 at_137 rfl 139 rfl ?_
    refine o_icmpEq X43 at_139 144 142 (by decide) (by decide) rfl ?_ (fun q => by exfalso; exact absurd q (by decide))
    intro hc139
    refine o_iload X43 at_144 rfl 146 rfl ?_
    refine o_ifNe X43 at_146 151 149 (by decide) (by decide) rfl ?_ (fun q => by exfalso; exact absurd q (by decide))
    intro hc146
    refine o_aload X43 at_151 rfl rfl 153 rfl ?_
    refine o_iload X43 at_153 rfl 155 rfl ?_
    refine o_iconst (v := (1 : Int32)) X43 at_155 rfl 156 rfl ?_
    refine o_isub X43 at_156 157 rfl ?_
    have H47 : OL n0 h37 ((b33, OA Z .int [xa, xb, (0 : Int32), (0 : Int32)]) :: (b32, OO Z "com/example/eratosthenes/eratosthenes/index/IntList" [("com/example/eratosthenes/eratosthenes/index/IntList", "values", "[I", .ref b33), ("com/example/eratosthenes/eratosthenes/index/IntList", "size", "I", .int (2 : Int32))]) :: (b1, OA Z .int [xa, xb, xc, xd, xe]) :: []) := H45.front 1 rfl
    have H48 : OL n0 h37 ((b32, OO Z "com/example/eratosthenes/eratosthenes/index/IntList" [("com/example/eratosthenes/eratosthenes/index/IntList", "values", "[I", .ref b33), ("com/example/eratosthenes/eratosthenes/index/IntList", "size", "I", .int (2 : Int32))]) :: (b33, OA Z .int [xa, xb, (0 : Int32), (0 : Int32)]) :: (b1, OA Z .int [xa, xb, xc, xd, xe]) :: []) := H47.front 1 rfl
    refine o_callV X43 H48 0 rfl at_157 (rest := []) (c_get l Z a0 hw [] n0 _ X43.size b32 b33 (2 : Int32) [xa, xb, (0 : Int32), (0 : Int32)] ((b1, OA Z .int [xa, xb, xc, xd, xe]) :: []) H48 ((2 : Int32) - (1 : Int32)) 1 rfl xb rfl) (hw _ (List.mem_of_getElem? (i := 29) rfl)) (hw _ (List.mem_of_getElem? (i := 30) rfl)) (hw _ (List.mem_of_getElem? (i := 32) rfl)) (hw _ (List.mem_of_getElem? (i := 31) rfl)) (hw _ (List.mem_of_getElem? (i := 3) rfl)) (hw _ (List.mem_of_getElem? (i := 33) rfl)) (by decide) 0 (by decide) (by decide) rfl [(.int ((2 : Int32) - (1 : Int32)))] rfl pd_6 rfl rfl (Nat.le_of_eq rfl) 3 11 rfl rfl (by decide) (by decide) 160 rfl ?_
    rintro _ T46 _ X46 ⟨rfl, rfl⟩
    show OE p e room_1 below s n0 Q' T46 (mkF m 160 #[.val (.int xa), .val (.int xb), .val (.int xc), .val (.int xd), .val (.int xe), .val (.int xn), .val (.int (2 : Int32)), .val (.ref b1), .val (.ref b32), .val (.int (4 : Int32)), .unset] [(.int xb)])
    refine o_aload X46 at_160 rfl rfl 162 rfl ?_
    refine o_iload X46 at_162 rfl 164 rfl ?_
    refine o_iconst (v := (1 : Int32)) X46 at_164 rfl 165 rfl ?_
    refine o_isub X46 at_165 166 rfl ?_
    refine o_iaload X46 H48 2 rfl at_166 1 rfl xb rfl 167 rfl ?_
    refine o_icmpEq X46 at_167 172 170 (by decide) (by decide) rfl ?_ (fun q => by exfalso; exact absurd rfl q)
    intro hc167
    refine o_iload X46 at_172 rfl 174 rfl ?_
    refine o_iconst (v := (3 : Int32)) X46 at_174 rfl 175 rfl ?_
    refine o_iushr X46 at_175 176 rfl ?_
    refine o_bipush (v := (7 : Int32)) X46 at_176 rfl 178 rfl ?_
    refine o_iand X46 at_178 179 rfl ?_
    refine o_iload X46 at_179 rfl 181 rfl ?_
    refine o_irem X46 at_181 (by decide) 182 rfl ?_
    refine o_istore X46 at_182 #[.val (.int xa), .val (.int xb), .val (.int xc), .val (.int xd), .val (.int xe), .val (.int xn), .val (.int (2 : Int32)), .val (.ref b1), .val (.ref b32), .val (.int (4 : Int32)), .val (.int (((XT.ushr xn (3 : Int32)) &&& (7 : Int32)) % (2 : Int32)))] rfl 184 rfl ?_
    rcases v_j2 (XT.ushr xn 3) with hv | hv
    · rw [hv]
      refine o_aload X46 at_184 rfl rfl 186 rfl ?_
      refine o_iload X46 at_186 rfl 188 rfl ?_
      have H50 : OL n0 h37 ((b33, OA Z .int [xa, xb, (0 : Int32), (0 : Int32)]) :: (b32, OO Z "com/example/eratosthenes/eratosthenes/index/IntList" [("com/example/eratosthenes/eratosthenes/index/IntList", "values", "[I", .ref b33), ("com/example/eratosthenes/eratosthenes/index/IntList", "size", "I", .int (2 : Int32))]) :: (b1, OA Z .int [xa, xb, xc, xd, xe]) :: []) := H48.front 1 rfl
      have H51 : OL n0 h37 ((b32, OO Z "com/example/eratosthenes/eratosthenes/index/IntList" [("com/example/eratosthenes/eratosthenes/index/IntList", "values", "[I", .ref b33), ("com/example/eratosthenes/eratosthenes/index/IntList", "size", "I", .int (2 : Int32))]) :: (b33, OA Z .int [xa, xb, (0 : Int32), (0 : Int32)]) :: (b1, OA Z .int [xa, xb, xc, xd, xe]) :: []) := H50.front 1 rfl
      refine o_callV X46 H51 0 rfl at_188 (rest := []) (c_get l Z a0 hw [] n0 _ X46.size b32 b33 (2 : Int32) [xa, xb, (0 : Int32), (0 : Int32)] ((b1, OA Z .int [xa, xb, xc, xd, xe]) :: []) H51 (0 : Int32) 0 rfl xa rfl) (hw _ (List.mem_of_getElem? (i := 29) rfl)) (hw _ (List.mem_of_getElem? (i := 30) rfl)) (hw _ (List.mem_of_getElem? (i := 32) rfl)) (hw _ (List.mem_of_getElem? (i := 31) rfl)) (hw _ (List.mem_of_getElem? (i := 3) rfl)) (hw _ (List.mem_of_getElem? (i := 33) rfl)) (by decide) 0 (by decide) (by decide) rfl [(.int (0 : Int32))] rfl pd_6 rfl rfl (Nat.le_of_eq rfl) 3 11 rfl rfl (by decide) (by decide) 191 rfl ?_
      rintro _ T49 _ X49 ⟨rfl, rfl⟩
      show OE p e room_1 below s n0 Q' T49 (mkF m 191 #[.val (.int xa), .val (.int xb), .val (.int xc), .val (.int xd), .val (.int xe), .val (.int xn), .val (.int (2 : Int32)), .val (.ref b1), .val (.ref b32), .val (.int (4 : Int32)), .val (.int (0 : Int32))] [(.int xa)])
      refine o_aload X49 at_191 rfl rfl 193 rfl ?_
      refine o_iload X49 at_193 rfl 195 rfl ?_
      refine o_iaload X49 H51 2 rfl at_195 0 rfl xa rfl 196 rfl ?_
      refine o_icmpNe X49 at_196 203 199 (by decide) (by decide) rfl (fun q => by exfalso; exact q rfl) ?_
      intro hc196
      refine o_iconst (v := (1 : Int32)) X49 at_199 rfl 200 rfl ?_
      refine o_goto X49 at_200 204 (by decide) (by decide) ?_
      exact o_retZ X49 at_204 (by decide) (by decide) (hQ _ _ rfl)
    · rw [hv]
      refine o_aload X46 at_184 rfl rfl 186 rfl ?_
      refine o_iload X46 at_186 rfl 188 rfl ?_
      have H53 : OL n0 h37 ((b33, OA Z .int [xa, xb, (0 : Int32), (0 : Int32)]) :: (b32, OO Z "com/example/eratosthenes/eratosthenes/index/IntList" [("com/example/eratosthenes/eratosthenes/index/IntList", "values", "[I", .ref b33), ("com/example/eratosthenes/eratosthenes/index/IntList", "size", "I", .int (2 : Int32))]) :: (b1, OA Z .int [xa, xb, xc, xd, xe]) :: []) := H48.front 1 rfl
      have H54 : OL n0 h37 ((b32, OO Z "com/example/eratosthenes/eratosthenes/index/IntList" [("com/example/eratosthenes/eratosthenes/index/IntList", "values", "[I", .ref b33), ("com/example/eratosthenes/eratosthenes/index/IntList", "size", "I", .int (2 : Int32))]) :: (b33, OA Z .int [xa, xb, (0 : Int32), (0 : Int32)]) :: (b1, OA Z .int [xa, xb, xc, xd, xe]) :: []) := H53.front 1 rfl
      refine o_callV X46 H54 0 rfl at_188 (rest := []) (c_get l Z a0 hw [] n0 _ X46.size b32 b33 (2 : Int32) [xa, xb, (0 : Int32), (0 : Int32)] ((b1, OA Z .int [xa, xb, xc, xd, xe]) :: []) H54 (1 : Int32) 1 rfl xb rfl) (hw _ (List.mem_of_getElem? (i := 29) rfl)) (hw _ (List.mem_of_getElem? (i := 30) rfl)) (hw _ (List.mem_of_getElem? (i := 32) rfl)) (hw _ (List.mem_of_getElem? (i := 31) rfl)) (hw _ (List.mem_of_getElem? (i := 3) rfl)) (hw _ (List.mem_of_getElem? (i := 33) rfl)) (by decide) 0 (by decide) (by decide) rfl [(.int (1 : Int32))] rfl pd_6 rfl rfl (Nat.le_of_eq rfl) 3 11 rfl rfl (by decide) (by decide) 191 rfl ?_
      rintro _ T52 _ X52 ⟨rfl, rfl⟩
      show OE p e room_1 below s n0 Q' T52 (mkF m 191 #[.val (.int xa), .val (.int xb), .val (.int xc), .val (.int xd), .val (.int xe), .val (.int xn), .val (.int (2 : Int32)), .val (.ref b1), .val (.ref b32), .val (.int (4 : Int32)), .val (.int (1 : Int32))] [(.int xb)])
      refine o_aload X52 at_191 rfl rfl 193 rfl ?_
      refine o_iload X52 at_193 rfl 195 rfl ?_
      refine o_iaload X52 H54 2 rfl at_195 1 rfl xb rfl 196 rfl ?_
      refine o_icmpNe X52 at_196 203 199 (by decide) (by decide) rfl (fun q => by exfalso; exact q rfl) ?_
      intro hc196
      refine o_iconst (v := (1 : Int32)) X52 at_199 rfl 200 rfl ?_
      refine o_goto X52 at_200 204 (by decide) (by decide) ?_
      exact o_retZ X52 at_204 (by decide) (by decide) (hQ _ _ rfl)
  · rw [hv]
    refine o_new (L := ((b1, OA Z .int [xa, xb, xc, xd, xe]) :: [])) X6 H6 at_36 (hw _ (List.mem_of_getElem? (i := 1) rfl)) (hw _ (List.mem_of_getElem? (i := 2) rfl)) (hw _ (List.mem_of_getElem? (i := 3) rfl)) [("com/example/eratosthenes/eratosthenes/index/IntList", "values", "[I", .null), ("com/example/eratosthenes/eratosthenes/index/IntList", "size", "I", .int (0 : Int32))] (oqS ⟨(.array .int), Or.inl (hw _ (List.mem_of_getElem? (i := 11) rfl)), by decide, rfl⟩ (oqS ⟨.int, Or.inl (hw _ (List.mem_of_getElem? (i := 18) rfl)), by decide, rfl⟩ oq0)) 2 7 rfl rfl (by decide) (by decide) 39 rfl ?_
    intro T55 h55 b55 X55 H55
    refine o_dup X55 at_39 rfl 40 rfl ?_
    refine o_callI X55 at_40 (rest := [(.ref b55)]) (c_ini l Z a0 hw [] n0 _ X55.size b55 _ ((b1, OA Z .int [xa, xb, xc, xd, xe]) :: []) H55) rfl (hw _ (List.mem_of_getElem? (i := 4) rfl)) (hw _ (List.mem_of_getElem? (i := 5) rfl)) (hw _ (List.mem_of_getElem? (i := 3) rfl)) (hw _ (List.mem_of_getElem? (i := 6) rfl)) (by decide) 1 (by decide) (by decide) rfl [] rfl pd_1 rfl rfl (Nat.le_of_eq rfl) 3 11 rfl rfl (by decide) (by decide) 43 rfl ?_
    rintro _ T56 h56 X56 ⟨b56, rfl, H56⟩
    replace H56 : OL n0 h56 ((b55, OO Z "com/example/eratosthenes/eratosthenes/index/IntList" [("com/example/eratosthenes/eratosthenes/index/IntList", "values", "[I", .ref b56), ("com/example/eratosthenes/eratosthenes/index/IntList", "size", "I", .int (0 : Int32))]) :: (b56, OA Z .int [(0 : Int32), (0 : Int32), (0 : Int32), (0 : Int32)]) :: (b1, OA Z .int [xa, xb, xc, xd, xe]) :: []) := H56
    show OE p e room_1 below s n0 Q' T56 (mkF m 43 #[.val (.int xa), .val (.int xb), .val (.int xc), .val (.int xd), .val (.int xe), .val (.int xn), .val (.int (3 : Int32)), .val (.ref b1), .unset, .unset, .unset] [(.ref b55)])
    refine o_astore X56 at_43 rfl #[.val (.int xa), .val (.int xb), .val (.int xc), .val (.int xd), .val (.int xe), .val (.int xn), .val (.int (3 : Int32)), .val (.ref b1), .val (.ref b55), .unset, .unset] rfl 45 rfl ?_
    refine o_iload X56 at_45 rfl 47 rfl ?_
    refine o_iconst (v := (1 : Int32)) X56 at_47 rfl 48 rfl ?_
    refine o_icmpLt X56 at_48 57 51 (by decide) (by decide) rfl (fun q => by exfalso; exact absurd q (by decide)) ?_
    intro hc48
    refine o_aload X56 at_51 rfl rfl 53 rfl ?_
    refine o_iloadN X56 at_53 rfl 54 rfl ?_
    have H58 : OL n0 h56 ((b56, OA Z .int [(0 : Int32), (0 : Int32), (0 : Int32), (0 : Int32)]) :: (b55, OO Z "com/example/eratosthenes/eratosthenes/index/IntList" [("com/example/eratosthenes/eratosthenes/index/IntList", "values", "[I", .ref b56), ("com/example/eratosthenes/eratosthenes/index/IntList", "size", "I", .int (0 : Int32))]) :: (b1, OA Z .int [xa, xb, xc, xd, xe]) :: []) := H56.front 1 rfl
    have H59 : OL n0 h56 ((b55, OO Z "com/example/eratosthenes/eratosthenes/index/IntList" [("com/example/eratosthenes/eratosthenes/index/IntList", "values", "[I", .ref b56), ("com/example/eratosthenes/eratosthenes/index/IntList", "size", "I", .int (0 : Int32))]) :: (b56, OA Z .int [(0 : Int32), (0 : Int32), (0 : Int32), (0 : Int32)]) :: (b1, OA Z .int [xa, xb, xc, xd, xe]) :: []) := H58.front 1 rfl
    refine o_callV X56 H59 0 rfl at_54 (rest := []) (c_add0 l Z a0 hw [] n0 _ X56.size b55 b56 xa (0 : Int32) (0 : Int32) (0 : Int32) (0 : Int32) ((b1, OA Z .int [xa, xb, xc, xd, xe]) :: []) H59) (hw _ (List.mem_of_getElem? (i := 12) rfl)) (hw _ (List.mem_of_getElem? (i := 13) rfl)) (hw _ (List.mem_of_getElem? (i := 15) rfl)) (hw _ (List.mem_of_getElem? (i := 14) rfl)) (hw _ (List.mem_of_getElem? (i := 3) rfl)) (hw _ (List.mem_of_getElem? (i := 16) rfl)) (by decide) 0 (by decide) (by decide) rfl [(.int xa)] rfl pd_3 rfl rfl (Nat.le_of_eq rfl) 3 11 rfl rfl (by decide) (by decide) 57 rfl ?_
    rintro _ T57 h57 X57 ⟨rfl, H57⟩
    replace H57 : OL n0 h57 ((b55, OO Z "com/example/eratosthenes/eratosthenes/index/IntList" [("com/example/eratosthenes/eratosthenes/index/IntList", "values", "[I", .ref b56), ("com/example/eratosthenes/eratosthenes/index/IntList", "size", "I", .int (1 : Int32))]) :: (b56, OA Z .int [xa, (0 : Int32), (0 : Int32), (0 : Int32)]) :: (b1, OA Z .int [xa, xb, xc, xd, xe]) :: []) := H57
    show OE p e room_1 below s n0 Q' T57 (mkF m 57 #[.val (.int xa), .val (.int xb), .val (.int xc), .val (.int xd), .val (.int xe), .val (.int xn), .val (.int (3 : Int32)), .val (.ref b1), .val (.ref b55), .unset, .unset] [])
    refine o_iload X57 at_57 rfl 59 rfl ?_
    refine o_iconst (v := (2 : Int32)) X57 at_59 rfl 60 rfl ?_
    refine o_icmpLt X57 at_60 69 63 (by decide) (by decide) rfl (fun q => by exfalso; exact absurd q (by decide)) ?_
    intro hc60
    refine o_aload X57 at_63 rfl rfl 65 rfl ?_
    refine o_iloadN X57 at_65 rfl 66 rfl ?_
    have H61 : OL n0 h57 ((b56, OA Z .int [xa, (0 : Int32), (0 : Int32), (0 : Int32)]) :: (b55, OO Z "com/example/eratosthenes/eratosthenes/index/IntList" [("com/example/eratosthenes/eratosthenes/index/IntList", "values", "[I", .ref b56), ("com/example/eratosthenes/eratosthenes/index/IntList", "size", "I", .int (1 : Int32))]) :: (b1, OA Z .int [xa, xb, xc, xd, xe]) :: []) := H57.front 1 rfl
    have H62 : OL n0 h57 ((b55, OO Z "com/example/eratosthenes/eratosthenes/index/IntList" [("com/example/eratosthenes/eratosthenes/index/IntList", "values", "[I", .ref b56), ("com/example/eratosthenes/eratosthenes/index/IntList", "size", "I", .int (1 : Int32))]) :: (b56, OA Z .int [xa, (0 : Int32), (0 : Int32), (0 : Int32)]) :: (b1, OA Z .int [xa, xb, xc, xd, xe]) :: []) := H61.front 1 rfl
    refine o_callV X57 H62 0 rfl at_66 (rest := []) (c_add1 l Z a0 hw [] n0 _ X57.size b55 b56 xb xa (0 : Int32) (0 : Int32) (0 : Int32) ((b1, OA Z .int [xa, xb, xc, xd, xe]) :: []) H62) (hw _ (List.mem_of_getElem? (i := 12) rfl)) (hw _ (List.mem_of_getElem? (i := 13) rfl)) (hw _ (List.mem_of_getElem? (i := 15) rfl)) (hw _ (List.mem_of_getElem? (i := 14) rfl)) (hw _ (List.mem_of_getElem? (i := 3) rfl)) (hw _ (List.mem_of_getElem? (i := 16) rfl)) (by decide) 0 (by decide) (by decide) rfl [(.int xb)] rfl pd_3 rfl rfl (Nat.le_of_eq rfl) 3 11 rfl rfl (by decide) (by decide) 69 rfl ?_
    rintro _ T60 h60 X60 ⟨rfl, H60⟩
    replace H60 : OL n0 h60 ((b55, OO Z "com/example/eratosthenes/eratosthenes/index/IntList" [("com/example/eratosthenes/eratosthenes/index/IntList", "values", "[I", .ref b56), ("com/example/eratosthenes/eratosthenes/index/IntList", "size", "I", .int (2 : Int32))]) :: (b56, OA Z .int [xa, xb, (0 : Int32), (0 : Int32)]) :: (b1, OA Z .int [xa, xb, xc, xd, xe]) :: []) := H60
    show OE p e room_1 below s n0 Q' T60 (mkF m 69 #[.val (.int xa), .val (.int xb), .val (.int xc), .val (.int xd), .val (.int xe), .val (.int xn), .val (.int (3 : Int32)), .val (.ref b1), .val (.ref b55), .unset, .unset] [])
    refine o_iload X60 at_69 rfl 71 rfl ?_
    refine o_iconst (v := (3 : Int32)) X60 at_71 rfl 72 rfl ?_
    refine o_icmpLt X60 at_72 81 75 (by decide) (by decide) rfl (fun q => by exfalso; exact absurd q (by decide)) ?_
    intro hc72
    refine o_aload X60 at_75 rfl rfl 77 rfl ?_
    refine o_iloadN X60 at_77 rfl 78 rfl ?_
    have H64 : OL n0 h60 ((b56, OA Z .int [xa, xb, (0 : Int32), (0 : Int32)]) :: (b55, OO Z "com/example/eratosthenes/eratosthenes/index/IntList" [("com/example/eratosthenes/eratosthenes/index/IntList", "values", "[I", .ref b56), ("com/example/eratosthenes/eratosthenes/index/IntList", "size", "I", .int (2 : Int32))]) :: (b1, OA Z .int [xa, xb, xc, xd, xe]) :: []) := H60.front 1 rfl
    have H65 : OL n0 h60 ((b55, OO Z "com/example/eratosthenes/eratosthenes/index/IntList" [("com/example/eratosthenes/eratosthenes/index/IntList", "values", "[I", .ref b56), ("com/example/eratosthenes/eratosthenes/index/IntList", "size", "I", .int (2 : Int32))]) :: (b56, OA Z .int [xa, xb, (0 : Int32), (0 : Int32)]) :: (b1, OA Z .int [xa, xb, xc, xd, xe]) :: []) := H64.front 1 rfl
    refine o_callV X60 H65 0 rfl at_78 (rest := []) (c_add2 l Z a0 hw [] n0 _ X60.size b55 b56 xc xa xb (0 : Int32) (0 : Int32) ((b1, OA Z .int [xa, xb, xc, xd, xe]) :: []) H65) (hw _ (List.mem_of_getElem? (i := 12) rfl)) (hw _ (List.mem_of_getElem? (i := 13) rfl)) (hw _ (List.mem_of_getElem? (i := 15) rfl)) (hw _ (List.mem_of_getElem? (i := 14) rfl)) (hw _ (List.mem_of_getElem? (i := 3) rfl)) (hw _ (List.mem_of_getElem? (i := 16) rfl)) (by decide) 0 (by decide) (by decide) rfl [(.int xc)] rfl pd_3 rfl rfl (Nat.le_of_eq rfl) 3 11 rfl rfl (by decide) (by decide) 81 rfl ?_
    rintro _ T63 h63 X63 ⟨rfl, H63⟩
    replace H63 : OL n0 h63 ((b55, OO Z "com/example/eratosthenes/eratosthenes/index/IntList" [("com/example/eratosthenes/eratosthenes/index/IntList", "values", "[I", .ref b56), ("com/example/eratosthenes/eratosthenes/index/IntList", "size", "I", .int (3 : Int32))]) :: (b56, OA Z .int [xa, xb, xc, (0 : Int32)]) :: (b1, OA Z .int [xa, xb, xc, xd, xe]) :: []) := H63
    show OE p e room_1 below s n0 Q' T63 (mkF m 81 #[.val (.int xa), .val (.int xb), .val (.int xc), .val (.int xd), .val (.int xe), .val (.int xn), .val (.int (3 : Int32)), .val (.ref b1), .val (.ref b55), .unset, .unset] [])
    refine o_iload X63 at_81 rfl 83 rfl ?_
    refine o_iconst (v := (4 : Int32)) X63 at_83 rfl 84 rfl ?_
    refine o_icmpLt X63 at_84 93 87 (by decide) (by decide) rfl ?_ (fun q => by exfalso; exact absurd q (by decide))
    intro hc84
    refine o_iload X63 at_93 rfl 95 rfl ?_
    refine o_iconst (v := (5 : Int32)) X63 at_95 rfl 96 rfl ?_
    refine o_icmpLt X63 at_96 106 99 (by decide) (by decide) rfl ?_ (fun q => by exfalso; exact absurd q (by decide))
    intro hc96
    refine o_aload X63 at_106 rfl rfl 108 rfl ?_
    have H67 : OL n0 h63 ((b56, OA Z .int [xa, xb, xc, (0 : Int32)]) :: (b55, OO Z "com/example/eratosthenes/eratosthenes/index/IntList" [("com/example/eratosthenes/eratosthenes/index/IntList", "values", "[I", .ref b56), ("com/example/eratosthenes/eratosthenes/index/IntList", "size", "I", .int (3 : Int32))]) :: (b1, OA Z .int [xa, xb, xc, xd, xe]) :: []) := H63.front 1 rfl
    have H68 : OL n0 h63 ((b55, OO Z "com/example/eratosthenes/eratosthenes/index/IntList" [("com/example/eratosthenes/eratosthenes/index/IntList", "values", "[I", .ref b56), ("com/example/eratosthenes/eratosthenes/index/IntList", "size", "I", .int (3 : Int32))]) :: (b56, OA Z .int [xa, xb, xc, (0 : Int32)]) :: (b1, OA Z .int [xa, xb, xc, xd, xe]) :: []) := H67.front 1 rfl
    refine o_callV X63 H68 0 rfl at_108 (rest := []) (c_size l Z a0 hw [] n0 _ X63.size b55 b56 (3 : Int32) [xa, xb, xc, (0 : Int32)] ((b1, OA Z .int [xa, xb, xc, xd, xe]) :: []) H68) (hw _ (List.mem_of_getElem? (i := 19) rfl)) (hw _ (List.mem_of_getElem? (i := 20) rfl)) (hw _ (List.mem_of_getElem? (i := 22) rfl)) (hw _ (List.mem_of_getElem? (i := 21) rfl)) (hw _ (List.mem_of_getElem? (i := 3) rfl)) (hw _ (List.mem_of_getElem? (i := 23) rfl)) (by decide) 0 (by decide) (by decide) rfl [] rfl pd_4 rfl rfl (Nat.le_of_eq rfl) 3 11 rfl rfl (by decide) (by decide) 111 rfl ?_
    rintro _ T66 _ X66 ⟨rfl, rfl⟩
    show OE p e room_1 below s n0 Q' T66 (mkF m 111 #[.val (.int xa), .val (.int xb), .val (.int xc), .val (.int xd), .val (.int xe), .val (.int xn), .val (.int (3 : Int32)), .val (.ref b1), .val (.ref b55), .unset, .unset] [(.int (3 : Int32))])
    refine o_iload X66 at_111 rfl 113 rfl ?_
    refine o_icmpEq X66 at_113 118 116 (by decide) (by decide) rfl ?_ (fun q => by exfalso; exact absurd q (by decide))
    intro hc113
    refine o_iload X66 at_118 rfl 120 rfl ?_
    refine o_iconst (v := (5 : Int32)) X66 at_120 rfl 121 rfl ?_
    refine o_icmpNe X66 at_121 129 124 (by decide) (by decide) rfl ?_ (fun q => by exfalso; exact absurd q (by decide))
    intro hc121
    refine o_iconst (v := (4 : Int32)) X66 at_129 rfl 130 rfl ?_
    refine o_istore X66 at_130 #[.val (.int xa), .val (.int xb), .val (.int xc), .val (.int xd), .val (.int xe), .val (.int xn), .val (.int (3 : Int32)), .val (.ref b1), .val (.ref b55), .val (.int (4 : Int32)), .unset] rfl 132 rfl ?_
    refine o_aload X66 at_132 rfl rfl 134 rfl ?_
    have H70 : OL n0 h63 ((b56, OA Z .int [xa, xb, xc, (0 : Int32)]) :: (b55, OO Z "com/example/eratosthenes/eratosthenes/index/IntList" [("com/example/eratosthenes/eratosthenes/index/IntList", "values", "[I", .ref b56), ("com/example/eratosthenes/eratosthenes/index/IntList", "size", "I", .int (3 : Int32))]) :: (b1, OA Z .int [xa, xb, xc, xd, xe]) :: []) := H68.front 1 rfl
    have H71 : OL n0 h63 ((b55, OO Z "com/example/eratosthenes/eratosthenes/index/IntList" [("com/example/eratosthenes/eratosthenes/index/IntList", "values", "[I", .ref b56), ("com/example/eratosthenes/eratosthenes/index/IntList", "size", "I", .int (3 : Int32))]) :: (b56, OA Z .int [xa, xb, xc, (0 : Int32)]) :: (b1, OA Z .int [xa, xb, xc, xd, xe]) :: []) := H70.front 1 rfl
    refine o_callV X66 H71 0 rfl at_134 (rest := []) (c_cap l Z a0 hw [] n0 _ X66.size b55 b56 (3 : Int32) [xa, xb, xc, (0 : Int32)] ((b1, OA Z .int [xa, xb, xc, xd, xe]) :: []) H71) (hw _ (List.mem_of_getElem? (i := 24) rfl)) (hw _ (List.mem_of_getElem? (i := 25) rfl)) (hw _ (List.mem_of_getElem? (i := 27) rfl)) (hw _ (List.mem_of_getElem? (i := 26) rfl)) (hw _ (List.mem_of_getElem? (i := 3) rfl)) (hw _ (List.mem_of_getElem? (i := 28) rfl)) (by decide) 0 (by decide) (by decide) rfl [] rfl pd_5 rfl rfl (Nat.le_of_eq rfl) 3 11 rfl rfl (by decide) (by decide) 137 rfl ?_
    rintro _ T69 _ X69 ⟨rfl, rfl⟩
    rw [show (Int32.ofNat [xa, xb, xc, (0 : Int32)].length) = (4 : Int32) from rfl]
    show OE p e room_1 below s n0 Q' T69 (mkF m 137 #[.val (.int xa), .val (.int xb), .val (.int xc), .val (.int xd), .val (.int xe), .val (.int xn), .val (.int (3 : Int32)), .val (.ref b1), .val (.ref b55), .val (.int (4 : Int32)), .unset] [(.int (4 : Int32))])
    refine o_iload X69 at_137 rfl 139 rfl ?_
    refine o_icmpEq X69 at_139 144 142 (by decide) (by decide) rfl ?_ (fun q => by exfalso; exact absurd q (by decide))
    intro hc139
    refine o_iload X69 at_144 rfl 146 rfl ?_
    refine o_ifNe X69 at_146 151 149 (by decide) (by decide) rfl ?_ (fun q => by exfalso; exact absurd q (by decide))
    intro hc146
    refine o_aload X69 at_151 rfl rfl 153 rfl ?_
    refine o_iload X69 at_153 rfl 155 rfl ?_
    refine o_iconst (v := (1 : Int32)) X69 at_155 rfl 156 rfl ?_
    refine o_isub X69 at_156 157 rfl ?_
    have H73 : OL n0 h63 ((b56, OA Z .int [xa, xb, xc, (0 : Int32)]) :: (b55, OO Z "com/example/eratosthenes/eratosthenes/index/IntList" [("com/example/eratosthenes/eratosthenes/index/IntList", "values", "[I", .ref b56), ("com/example/eratosthenes/eratosthenes/index/IntList", "size", "I", .int (3 : Int32))]) :: (b1, OA Z .int [xa, xb, xc, xd, xe]) :: []) := H71.front 1 rfl
    have H74 : OL n0 h63 ((b55, OO Z "com/example/eratosthenes/eratosthenes/index/IntList" [("com/example/eratosthenes/eratosthenes/index/IntList", "values", "[I", .ref b56), ("com/example/eratosthenes/eratosthenes/index/IntList", "size", "I", .int (3 : Int32))]) :: (b56, OA Z .int [xa, xb, xc, (0 : Int32)]) :: (b1, OA Z .int [xa, xb, xc, xd, xe]) :: []) := H73.front 1 rfl
    refine o_callV X69 H74 0 rfl at_157 (rest := []) (c_get l Z a0 hw [] n0 _ X69.size b55 b56 (3 : Int32) [xa, xb, xc, (0 : Int32)] ((b1, OA Z .int [xa, xb, xc, xd, xe]) :: []) H74 ((3 : Int32) - (1 : Int32)) 2 rfl xc rfl) (hw _ (List.mem_of_getElem? (i := 29) rfl)) (hw _ (List.mem_of_getElem? (i := 30) rfl)) (hw _ (List.mem_of_getElem? (i := 32) rfl)) (hw _ (List.mem_of_getElem? (i := 31) rfl)) (hw _ (List.mem_of_getElem? (i := 3) rfl)) (hw _ (List.mem_of_getElem? (i := 33) rfl)) (by decide) 0 (by decide) (by decide) rfl [(.int ((3 : Int32) - (1 : Int32)))] rfl pd_6 rfl rfl (Nat.le_of_eq rfl) 3 11 rfl rfl (by decide) (by decide) 160 rfl ?_
    rintro _ T72 _ X72 ⟨rfl, rfl⟩
    show OE p e room_1 below s n0 Q' T72 (mkF m 160 #[.val (.int xa), .val (.int xb), .val (.int xc), .val (.int xd), .val (.int xe), .val (.int xn), .val (.int (3 : Int32)), .val (.ref b1), .val (.ref b55), .val (.int (4 : Int32)), .unset] [(.int xc)])
    refine o_aload X72 at_160 rfl rfl 162 rfl ?_
    refine o_iload X72 at_162 rfl 164 rfl ?_
    refine o_iconst (v := (1 : Int32)) X72 at_164 rfl 165 rfl ?_
    refine o_isub X72 at_165 166 rfl ?_
    refine o_iaload X72 H74 2 rfl at_166 2 rfl xc rfl 167 rfl ?_
    refine o_icmpEq X72 at_167 172 170 (by decide) (by decide) rfl ?_ (fun q => by exfalso; exact absurd rfl q)
    intro hc167
    refine o_iload X72 at_172 rfl 174 rfl ?_
    refine o_iconst (v := (3 : Int32)) X72 at_174 rfl 175 rfl ?_
    refine o_iushr X72 at_175 176 rfl ?_
    refine o_bipush (v := (7 : Int32)) X72 at_176 rfl 178 rfl ?_
    refine o_iand X72 at_178 179 rfl ?_
    refine o_iload X72 at_179 rfl 181 rfl ?_
    refine o_irem X72 at_181 (by decide) 182 rfl ?_
    refine o_istore X72 at_182 #[.val (.int xa), .val (.int xb), .val (.int xc), .val (.int xd), .val (.int xe), .val (.int xn), .val (.int (3 : Int32)), .val (.ref b1), .val (.ref b55), .val (.int (4 : Int32)), .val (.int (((XT.ushr xn (3 : Int32)) &&& (7 : Int32)) % (3 : Int32)))] rfl 184 rfl ?_
    rcases v_j3 (XT.ushr xn 3) with hv | hv | hv
    · rw [hv]
      refine o_aload X72 at_184 rfl rfl 186 rfl ?_
      refine o_iload X72 at_186 rfl 188 rfl ?_
      have H76 : OL n0 h63 ((b56, OA Z .int [xa, xb, xc, (0 : Int32)]) :: (b55, OO Z "com/example/eratosthenes/eratosthenes/index/IntList" [("com/example/eratosthenes/eratosthenes/index/IntList", "values", "[I", .ref b56), ("com/example/eratosthenes/eratosthenes/index/IntList", "size", "I", .int (3 : Int32))]) :: (b1, OA Z .int [xa, xb, xc, xd, xe]) :: []) := H74.front 1 rfl
      have H77 : OL n0 h63 ((b55, OO Z "com/example/eratosthenes/eratosthenes/index/IntList" [("com/example/eratosthenes/eratosthenes/index/IntList", "values", "[I", .ref b56), ("com/example/eratosthenes/eratosthenes/index/IntList", "size", "I", .int (3 : Int32))]) :: (b56, OA Z .int [xa, xb, xc, (0 : Int32)]) :: (b1, OA Z .int [xa, xb, xc, xd, xe]) :: []) := H76.front 1 rfl
      refine o_callV X72 H77 0 rfl at_188 (rest := []) (c_get l Z a0 hw [] n0 _ X72.size b55 b56 (3 : Int32) [xa, xb, xc, (0 : Int32)] ((b1, OA Z .int [xa, xb, xc, xd, xe]) :: []) H77 (0 : Int32) 0 rfl xa rfl) (hw _ (List.mem_of_getElem? (i := 29) rfl)) (hw _ (List.mem_of_getElem? (i := 30) rfl)) (hw _ (List.mem_of_getElem? (i := 32) rfl)) (hw _ (List.mem_of_getElem? (i := 31) rfl)) (hw _ (List.mem_of_getElem? (i := 3) rfl)) (hw _ (List.mem_of_getElem? (i := 33) rfl)) (by decide) 0 (by decide) (by decide) rfl [(.int (0 : Int32))] rfl pd_6 rfl rfl (Nat.le_of_eq rfl) 3 11 rfl rfl (by decide) (by decide) 191 rfl ?_
      rintro _ T75 _ X75 ⟨rfl, rfl⟩
      show OE p e room_1 below s n0 Q' T75 (mkF m 191 #[.val (.int xa), .val (.int xb), .val (.int xc), .val (.int xd), .val (.int xe), .val (.int xn), .val (.int (3 : Int32)), .val (.ref b1), .val (.ref b55), .val (.int (4 : Int32)), .val (.int (0 : Int32))] [(.int xa)])
      refine o_aload X75 at_191 rfl rfl 193 rfl ?_
      refine o_iload X75 at_193 rfl 195 rfl ?_
      refine o_iaload X75 H77 2 rfl at_195 0 rfl xa rfl 196 rfl ?_
      refine o_icmpNe X75 at_196 203 199 (by decide) (by decide) rfl (fun q => by exfalso; exact q rfl) ?_
      intro hc196
      refine o_iconst (v := (1 : Int32)) X75 at_199 rfl 200 rfl ?_
      refine o_goto X75 at_200 204 (by decide) (by decide) ?_
      exact o_retZ X75 at_204 (by decide) (by decide) (hQ _ _ rfl)
    · rw [hv]
      refine o_aload X72 at_184 rfl rfl 186 rfl ?_
      refine o_iload X72 at_186 rfl 188 rfl ?_
      have H79 : OL n0 h63 ((b56, OA Z .int [xa, xb, xc, (0 : Int32)]) :: (b55, OO Z "com/example/eratosthenes/eratosthenes/index/IntList" [("com/example/eratosthenes/eratosthenes/index/IntList", "values", "[I", .ref b56), ("com/example/eratosthenes/eratosthenes/index/IntList", "size", "I", .int (3 : Int32))]) :: (b1, OA Z .int [xa, xb, xc, xd, xe]) :: []) := H74.front 1 rfl
      have H80 : OL n0 h63 ((b55, OO Z "com/example/eratosthenes/eratosthenes/index/IntList" [("com/example/eratosthenes/eratosthenes/index/IntList", "values", "[I", .ref b56), ("com/example/eratosthenes/eratosthenes/index/IntList", "size", "I", .int (3 : Int32))]) :: (b56, OA Z .int [xa, xb, xc, (0 : Int32)]) :: (b1, OA Z .int [xa, xb, xc, xd, xe]) :: []) := H79.front 1 rfl
      refine o_callV X72 H80 0 rfl at_188 (rest := []) (c_get l Z a0 hw [] n0 _ X72.size b55 b56 (3 : Int32) [xa, xb, xc, (0 : Int32)] ((b1, OA Z .int [xa, xb, xc, xd, xe]) :: []) H80 (1 : Int32) 1 rfl xb rfl) (hw _ (List.mem_of_getElem? (i := 29) rfl)) (hw _ (List.mem_of_getElem? (i := 30) rfl)) (hw _ (List.mem_of_getElem? (i := 32) rfl)) (hw _ (List.mem_of_getElem? (i := 31) rfl)) (hw _ (List.mem_of_getElem? (i := 3) rfl)) (hw _ (List.mem_of_getElem? (i := 33) rfl)) (by decide) 0 (by decide) (by decide) rfl [(.int (1 : Int32))] rfl pd_6 rfl rfl (Nat.le_of_eq rfl) 3 11 rfl rfl (by decide) (by decide) 191 rfl ?_
      rintro _ T78 _ X78 ⟨rfl, rfl⟩
      show OE p e room_1 below s n0 Q' T78 (mkF m 191 #[.val (.int xa), .val (.int xb), .val (.int xc), .val (.int xd), .val (.int xe), .val (.int xn), .val (.int (3 : Int32)), .val (.ref b1), .val (.ref b55), .val (.int (4 : Int32)), .val (.int (1 : Int32))] [(.int xb)])
      refine o_aload X78 at_191 rfl rfl 193 rfl ?_
      refine o_iload X78 at_193 rfl 195 rfl ?_
      refine o_iaload X78 H80 2 rfl at_195 1 rfl xb rfl 196 rfl ?_
      refine o_icmpNe X78 at_196 203 199 (by decide) (by decide) rfl (fun q => by exfalso; exact q rfl) ?_
      intro hc196
      refine o_iconst (v := (1 : Int32)) X78 at_199 rfl 200 rfl ?_
      refine o_goto X78 at_200 204 (by decide) (by decide) ?_
      exact o_retZ X78 at_204 (by decide) (by decide) (hQ _ _ rfl)
    · rw [hv]
      refine o_aload X72 at_184 rfl rfl 186 rfl ?_
      refine o_iload X72 at_186 rfl 188 rfl ?_
      have H82 : OL n0 h63 ((b56, OA Z .int [xa, xb, xc, (0 : Int32)]) :: (b55, OO Z "com/example/eratosthenes/eratosthenes/index/IntList" [("com/example/eratosthenes/eratosthenes/index/IntList", "values", "[I", .ref b56), ("com/example/eratosthenes/eratosthenes/index/IntList", "size", "I", .int (3 : Int32))]) :: (b1, OA Z .int [xa, xb, xc, xd, xe]) :: []) := H74.front 1 rfl
      have H83 : OL n0 h63 ((b55, OO Z "com/example/eratosthenes/eratosthenes/index/IntList" [("com/example/eratosthenes/eratosthenes/index/IntList", "values", "[I", .ref b56), ("com/example/eratosthenes/eratosthenes/index/IntList", "size", "I", .int (3 : Int32))]) :: (b56, OA Z .int [xa, xb, xc, (0 : Int32)]) :: (b1, OA Z .int [xa, xb, xc, xd, xe]) :: []) := H82.front 1 rfl
      refine o_callV X72 H83 0 rfl at_188 (rest := []) (c_get l Z a0 hw [] n0 _ X72.size b55 b56 (3 : Int32) [xa, xb, xc, (0 : Int32)] ((b1, OA Z .int [xa, xb, xc, xd, xe]) :: []) H83 (2 : Int32) 2 rfl xc rfl) (hw _ (List.mem_of_getElem? (i := 29) rfl)) (hw _ (List.mem_of_getElem? (i := 30) rfl)) (hw _ (List.mem_of_getElem? (i := 32) rfl)) (hw _ (List.mem_of_getElem? (i := 31) rfl)) (hw _ (List.mem_of_getElem? (i := 3) rfl)) (hw _ (List.mem_of_getElem? (i := 33) rfl)) (by decide) 0 (by decide) (by decide) rfl [(.int (2 : Int32))] rfl pd_6 rfl rfl (Nat.le_of_eq rfl) 3 11 rfl rfl (by decide) (by decide) 191 rfl ?_
      rintro _ T81 _ X81 ⟨rfl, rfl⟩
      show OE p e room_1 below s n0 Q' T81 (mkF m 191 #[.val (.int xa), .val (.int xb), .val (.int xc), .val (.int xd), .val (.int xe), .val (.int xn), .val (.int (3 : Int32)), .val (.ref b1), .val (.ref b55), .val (.int (4 : Int32)), .val (.int (2 : Int32))] [(.int xc)])
      refine o_aload X81 at_191 rfl rfl 193 rfl ?_
      refine o_iload X81 at_193 rfl 195 rfl ?_
      refine o_iaload X81 H83 2 rfl at_195 2 rfl xc rfl 196 rfl ?_
      refine o_icmpNe X81 at_196 203 199 (by decide) (by decide) rfl (fun q => by exfalso; exact q rfl) ?_
      intro hc196
      refine o_iconst (v := (1 : Int32)) X81 at_199 rfl 200 rfl ?_
      refine o_goto X81 at_200 204 (by decide) (by decide) ?_
      exact o_retZ X81 at_204 (by decide) (by decide) (hQ _ _ rfl)
  · rw [hv]
    refine o_new (L := ((b1, OA Z .int [xa, xb, xc, xd, xe]) :: [])) X6 H6 at_36 (hw _ (List.mem_of_getElem? (i := 1) rfl)) (hw _ (List.mem_of_getElem? (i := 2) rfl)) (hw _ (List.mem_of_getElem? (i := 3) rfl)) [("com/example/eratosthenes/eratosthenes/index/IntList", "values", "[I", .null), ("com/example/eratosthenes/eratosthenes/index/IntList", "size", "I", .int (0 : Int32))] (oqS ⟨(.array .int), Or.inl (hw _ (List.mem_of_getElem? (i := 11) rfl)), by decide, rfl⟩ (oqS ⟨.int, Or.inl (hw _ (List.mem_of_getElem? (i := 18) rfl)), by decide, rfl⟩ oq0)) 2 7 rfl rfl (by decide) (by decide) 39 rfl ?_
    intro T84 h84 b84 X84 H84
    refine o_dup X84 at_39 rfl 40 rfl ?_
    refine o_callI X84 at_40 (rest := [(.ref b84)]) (c_ini l Z a0 hw [] n0 _ X84.size b84 _ ((b1, OA Z .int [xa, xb, xc, xd, xe]) :: []) H84) rfl (hw _ (List.mem_of_getElem? (i := 4) rfl)) (hw _ (List.mem_of_getElem? (i := 5) rfl)) (hw _ (List.mem_of_getElem? (i := 3) rfl)) (hw _ (List.mem_of_getElem? (i := 6) rfl)) (by decide) 1 (by decide) (by decide) rfl [] rfl pd_1 rfl rfl (Nat.le_of_eq rfl) 3 11 rfl rfl (by decide) (by decide) 43 rfl ?_
    rintro _ T85 h85 X85 ⟨b85, rfl, H85⟩
    replace H85 : OL n0 h85 ((b84, OO Z "com/example/eratosthenes/eratosthenes/index/IntList" [("com/example/eratosthenes/eratosthenes/index/IntList", "values", "[I", .ref b85), ("com/example/eratosthenes/eratosthenes/index/IntList", "size", "I", .int (0 : Int32))]) :: (b85, OA Z .int [(0 : Int32), (0 : Int32), (0 : Int32), (0 : Int32)]) :: (b1, OA Z .int [xa, xb, xc, xd, xe]) :: []) := H85
    show OE p e room_1 below s n0 Q' T85 (mkF m 43 #[.val (.int xa), .val (.int xb), .val (.int xc), .val (.int xd), .val (.int xe), .val (.int xn), .val (.int (4 : Int32)), .val (.ref b1), .unset, .unset, .unset] [(.ref b84)])
    refine o_astore X85 at_43 rfl #[.val (.int xa), .val (.int xb), .val (.int xc), .val (.int xd), .val (.int xe), .val (.int xn), .val (.int (4 : Int32)), .val (.ref b1), .val (.ref b84), .unset, .unset] rfl 45 rfl ?_
    refine o_iload X85 at_45 rfl 47 rfl ?_
    refine o_iconst (v := (1 : Int32)) X85 at_47 rfl 48 rfl ?_
    refine o_icmpLt X85 at_48 57 51 (by decide) (by decide) rfl (fun q => by exfalso; exact absurd q (by decide)) ?_
    intro hc48
    refine o_aload X85 at_51 rfl rfl 53 rfl ?_
    refine o_iloadN X85 at_53 rfl 54 rfl ?_
    have H87 : OL n0 h85 ((b85, OA Z .int [(0 : Int32), (0 : Int32), (0 : Int32), (0 : Int32)]) :: (b84, OO Z "com/example/eratosthenes/eratosthenes/index/IntList" [("com/example/eratosthenes/eratosthenes/index/IntList", "values", "[I", .ref b85), ("com/example/eratosthenes/eratosthenes/index/IntList", "size", "I", .int (0 : Int32))]) :: (b1, OA Z .int [xa, xb, xc, xd, xe]) :: []) := H85.front 1 rfl
    have H88 : OL n0 h85 ((b84, OO Z "com/example/eratosthenes/eratosthenes/index/IntList" [("com/example/eratosthenes/eratosthenes/index/IntList", "values", "[I", .ref b85), ("com/example/eratosthenes/eratosthenes/index/IntList", "size", "I", .int (0 : Int32))]) :: (b85, OA Z .int [(0 : Int32), (0 : Int32), (0 : Int32), (0 : Int32)]) :: (b1, OA Z .int [xa, xb, xc, xd, xe]) :: []) := H87.front 1 rfl
    refine o_callV X85 H88 0 rfl at_54 (rest := []) (c_add0 l Z a0 hw [] n0 _ X85.size b84 b85 xa (0 : Int32) (0 : Int32) (0 : Int32) (0 : Int32) ((b1, OA Z .int [xa, xb, xc, xd, xe]) :: []) H88) (hw _ (List.mem_of_getElem? (i := 12) rfl)) (hw _ (List.mem_of_getElem? (i := 13) rfl)) (hw _ (List.mem_of_getElem? (i := 15) rfl)) (hw _ (List.mem_of_getElem? (i := 14) rfl)) (hw _ (List.mem_of_getElem? (i := 3) rfl)) (hw _ (List.mem_of_getElem? (i := 16) rfl)) (by decide) 0 (by decide) (by decide) rfl [(.int xa)] rfl pd_3 rfl rfl (Nat.le_of_eq rfl) 3 11 rfl rfl (by decide) (by decide) 57 rfl ?_
    rintro _ T86 h86 X86 ⟨rfl, H86⟩
    replace H86 : OL n0 h86 ((b84, OO Z "com/example/eratosthenes/eratosthenes/index/IntList" [("com/example/eratosthenes/eratosthenes/index/IntList", "values", "[I", .ref b85), ("com/example/eratosthenes/eratosthenes/index/IntList", "size", "I", .int (1 : Int32))]) :: (b85, OA Z .int [xa, (0 : Int32), (0 : Int32), (0 : Int32)]) :: (b1, OA Z .int [xa, xb, xc, xd, xe]) :: []) := H86
    show OE p e room_1 below s n0 Q' T86 (mkF m 57 #[.val (.int xa), .val (.int xb), .val (.int xc), .val (.int xd), .val (.int xe), .val (.int xn), .val (.int (4 : Int32)), .val (.ref b1), .val (.ref b84), .unset, .unset] [])
    refine o_iload X86 at_57 rfl 59 rfl ?_
    refine o_iconst (v := (2 : Int32)) X86 at_59 rfl 60 rfl ?_
    refine o_icmpLt X86 at_60 69 63 (by decide) (by decide) rfl (fun q => by exfalso; exact absurd q (by decide)) ?_
    intro hc60
    refine o_aload X86 at_63 rfl rfl 65 rfl ?_
    refine o_iloadN X86 at_65 rfl 66 rfl ?_
    have H90 : OL n0 h86 ((b85, OA Z .int [xa, (0 : Int32), (0 : Int32), (0 : Int32)]) :: (b84, OO Z "com/example/eratosthenes/eratosthenes/index/IntList" [("com/example/eratosthenes/eratosthenes/index/IntList", "values", "[I", .ref b85), ("com/example/eratosthenes/eratosthenes/index/IntList", "size", "I", .int (1 : Int32))]) :: (b1, OA Z .int [xa, xb, xc, xd, xe]) :: []) := H86.front 1 rfl
    have H91 : OL n0 h86 ((b84, OO Z "com/example/eratosthenes/eratosthenes/index/IntList" [("com/example/eratosthenes/eratosthenes/index/IntList", "values", "[I", .ref b85), ("com/example/eratosthenes/eratosthenes/index/IntList", "size", "I", .int (1 : Int32))]) :: (b85, OA Z .int [xa, (0 : Int32), (0 : Int32), (0 : Int32)]) :: (b1, OA Z .int [xa, xb, xc, xd, xe]) :: []) := H90.front 1 rfl
    refine o_callV X86 H91 0 rfl at_66 (rest := []) (c_add1 l Z a0 hw [] n0 _ X86.size b84 b85 xb xa (0 : Int32) (0 : Int32) (0 : Int32) ((b1, OA Z .int [xa, xb, xc, xd, xe]) :: []) H91) (hw _ (List.mem_of_getElem? (i := 12) rfl)) (hw _ (List.mem_of_getElem? (i := 13) rfl)) (hw _ (List.mem_of_getElem? (i := 15) rfl)) (hw _ (List.mem_of_getElem? (i := 14) rfl)) (hw _ (List.mem_of_getElem? (i := 3) rfl)) (hw _ (List.mem_of_getElem? (i := 16) rfl)) (by decide) 0 (by decide) (by decide) rfl [(.int xb)] rfl pd_3 rfl rfl (Nat.le_of_eq rfl) 3 11 rfl rfl (by decide) (by decide) 69 rfl ?_
    rintro _ T89 h89 X89 ⟨rfl, H89⟩
    replace H89 : OL n0 h89 ((b84, OO Z "com/example/eratosthenes/eratosthenes/index/IntList" [("com/example/eratosthenes/eratosthenes/index/IntList", "values", "[I", .ref b85), ("com/example/eratosthenes/eratosthenes/index/IntList", "size", "I", .int (2 : Int32))]) :: (b85, OA Z .int [xa, xb, (0 : Int32), (0 : Int32)]) :: (b1, OA Z .int [xa, xb, xc, xd, xe]) :: []) := H89
    show OE p e room_1 below s n0 Q' T89 (mkF m 69 #[.val (.int xa), .val (.int xb), .val (.int xc), .val (.int xd), .val (.int xe), .val (.int xn), .val (.int (4 : Int32)), .val (.ref b1), .val (.ref b84), .unset, .unset] [])
    refine o_iload X89 at_69 rfl 71 rfl ?_
    refine o_iconst (v := (3 : Int32)) X89 at_71 rfl 72 rfl ?_
    refine o_icmpLt X89 at_72 81 75 (by decide) (by decide) rfl (fun q => by exfalso; exact absurd q (by decide)) ?_
    intro hc72
    refine o_aload X89 at_75 rfl rfl 77 rfl ?_
    refine o_iloadN X89 at_77 rfl 78 rfl ?_
    have H93 : OL n0 h89 ((b85, OA Z .int [xa, xb, (0 : Int32), (0 : Int32)]) :: (b84, OO Z "com/example/eratosthenes/eratosthenes/index/IntList" [("com/example/eratosthenes/eratosthenes/index/IntList", "values", "[I", .ref b85), ("com/example/eratosthenes/eratosthenes/index/IntList", "size", "I", .int (2 : Int32))]) :: (b1, OA Z .int [xa, xb, xc, xd, xe]) :: []) := H89.front 1 rfl
    have H94 : OL n0 h89 ((b84, OO Z "com/example/eratosthenes/eratosthenes/index/IntList" [("com/example/eratosthenes/eratosthenes/index/IntList", "values", "[I", .ref b85), ("com/example/eratosthenes/eratosthenes/index/IntList", "size", "I", .int (2 : Int32))]) :: (b85, OA Z .int [xa, xb, (0 : Int32), (0 : Int32)]) :: (b1, OA Z .int [xa, xb, xc, xd, xe]) :: []) := H93.front 1 rfl
    refine o_callV X89 H94 0 rfl at_78 (rest := []) (c_add2 l Z a0 hw [] n0 _ X89.size b84 b85 xc xa xb (0 : Int32) (0 : Int32) ((b1, OA Z .int [xa, xb, xc, xd, xe]) :: []) H94) (hw _ (List.mem_of_getElem? (i := 12) rfl)) (hw _ (List.mem_of_getElem? (i := 13) rfl)) (hw _ (List.mem_of_getElem? (i := 15) rfl)) (hw _ (List.mem_of_getElem? (i := 14) rfl)) (hw _ (List.mem_of_getElem? (i := 3) rfl)) (hw _ (List.mem_of_getElem? (i := 16) rfl)) (by decide) 0 (by decide) (by decide) rfl [(.int xc)] rfl pd_3 rfl rfl (Nat.le_of_eq rfl) 3 11 rfl rfl (by decide) (by decide) 81 rfl ?_
    rintro _ T92 h92 X92 ⟨rfl, H92⟩
    replace H92 : OL n0 h92 ((b84, OO Z "com/example/eratosthenes/eratosthenes/index/IntList" [("com/example/eratosthenes/eratosthenes/index/IntList", "values", "[I", .ref b85), ("com/example/eratosthenes/eratosthenes/index/IntList", "size", "I", .int (3 : Int32))]) :: (b85, OA Z .int [xa, xb, xc, (0 : Int32)]) :: (b1, OA Z .int [xa, xb, xc, xd, xe]) :: []) := H92
    show OE p e room_1 below s n0 Q' T92 (mkF m 81 #[.val (.int xa), .val (.int xb), .val (.int xc), .val (.int xd), .val (.int xe), .val (.int xn), .val (.int (4 : Int32)), .val (.ref b1), .val (.ref b84), .unset, .unset] [])
    refine o_iload X92 at_81 rfl 83 rfl ?_
    refine o_iconst (v := (4 : Int32)) X92 at_83 rfl 84 rfl ?_
    refine o_icmpLt X92 at_84 93 87 (by decide) (by decide) rfl (fun q => by exfalso; exact absurd q (by decide)) ?_
    intro hc84
    refine o_aload X92 at_87 rfl rfl 89 rfl ?_
    refine o_iloadN X92 at_89 rfl 90 rfl ?_
    have H96 : OL n0 h92 ((b85, OA Z .int [xa, xb, xc, (0 : Int32)]) :: (b84, OO Z "com/example/eratosthenes/eratosthenes/index/IntList" [("com/example/eratosthenes/eratosthenes/index/IntList", "values", "[I", .ref b85), ("com/example/eratosthenes/eratosthenes/index/IntList", "size", "I", .int (3 : Int32))]) :: (b1, OA Z .int [xa, xb, xc, xd, xe]) :: []) := H92.front 1 rfl
    have H97 : OL n0 h92 ((b84, OO Z "com/example/eratosthenes/eratosthenes/index/IntList" [("com/example/eratosthenes/eratosthenes/index/IntList", "values", "[I", .ref b85), ("com/example/eratosthenes/eratosthenes/index/IntList", "size", "I", .int (3 : Int32))]) :: (b85, OA Z .int [xa, xb, xc, (0 : Int32)]) :: (b1, OA Z .int [xa, xb, xc, xd, xe]) :: []) := H96.front 1 rfl
    refine o_callV X92 H97 0 rfl at_90 (rest := []) (c_add3 l Z a0 hw [] n0 _ X92.size b84 b85 xd xa xb xc (0 : Int32) ((b1, OA Z .int [xa, xb, xc, xd, xe]) :: []) H97) (hw _ (List.mem_of_getElem? (i := 12) rfl)) (hw _ (List.mem_of_getElem? (i := 13) rfl)) (hw _ (List.mem_of_getElem? (i := 15) rfl)) (hw _ (List.mem_of_getElem? (i := 14) rfl)) (hw _ (List.mem_of_getElem? (i := 3) rfl)) (hw _ (List.mem_of_getElem? (i := 16) rfl)) (by decide) 0 (by decide) (by decide) rfl [(.int xd)] rfl pd_3 rfl rfl (Nat.le_of_eq rfl) 3 11 rfl rfl (by decide) (by decide) 93 rfl ?_
    rintro _ T95 h95 X95 ⟨rfl, H95⟩
    replace H95 : OL n0 h95 ((b84, OO Z "com/example/eratosthenes/eratosthenes/index/IntList" [("com/example/eratosthenes/eratosthenes/index/IntList", "values", "[I", .ref b85), ("com/example/eratosthenes/eratosthenes/index/IntList", "size", "I", .int (4 : Int32))]) :: (b85, OA Z .int [xa, xb, xc, xd]) :: (b1, OA Z .int [xa, xb, xc, xd, xe]) :: []) := H95
    show OE p e room_1 below s n0 Q' T95 (mkF m 93 #[.val (.int xa), .val (.int xb), .val (.int xc), .val (.int xd), .val (.int xe), .val (.int xn), .val (.int (4 : Int32)), .val (.ref b1), .val (.ref b84), .unset, .unset] [])
    refine o_iload X95 at_93 rfl 95 rfl ?_
    refine o_iconst (v := (5 : Int32)) X95 at_95 rfl 96 rfl ?_
    refine o_icmpLt X95 at_96 106 99 (by decide) (by decide) rfl ?_ (fun q => by exfalso; exact absurd q (by decide))
    intro hc96
    refine o_aload X95 at_106 rfl rfl 108 rfl ?_
    have H99 : OL n0 h95 ((b85, OA Z .int [xa, xb, xc, xd]) :: (b84, OO Z "com/example/eratosthenes/eratosthenes/index/IntList" [("com/example/eratosthenes/eratosthenes/index/IntList", "values", "[I", .ref b85), ("com/example/eratosthenes/eratosthenes/index/IntList", "size", "I", .int (4 : Int32))]) :: (b1, OA Z .int [xa, xb, xc, xd, xe]) :: []) := H95.front 1 rfl
    have H100 : OL n0 h95 ((b84, OO Z "com/example/eratosthenes/eratosthenes/index/IntList" [("com/example/eratosthenes/eratosthenes/index/IntList", "values", "[I", .ref b85), ("com/example/eratosthenes/eratosthenes/index/IntList", "size", "I", .int (4 : Int32))]) :: (b85, OA Z .int [xa, xb, xc, xd]) :: (b1, OA Z .int [xa, xb, xc, xd, xe]) :: []) := H99.front 1 rfl
    refine o_callV X95 H100 0 rfl at_108 (rest := []) (c_size l Z a0 hw [] n0 _ X95.size b84 b85 (4 : Int32) [xa, xb, xc, xd] ((b1, OA Z .int [xa, xb, xc, xd, xe]) :: []) H100) (hw _ (List.mem_of_getElem? (i := 19) rfl)) (hw _ (List.mem_of_getElem? (i := 20) rfl)) (hw _ (List.mem_of_getElem? (i := 22) rfl)) (hw _ (List.mem_of_getElem? (i := 21) rfl)) (hw _ (List.mem_of_getElem? (i := 3) rfl)) (hw _ (List.mem_of_getElem? (i := 23) rfl)) (by decide) 0 (by decide) (by decide) rfl [] rfl pd_4 rfl rfl (Nat.le_of_eq rfl) 3 11 rfl rfl (by decide) (by decide) 111 rfl ?_
    rintro _ T98 _ X98 ⟨rfl, rfl⟩
    show OE p e room_1 below s n0 Q' T98 (mkF m 111 #[.val (.int xa), .val (.int xb), .val (.int xc), .val (.int xd), .val (.int xe), .val (.int xn), .val (.int (4 : Int32)), .val (.ref b1), .val (.ref b84), .unset, .unset] [(.int (4 : Int32))])
    refine o_iload X98 at_111 rfl 113 rfl ?_
    refine o_icmpEq X98 at_113 118 116 (by decide) (by decide) rfl ?_ (fun q => by exfalso; exact absurd q (by decide))
    intro hc113
    refine o_iload X98 at_118 rfl 120 rfl ?_
    refine o_iconst (v := (5 : Int32)) X98 at_120 rfl 121 rfl ?_
    refine o_icmpNe X98 at_121 129 124 (by decide) (by decide) rfl ?_ (fun q => by exfalso; exact absurd q (by decide))
    intro hc121
    refine o_iconst (v := (4 : Int32)) X98 at_129 rfl 130 rfl ?_
    refine o_istore X98 at_130 #[.val (.int xa), .val (.int xb), .val (.int xc), .val (.int xd), .val (.int xe), .val (.int xn), .val (.int (4 : Int32)), .val (.ref b1), .val (.ref b84), .val (.int (4 : Int32)), .unset] rfl 132 rfl ?_
    refine o_aload X98 at_132 rfl rfl 134 rfl ?_
    have H102 : OL n0 h95 ((b85, OA Z .int [xa, xb, xc, xd]) :: (b84, OO Z "com/example/eratosthenes/eratosthenes/index/IntList" [("com/example/eratosthenes/eratosthenes/index/IntList", "values", "[I", .ref b85), ("com/example/eratosthenes/eratosthenes/index/IntList", "size", "I", .int (4 : Int32))]) :: (b1, OA Z .int [xa, xb, xc, xd, xe]) :: []) := H100.front 1 rfl
    have H103 : OL n0 h95 ((b84, OO Z "com/example/eratosthenes/eratosthenes/index/IntList" [("com/example/eratosthenes/eratosthenes/index/IntList", "values", "[I", .ref b85), ("com/example/eratosthenes/eratosthenes/index/IntList", "size", "I", .int (4 : Int32))]) :: (b85, OA Z .int [xa, xb, xc, xd]) :: (b1, OA Z .int [xa, xb, xc, xd, xe]) :: []) := H102.front 1 rfl
    refine o_callV X98 H103 0 rfl at_134 (rest := []) (c_cap l Z a0 hw [] n0 _ X98.size b84 b85 (4 : Int32) [xa, xb, xc, xd] ((b1, OA Z .int [xa, xb, xc, xd, xe]) :: []) H103) (hw _ (List.mem_of_getElem? (i := 24) rfl)) (hw _ (List.mem_of_getElem? (i := 25) rfl)) (hw _ (List.mem_of_getElem? (i := 27) rfl)) (hw _ (List.mem_of_getElem? (i := 26) rfl)) (hw _ (List.mem_of_getElem? (i := 3) rfl)) (hw _ (List.mem_of_getElem? (i := 28) rfl)) (by decide) 0 (by decide) (by decide) rfl [] rfl pd_5 rfl rfl (Nat.le_of_eq rfl) 3 11 rfl rfl (by decide) (by decide) 137 rfl ?_
    rintro _ T101 _ X101 ⟨rfl, rfl⟩
    rw [show (Int32.ofNat [xa, xb, xc, xd].length) = (4 : Int32) from rfl]
    show OE p e room_1 below s n0 Q' T101 (mkF m 137 #[.val (.int xa), .val (.int xb), .val (.int xc), .val (.int xd), .val (.int xe), .val (.int xn), .val (.int (4 : Int32)), .val (.ref b1), .val (.ref b84), .val (.int (4 : Int32)), .unset] [(.int (4 : Int32))])
    refine o_iload X101 at_137 rfl 139 rfl ?_
    refine o_icmpEq X101 at_139 144 142 (by decide) (by decide) rfl ?_ (fun q => by exfalso; exact absurd q (by decide))
    intro hc139
    refine o_iload X101 at_144 rfl 146 rfl ?_
    refine o_ifNe X101 at_146 151 149 (by decide) (by decide) rfl ?_ (fun q => by exfalso; exact absurd q (by decide))
    intro hc146
    refine o_aload X101 at_151 rfl rfl 153 rfl ?_
    refine o_iload X101 at_153 rfl 155 rfl ?_
    refine o_iconst (v := (1 : Int32)) X101 at_155 rfl 156 rfl ?_
    refine o_isub X101 at_156 157 rfl ?_
    have H105 : OL n0 h95 ((b85, OA Z .int [xa, xb, xc, xd]) :: (b84, OO Z "com/example/eratosthenes/eratosthenes/index/IntList" [("com/example/eratosthenes/eratosthenes/index/IntList", "values", "[I", .ref b85), ("com/example/eratosthenes/eratosthenes/index/IntList", "size", "I", .int (4 : Int32))]) :: (b1, OA Z .int [xa, xb, xc, xd, xe]) :: []) := H103.front 1 rfl
    have H106 : OL n0 h95 ((b84, OO Z "com/example/eratosthenes/eratosthenes/index/IntList" [("com/example/eratosthenes/eratosthenes/index/IntList", "values", "[I", .ref b85), ("com/example/eratosthenes/eratosthenes/index/IntList", "size", "I", .int (4 : Int32))]) :: (b85, OA Z .int [xa, xb, xc, xd]) :: (b1, OA Z .int [xa, xb, xc, xd, xe]) :: []) := H105.front 1 rfl
    refine o_callV X101 H106 0 rfl at_157 (rest := []) (c_get l Z a0 hw [] n0 _ X101.size b84 b85 (4 : Int32) [xa, xb, xc, xd] ((b1, OA Z .int [xa, xb, xc, xd, xe]) :: []) H106 ((4 : Int32) - (1 : Int32)) 3 rfl xd rfl) (hw _ (List.mem_of_getElem? (i := 29) rfl)) (hw _ (List.mem_of_getElem? (i := 30) rfl)) (hw _ (List.mem_of_getElem? (i := 32) rfl)) (hw _ (List.mem_of_getElem? (i := 31) rfl)) (hw _ (List.mem_of_getElem? (i := 3) rfl)) (hw _ (List.mem_of_getElem? (i := 33) rfl)) (by decide) 0 (by decide) (by decide) rfl [(.int ((4 : Int32) - (1 : Int32)))] rfl pd_6 rfl rfl (Nat.le_of_eq rfl) 3 11 rfl rfl (by decide) (by decide) 160 rfl ?_
    rintro _ T104 _ X104 ⟨rfl, rfl⟩
    show OE p e room_1 below s n0 Q' T104 (mkF m 160 #[.val (.int xa), .val (.int xb), .val (.int xc), .val (.int xd), .val (.int xe), .val (.int xn), .val (.int (4 : Int32)), .val (.ref b1), .val (.ref b84), .val (.int (4 : Int32)), .unset] [(.int xd)])
    refine o_aload X104 at_160 rfl rfl 162 rfl ?_
    refine o_iload X104 at_162 rfl 164 rfl ?_
    refine o_iconst (v := (1 : Int32)) X104 at_164 rfl 165 rfl ?_
    refine o_isub X104 at_165 166 rfl ?_
    refine o_iaload X104 H106 2 rfl at_166 3 rfl xd rfl 167 rfl ?_
    refine o_icmpEq X104 at_167 172 170 (by decide) (by decide) rfl ?_ (fun q => by exfalso; exact absurd rfl q)
    intro hc167
    refine o_iload X104 at_172 rfl 174 rfl ?_
    refine o_iconst (v := (3 : Int32)) X104 at_174 rfl 175 rfl ?_
    refine o_iushr X104 at_175 176 rfl ?_
    refine o_bipush (v := (7 : Int32)) X104 at_176 rfl 178 rfl ?_
    refine o_iand X104 at_178 179 rfl ?_
    refine o_iload X104 at_179 rfl 181 rfl ?_
    refine o_irem X104 at_181 (by decide) 182 rfl ?_
    refine o_istore X104 at_182 #[.val (.int xa), .val (.int xb), .val (.int xc), .val (.int xd), .val (.int xe), .val (.int xn), .val (.int (4 : Int32)), .val (.ref b1), .val (.ref b84), .val (.int (4 : Int32)), .val (.int (((XT.ushr xn (3 : Int32)) &&& (7 : Int32)) % (4 : Int32)))] rfl 184 rfl ?_
    rcases v_j4 (XT.ushr xn 3) with hv | hv | hv | hv
    · rw [hv]
      refine o_aload X104 at_184 rfl rfl 186 rfl ?_
      refine o_iload X104 at_186 rfl 188 rfl ?_
      have H108 : OL n0 h95 ((b85, OA Z .int [xa, xb, xc, xd]) :: (b84, OO Z "com/example/eratosthenes/eratosthenes/index/IntList" [("com/example/eratosthenes/eratosthenes/index/IntList", "values", "[I", .ref b85), ("com/example/eratosthenes/eratosthenes/index/IntList", "size", "I", .int (4 : Int32))]) :: (b1, OA Z .int [xa, xb, xc, xd, xe]) :: []) := H106.front 1 rfl
      have H109 : OL n0 h95 ((b84, OO Z "com/example/eratosthenes/eratosthenes/index/IntList" [("com/example/eratosthenes/eratosthenes/index/IntList", "values", "[I", .ref b85), ("com/example/eratosthenes/eratosthenes/index/IntList", "size", "I", .int (4 : Int32))]) :: (b85, OA Z .int [xa, xb, xc, xd]) :: (b1, OA Z .int [xa, xb, xc, xd, xe]) :: []) := H108.front 1 rfl
      refine o_callV X104 H109 0 rfl at_188 (rest := []) (c_get l Z a0 hw [] n0 _ X104.size b84 b85 (4 : Int32) [xa, xb, xc, xd] ((b1, OA Z .int [xa, xb, xc, xd, xe]) :: []) H109 (0 : Int32) 0 rfl xa rfl) (hw _ (List.mem_of_getElem? (i := 29) rfl)) (hw _ (List.mem_of_getElem? (i := 30) rfl)) (hw _ (List.mem_of_getElem? (i := 32) rfl)) (hw _ (List.mem_of_getElem? (i := 31) rfl)) (hw _ (List.mem_of_getElem? (i := 3) rfl)) (hw _ (List.mem_of_getElem? (i := 33) rfl)) (by decide) 0 (by decide) (by decide) rfl [(.int (0 : Int32))] rfl pd_6 rfl rfl (Nat.le_of_eq rfl) 3 11 rfl rfl (by decide) (by decide) 191 rfl ?_
      rintro _ T107 _ X107 ⟨rfl, rfl⟩
      show OE p e room_1 below s n0 Q' T107 (mkF m 191 #[.val (.int xa), .val (.int xb), .val (.int xc), .val (.int xd), .val (.int xe), .val (.int xn), .val (.int (4 : Int32)), .val (.ref b1), .val (.ref b84), .val (.int (4 : Int32)), .val (.int (0 : Int32))] [(.int xa)])
      refine o_aload X107 at_191 rfl rfl 193 rfl ?_
      refine o_iload X107 at_193 rfl 195 rfl ?_
      refine o_iaload X107 H109 2 rfl at_195 0 rfl xa rfl 196 rfl ?_
      refine o_icmpNe X107 at_196 203 199 (by decide) (by decide) rfl (fun q => by exfalso; exact q rfl) ?_
      intro hc196
      refine o_iconst (v := (1 : Int32)) X107 at_199 rfl 200 rfl ?_
      refine o_goto X107 at_200 204 (by decide) (by decide) ?_
      exact o_retZ X107 at_204 (by decide) (by decide) (hQ _ _ rfl)
    · rw [hv]
      refine o_aload X104 at_184 rfl rfl 186 rfl ?_
      refine o_iload X104 at_186 rfl 188 rfl ?_
      have H111 : OL n0 h95 ((b85, OA Z .int [xa, xb, xc, xd]) :: (b84, OO Z "com/example/eratosthenes/eratosthenes/index/IntList" [("com/example/eratosthenes/eratosthenes/index/IntList", "values", "[I", .ref b85), ("com/example/eratosthenes/eratosthenes/index/IntList", "size", "I", .int (4 : Int32))]) :: (b1, OA Z .int [xa, xb, xc, xd, xe]) :: []) := H106.front 1 rfl
      have H112 : OL n0 h95 ((b84, OO Z "com/example/eratosthenes/eratosthenes/index/IntList" [("com/example/eratosthenes/eratosthenes/index/IntList", "values", "[I", .ref b85), ("com/example/eratosthenes/eratosthenes/index/IntList", "size", "I", .int (4 : Int32))]) :: (b85, OA Z .int [xa, xb, xc, xd]) :: (b1, OA Z .int [xa, xb, xc, xd, xe]) :: []) := H111.front 1 rfl
      refine o_callV X104 H112 0 rfl at_188 (rest := []) (c_get l Z a0 hw [] n0 _ X104.size b84 b85 (4 : Int32) [xa, xb, xc, xd] ((b1, OA Z .int [xa, xb, xc, xd, xe]) :: []) H112 (1 : Int32) 1 rfl xb rfl) (hw _ (List.mem_of_getElem? (i := 29) rfl)) (hw _ (List.mem_of_getElem? (i := 30) rfl)) (hw _ (List.mem_of_getElem? (i := 32) rfl)) (hw _ (List.mem_of_getElem? (i := 31) rfl)) (hw _ (List.mem_of_getElem? (i := 3) rfl)) (hw _ (List.mem_of_getElem? (i := 33) rfl)) (by decide) 0 (by decide) (by decide) rfl [(.int (1 : Int32))] rfl pd_6 rfl rfl (Nat.le_of_eq rfl) 3 11 rfl rfl (by decide) (by decide) 191 rfl ?_
      rintro _ T110 _ X110 ⟨rfl, rfl⟩
      show OE p e room_1 below s n0 Q' T110 (mkF m 191 #[.val (.int xa), .val (.int xb), .val (.int xc), .val (.int xd), .val (.int xe), .val (.int xn), .val (.int (4 : Int32)), .val (.ref b1), .val (.ref b84), .val (.int (4 : Int32)), .val (.int (1 : Int32))] [(.int xb)])
      refine o_aload X110 at_191 rfl rfl 193 rfl ?_
      refine o_iload X110 at_193 rfl 195 rfl ?_
      refine o_iaload X110 H112 2 rfl at_195 1 rfl xb rfl 196 rfl ?_
      refine o_icmpNe X110 at_196 203 199 (by decide) (by decide) rfl (fun q => by exfalso; exact q rfl) ?_
      intro hc196
      refine o_iconst (v := (1 : Int32)) X110 at_199 rfl 200 rfl ?_
      refine o_goto X110 at_200 204 (by decide) (by decide) ?_
      exact o_retZ X110 at_204 (by decide) (by decide) (hQ _ _ rfl)
    · rw [hv]
      refine o_aload X104 at_184 rfl rfl 186 rfl ?_
      refine o_iload X104 at_186 rfl 188 rfl ?_
      have H114 : OL n0 h95 ((b85, OA Z .int [xa, xb, xc, xd]) :: (b84, OO Z "com/example/eratosthenes/eratosthenes/index/IntList" [("com/example/eratosthenes/eratosthenes/index/IntList", "values", "[I", .ref b85), ("com/example/eratosthenes/eratosthenes/index/IntList", "size", "I", .int (4 : Int32))]) :: (b1, OA Z .int [xa, xb, xc, xd, xe]) :: []) := H106.front 1 rfl
      have H115 : OL n0 h95 ((b84, OO Z "com/example/eratosthenes/eratosthenes/index/IntList" [("com/example/eratosthenes/eratosthenes/index/IntList", "values", "[I", .ref b85), ("com/example/eratosthenes/eratosthenes/index/IntList", "size", "I", .int (4 : Int32))]) :: (b85, OA Z .int [xa, xb, xc, xd]) :: (b1, OA Z .int [xa, xb, xc, xd, xe]) :: []) := H114.front 1 rfl
      refine o_callV X104 H115 0 rfl at_188 (rest := []) (c_get l Z a0 hw [] n0 _ X104.size b84 b85 (4 : Int32) [xa, xb, xc, xd] ((b1, OA Z .int [xa, xb, xc, xd, xe]) :: []) H115 (2 : Int32) 2 rfl xc rfl) (hw _ (List.mem_of_getElem? (i := 29) rfl)) (hw _ (List.mem_of_getElem? (i := 30) rfl)) (hw _ (List.mem_of_getElem? (i := 32) rfl)) (hw _ (List.mem_of_getElem? (i := 31) rfl)) (hw _ (List.mem_of_getElem? (i := 3) rfl)) (hw _ (List.mem_of_getElem? (i := 33) rfl)) (by decide) 0 (by decide) (by decide) rfl [(.int (2 : Int32))] rfl pd_6 rfl rfl (Nat.le_of_eq rfl) 3 11 rfl rfl (by decide) (by decide) 191 rfl ?_
      rintro _ T113 _ X113 ⟨rfl, rfl⟩
      show OE p e room_1 below s n0 Q' T113 (mkF m 191 #[.val (.int xa), .val (.int xb), .val (.int xc), .val (.int xd), .val (.int xe), .val (.int xn), .val (.int (4 : Int32)), .val (.ref b1), .val (.ref b84), .val (.int (4 : Int32)), .val (.int (2 : Int32))] [(.int xc)])
      refine o_aload X113 at_191 rfl rfl 193 rfl ?_
      refine o_iload X113 at_193 rfl 195 rfl ?_
      refine o_iaload X113 H115 2 rfl at_195 2 rfl xc rfl 196 rfl ?_
      refine o_icmpNe X113 at_196 203 199 (by decide) (by decide) rfl (fun q => by exfalso; exact q rfl) ?_
      intro hc196
      refine o_iconst (v := (1 : Int32)) X113 at_199 rfl 200 rfl ?_
      refine o_goto X113 at_200 204 (by decide) (by decide) ?_
      exact o_retZ X113 at_204 (by decide) (by decide) (hQ _ _ rfl)
    · rw [hv]
      refine o_aload X104 at_184 rfl rfl 186 rfl ?_
      refine o_iload X104 at_186 rfl 188 rfl ?_
      have H117 : OL n0 h95 ((b85, OA Z .int [xa, xb, xc, xd]) :: (b84, OO Z "com/example/eratosthenes/eratosthenes/index/IntList" [("com/example/eratosthenes/eratosthenes/index/IntList", "values", "[I", .ref b85), ("com/example/eratosthenes/eratosthenes/index/IntList", "size", "I", .int (4 : Int32))]) :: (b1, OA Z .int [xa, xb, xc, xd, xe]) :: []) := H106.front 1 rfl
      have H118 : OL n0 h95 ((b84, OO Z "com/example/eratosthenes/eratosthenes/index/IntList" [("com/example/eratosthenes/eratosthenes/index/IntList", "values", "[I", .ref b85), ("com/example/eratosthenes/eratosthenes/index/IntList", "size", "I", .int (4 : Int32))]) :: (b85, OA Z .int [xa, xb, xc, xd]) :: (b1, OA Z .int [xa, xb, xc, xd, xe]) :: []) := H117.front 1 rfl
      refine o_callV X104 H118 0 rfl at_188 (rest := []) (c_get l Z a0 hw [] n0 _ X104.size b84 b85 (4 : Int32) [xa, xb, xc, xd] ((b1, OA Z .int [xa, xb, xc, xd, xe]) :: []) H118 (3 : Int32) 3 rfl xd rfl) (hw _ (List.mem_of_getElem? (i := 29) rfl)) (hw _ (List.mem_of_getElem? (i := 30) rfl)) (hw _ (List.mem_of_getElem? (i := 32) rfl)) (hw _ (List.mem_of_getElem? (i := 31) rfl)) (hw _ (List.mem_of_getElem? (i := 3) rfl)) (hw _ (List.mem_of_getElem? (i := 33) rfl)) (by decide) 0 (by decide) (by decide) rfl [(.int (3 : Int32))] rfl pd_6 rfl rfl (Nat.le_of_eq rfl) 3 11 rfl rfl (by decide) (by decide) 191 rfl ?_
      rintro _ T116 _ X116 ⟨rfl, rfl⟩
      show OE p e room_1 below s n0 Q' T116 (mkF m 191 #[.val (.int xa), .val (.int xb), .val (.int xc), .val (.int xd), .val (.int xe), .val (.int xn), .val (.int (4 : Int32)), .val (.ref b1), .val (.ref b84), .val (.int (4 : Int32)), .val (.int (3 : Int32))] [(.int xd)])
      refine o_aload X116 at_191 rfl rfl 193 rfl ?_
      refine o_iload X116 at_193 rfl 195 rfl ?_
      refine o_iaload X116 H118 2 rfl at_195 3 rfl xd rfl 196 rfl ?_
      refine o_icmpNe X116 at_196 203 199 (by decide) (by decide) rfl (fun q => by exfalso; exact q rfl) ?_
      intro hc196
      refine o_iconst (v := (1 : Int32)) X116 at_199 rfl 200 rfl ?_
      refine o_goto X116 at_200 204 (by decide) (by decide) ?_
      exact o_retZ X116 at_204 (by decide) (by decide) (hQ _ _ rfl)
  · rw [hv]
    refine o_new (L := ((b1, OA Z .int [xa, xb, xc, xd, xe]) :: [])) X6 H6 at_36 (hw _ (List.mem_of_getElem? (i := 1) rfl)) (hw _ (List.mem_of_getElem? (i := 2) rfl)) (hw _ (List.mem_of_getElem? (i := 3) rfl)) [("com/example/eratosthenes/eratosthenes/index/IntList", "values", "[I", .null), ("com/example/eratosthenes/eratosthenes/index/IntList", "size", "I", .int (0 : Int32))] (oqS ⟨(.array .int), Or.inl (hw _ (List.mem_of_getElem? (i := 11) rfl)), by decide, rfl⟩ (oqS ⟨.int, Or.inl (hw _ (List.mem_of_getElem? (i := 18) rfl)), by decide, rfl⟩ oq0)) 2 7 rfl rfl (by decide) (by decide) 39 rfl ?_
    intro T119 h119 b119 X119 H119
    refine o_dup X119 at_39 rfl 40 rfl ?_
    refine o_callI X119 at_40 (rest := [(.ref b119)]) (c_ini l Z a0 hw [] n0 _ X119.size b119 _ ((b1, OA Z .int [xa, xb, xc, xd, xe]) :: []) H119) rfl (hw _ (List.mem_of_getElem? (i := 4) rfl)) (hw _ (List.mem_of_getElem? (i := 5) rfl)) (hw _ (List.mem_of_getElem? (i := 3) rfl)) (hw _ (List.mem_of_getElem? (i := 6) rfl)) (by decide) 1 (by decide) (by decide) rfl [] rfl pd_1 rfl rfl (Nat.le_of_eq rfl) 3 11 rfl rfl (by decide) (by decide) 43 rfl ?_
    rintro _ T120 h120 X120 ⟨b120, rfl, H120⟩
    replace H120 : OL n0 h120 ((b119, OO Z "com/example/eratosthenes/eratosthenes/index/IntList" [("com/example/eratosthenes/eratosthenes/index/IntList", "values", "[I", .ref b120), ("com/example/eratosthenes/eratosthenes/index/IntList", "size", "I", .int (0 : Int32))]) :: (b120, OA Z .int [(0 : Int32), (0 : Int32), (0 : Int32), (0 : Int32)]) :: (b1, OA Z .int [xa, xb, xc, xd, xe]) :: []) := H120
    show OE p e room_1 below s n0 Q' T120 (mkF m 43 #[.val (.int xa), .val (.int xb), .val (.int xc), .val (.int xd), .val (.int xe), .val (.int xn), .val (.int (5 : Int32)), .val (.ref b1), .unset, .unset, .unset] [(.ref b119)])
    refine o_astore X120 at_43 rfl #[.val (.int xa), .val (.int xb), .val (.int xc), .val (.int xd), .val (.int xe), .val (.int xn), .val (.int (5 : Int32)), .val (.ref b1), .val (.ref b119), .unset, .unset] rfl 45 rfl ?_
    refine o_iload X120 at_45 rfl 47 rfl ?_
    refine o_iconst (v := (1 : Int32)) X120 at_47 rfl 48 rfl ?_
    refine o_icmpLt X120 at_48 57 51 (by decide) (by decide) rfl (fun q => by exfalso; exact absurd q (by decide)) ?_
    intro hc48
    refine o_aload X120 at_51 rfl rfl 53 rfl ?_
    refine o_iloadN X120 at_53 rfl 54 rfl ?_
    have H122 : OL n0 h120 ((b120, OA Z .int [(0 : Int32), (0 : Int32), (0 : Int32), (0 : Int32)]) :: (b119, OO Z "com/example/eratosthenes/eratosthenes/index/IntList" [("com/example/eratosthenes/eratosthenes/index/IntList", "values", "[I", .ref b120), ("com/example/eratosthenes/eratosthenes/index/IntList", "size", "I", .int (0 : Int32))]) :: (b1, OA Z .int [xa, xb, xc, xd, xe]) :: []) := H120.front 1 rfl
    have H123 : OL n0 h120 ((b119, OO Z "com/example/eratosthenes/eratosthenes/index/IntList" [("com/example/eratosthenes/eratosthenes/index/IntList", "values", "[I", .ref b120), ("com/example/eratosthenes/eratosthenes/index/IntList", "size", "I", .int (0 : Int32))]) :: (b120, OA Z .int [(0 : Int32), (0 : Int32), (0 : Int32), (0 : Int32)]) :: (b1, OA Z .int [xa, xb, xc, xd, xe]) :: []) := H122.front 1 rfl
    refine o_callV X120 H123 0 rfl at_54 (rest := []) (c_add0 l Z a0 hw [] n0 _ X120.size b119 b120 xa (0 : Int32) (0 : Int32) (0 : Int32) (0 : Int32) ((b1, OA Z .int [xa, xb, xc, xd, xe]) :: []) H123) (hw _ (List.mem_of_getElem? (i := 12) rfl)) (hw _ (List.mem_of_getElem? (i := 13) rfl)) (hw _ (List.mem_of_getElem? (i := 15) rfl)) (hw _ (List.mem_of_getElem? (i := 14) rfl)) (hw _ (List.mem_of_getElem? (i := 3) rfl)) (hw _ (List.mem_of_getElem? (i := 16) rfl)) (by decide) 0 (by decide) (by decide) rfl [(.int xa)] rfl pd_3 rfl rfl (Nat.le_of_eq rfl) 3 11 rfl rfl (by decide) (by decide) 57 rfl ?_
    rintro _ T121 h121 X121 ⟨rfl, H121⟩
    replace H121 : OL n0 h121 ((b119, OO Z "com/example/eratosthenes/eratosthenes/index/IntList" [("com/example/eratosthenes/eratosthenes/index/IntList", "values", "[I", .ref b120), ("com/example/eratosthenes/eratosthenes/index/IntList", "size", "I", .int (1 : Int32))]) :: (b120, OA Z .int [xa, (0 : Int32), (0 : Int32), (0 : Int32)]) :: (b1, OA Z .int [xa, xb, xc, xd, xe]) :: []) := H121
    show OE p e room_1 below s n0 Q' T121 (mkF m 57 #[.val (.int xa), .val (.int xb), .val (.int xc), .val (.int xd), .val (.int xe), .val (.int xn), .val (.int (5 : Int32)), .val (.ref b1), .val (.ref b119), .unset, .unset] [])
    refine o_iload X121 at_57 rfl 59 rfl ?_
    refine o_iconst (v := (2 : Int32)) X121 at_59 rfl 60 rfl ?_
    refine o_icmpLt X121 at_60 69 63 (by decide) (by decide) rfl (fun q => by exfalso; exact absurd q (by decide)) ?_
    intro hc60
    refine o_aload X121 at_63 rfl rfl 65 rfl ?_
    refine o_iloadN X121 at_65 rfl 66 rfl ?_
    have H125 : OL n0 h121 ((b120, OA Z .int [xa, (0 : Int32), (0 : Int32), (0 : Int32)]) :: (b119, OO Z "com/example/eratosthenes/eratosthenes/index/IntList" [("com/example/eratosthenes/eratosthenes/index/IntList", "values", "[I", .ref b120), ("com/example/eratosthenes/eratosthenes/index/IntList", "size", "I", .int (1 : Int32))]) :: (b1, OA Z .int [xa, xb, xc, xd, xe]) :: []) := H121.front 1 rfl
    have H126 : OL n0 h121 ((b119, OO Z "com/example/eratosthenes/eratosthenes/index/IntList" [("com/example/eratosthenes/eratosthenes/index/IntList", "values", "[I", .ref b120), ("com/example/eratosthenes/eratosthenes/index/IntList", "size", "I", .int (1 : Int32))]) :: (b120, OA Z .int [xa, (0 : Int32), (0 : Int32), (0 : Int32)]) :: (b1, OA Z .int [xa, xb, xc, xd, xe]) :: []) := H125.front 1 rfl
    refine o_callV X121 H126 0 rfl at_66 (rest := []) (c_add1 l Z a0 hw [] n0 _ X121.size b119 b120 xb xa (0 : Int32) (0 : Int32) (0 : Int32) ((b1, OA Z .int [xa, xb, xc, xd, xe]) :: []) H126) (hw _ (List.mem_of_getElem? (i := 12) rfl)) (hw _ (List.mem_of_getElem? (i := 13) rfl)) (hw _ (List.mem_of_getElem? (i := 15) rfl)) (hw _ (List.mem_of_getElem? (i := 14) rfl)) (hw _ (List.mem_of_getElem? (i := 3) rfl)) (hw _ (List.mem_of_getElem? (i := 16) rfl)) (by decide) 0 (by decide) (by decide) rfl [(.int xb)] rfl pd_3 rfl rfl (Nat.le_of_eq rfl) 3 11 rfl rfl (by decide) (by decide) 69 rfl ?_
    rintro _ T124 h124 X124 ⟨rfl, H124⟩
    replace H124 : OL n0 h124 ((b119, OO Z "com/example/eratosthenes/eratosthenes/index/IntList" [("com/example/eratosthenes/eratosthenes/index/IntList", "values", "[I", .ref b120), ("com/example/eratosthenes/eratosthenes/index/IntList", "size", "I", .int (2 : Int32))]) :: (b120, OA Z .int [xa, xb, (0 : Int32), (0 : Int32)]) :: (b1, OA Z .int [xa, xb, xc, xd, xe]) :: []) := H124
    show OE p e room_1 below s n0 Q' T124 (mkF m 69 #[.val (.int xa), .val (.int xb), .val (.int xc), .val (.int xd), .val (.int xe), .val (.int xn), .val (.int (5 : Int32)), .val (.ref b1), .val (.ref b119), .unset, .unset] [])
    refine o_iload X124 at_69 rfl 71 rfl ?_
    refine o_iconst (v := (3 : Int32)) X124 at_71 rfl 72 rfl ?_
    refine o_icmpLt X124 at_72 81 75 (by decide) (by decide) rfl (fun q => by exfalso; exact absurd q (by decide)) ?_
    intro hc72
    refine o_aload X124 at_75 rfl rfl 77 rfl ?_
    refine o_iloadN X124 at_77 rfl 78 rfl ?_
    have H128 : OL n0 h124 ((b120, OA Z .int [xa, xb, (0 : Int32), (0 : Int32)]) :: (b119, OO Z "com/example/eratosthenes/eratosthenes/index/IntList" [("com/example/eratosthenes/eratosthenes/index/IntList", "values", "[I", .ref b120), ("com/example/eratosthenes/eratosthenes/index/IntList", "size", "I", .int (2 : Int32))]) :: (b1, OA Z .int [xa, xb, xc, xd, xe]) :: []) := H124.front 1 rfl
    have H129 : OL n0 h124 ((b119, OO Z "com/example/eratosthenes/eratosthenes/index/IntList" [("com/example/eratosthenes/eratosthenes/index/IntList", "values", "[I", .ref b120), ("com/example/eratosthenes/eratosthenes/index/IntList", "size", "I", .int (2 : Int32))]) :: (b120, OA Z .int [xa, xb, (0 : Int32), (0 : Int32)]) :: (b1, OA Z .int [xa, xb, xc, xd, xe]) :: []) := H128.front 1 rfl
    refine o_callV X124 H129 0 rfl at_78 (rest := []) (c_add2 l Z a0 hw [] n0 _ X124.size b119 b120 xc xa xb (0 : Int32) (0 : Int32) ((b1, OA Z .int [xa, xb, xc, xd, xe]) :: []) H129) (hw _ (List.mem_of_getElem? (i := 12) rfl)) (hw _ (List.mem_of_getElem? (i := 13) rfl)) (hw _ (List.mem_of_getElem? (i := 15) rfl)) (hw _ (List.mem_of_getElem? (i := 14) rfl)) (hw _ (List.mem_of_getElem? (i := 3) rfl)) (hw _ (List.mem_of_getElem? (i := 16) rfl)) (by decide) 0 (by decide) (by decide) rfl [(.int xc)] rfl pd_3 rfl rfl (Nat.le_of_eq rfl) 3 11 rfl rfl (by decide) (by decide) 81 rfl ?_
    rintro _ T127 h127 X127 ⟨rfl, H127⟩
    replace H127 : OL n0 h127 ((b119, OO Z "com/example/eratosthenes/eratosthenes/index/IntList" [("com/example/eratosthenes/eratosthenes/index/IntList", "values", "[I", .ref b120), ("com/example/eratosthenes/eratosthenes/index/IntList", "size", "I", .int (3 : Int32))]) :: (b120, OA Z .int [xa, xb, xc, (0 : Int32)]) :: (b1, OA Z .int [xa, xb, xc, xd, xe]) :: []) := H127
    show OE p e room_1 below s n0 Q' T127 (mkF m 81 #[.val (.int xa), .val (.int xb), .val (.int xc), .val (.int xd), .val (.int xe), .val (.int xn), .val (.int (5 : Int32)), .val (.ref b1), .val (.ref b119), .unset, .unset] [])
    refine o_iload X127 at_81 rfl 83 rfl ?_
    refine o_iconst (v := (4 : Int32)) X127 at_83 rfl 84 rfl ?_
    refine o_icmpLt X127 at_84 93 87 (by decide) (by decide) rfl (fun q => by exfalso; exact absurd q (by decide)) ?_
    intro hc84
    refine o_aload X127 at_87 rfl rfl 89 rfl ?_
    refine o_iloadN X127 at_89 rfl 90 rfl ?_
    have H131 : OL n0 h127 ((b120, OA Z .int [xa, xb, xc, (0 : Int32)]) :: (b119, OO Z "com/example/eratosthenes/eratosthenes/index/IntList" [("com/example/eratosthenes/eratosthenes/index/IntList", "values", "[I", .ref b120), ("com/example/eratosthenes/eratosthenes/index/IntList", "size", "I", .int (3 : Int32))]) :: (b1, OA Z .int [xa, xb, xc, xd, xe]) :: []) := H127.front 1 rfl
    have H132 : OL n0 h127 ((b119, OO Z "com/example/eratosthenes/eratosthenes/index/IntList" [("com/example/eratosthenes/eratosthenes/index/IntList", "values", "[I", .ref b120), ("com/example/eratosthenes/eratosthenes/index/IntList", "size", "I", .int (3 : Int32))]) :: (b120, OA Z .int [xa, xb, xc, (0 : Int32)]) :: (b1, OA Z .int [xa, xb, xc, xd, xe]) :: []) := H131.front 1 rfl
    refine o_callV X127 H132 0 rfl at_90 (rest := []) (c_add3 l Z a0 hw [] n0 _ X127.size b119 b120 xd xa xb xc (0 : Int32) ((b1, OA Z .int [xa, xb, xc, xd, xe]) :: []) H132) (hw _ (List.mem_of_getElem? (i := 12) rfl)) (hw _ (List.mem_of_getElem? (i := 13) rfl)) (hw _ (List.mem_of_getElem? (i := 15) rfl)) (hw _ (List.mem_of_getElem? (i := 14) rfl)) (hw _ (List.mem_of_getElem? (i := 3) rfl)) (hw _ (List.mem_of_getElem? (i := 16) rfl)) (by decide) 0 (by decide) (by decide) rfl [(.int xd)] rfl pd_3 rfl rfl (Nat.le_of_eq rfl) 3 11 rfl rfl (by decide) (by decide) 93 rfl ?_
    rintro _ T130 h130 X130 ⟨rfl, H130⟩
    replace H130 : OL n0 h130 ((b119, OO Z "com/example/eratosthenes/eratosthenes/index/IntList" [("com/example/eratosthenes/eratosthenes/index/IntList", "values", "[I", .ref b120), ("com/example/eratosthenes/eratosthenes/index/IntList", "size", "I", .int (4 : Int32))]) :: (b120, OA Z .int [xa, xb, xc, xd]) :: (b1, OA Z .int [xa, xb, xc, xd, xe]) :: []) := H130
    show OE p e room_1 below s n0 Q' T130 (mkF m 93 #[.val (.int xa), .val (.int xb), .val (.int xc), .val (.int xd), .val (.int xe), .val (.int xn), .val (.int (5 : Int32)), .val (.ref b1), .val (.ref b119), .unset, .unset] [])
    refine o_iload X130 at_93 rfl 95 rfl ?_
    refine o_iconst (v := (5 : Int32)) X130 at_95 rfl 96 rfl ?_
    refine o_icmpLt X130 at_96 106 99 (by decide) (by decide) rfl (fun q => by exfalso; exact absurd q (by decide)) ?_
    intro hc96
    refine o_aload X130 at_99 rfl rfl 101 rfl ?_
    refine o_iload X130 at_101 rfl 103 rfl ?_
    have H134 : OL n0 h130 ((b120, OA Z .int [xa, xb, xc, xd]) :: (b119, OO Z "com/example/eratosthenes/eratosthenes/index/IntList" [("com/example/eratosthenes/eratosthenes/index/IntList", "values", "[I", .ref b120), ("com/example/eratosthenes/eratosthenes/index/IntList", "size", "I", .int (4 : Int32))]) :: (b1, OA Z .int [xa, xb, xc, xd, xe]) :: []) := H130.front 1 rfl
    have H135 : OL n0 h130 ((b119, OO Z "com/example/eratosthenes/eratosthenes/index/IntList" [("com/example/eratosthenes/eratosthenes/index/IntList", "values", "[I", .ref b120), ("com/example/eratosthenes/eratosthenes/index/IntList", "size", "I", .int (4 : Int32))]) :: (b120, OA Z .int [xa, xb, xc, xd]) :: (b1, OA Z .int [xa, xb, xc, xd, xe]) :: []) := H134.front 1 rfl
    refine o_callV X130 H135 0 rfl at_103 (rest := []) (c_add4 l Z a0 hw [] n0 _ X130.size b119 b120 xe xa xb xc xd ((b1, OA Z .int [xa, xb, xc, xd, xe]) :: []) H135) (hw _ (List.mem_of_getElem? (i := 12) rfl)) (hw _ (List.mem_of_getElem? (i := 13) rfl)) (hw _ (List.mem_of_getElem? (i := 15) rfl)) (hw _ (List.mem_of_getElem? (i := 14) rfl)) (hw _ (List.mem_of_getElem? (i := 3) rfl)) (hw _ (List.mem_of_getElem? (i := 16) rfl)) (by decide) 0 (by decide) (by decide) rfl [(.int xe)] rfl pd_3 rfl rfl (Nat.le_of_eq rfl) 4 19 rfl rfl (by decide) (by decide) 106 rfl ?_
    rintro _ T133 h133 X133 ⟨b133, rfl, H133⟩
    replace H133 : OL n0 h133 ((b119, OO Z "com/example/eratosthenes/eratosthenes/index/IntList" [("com/example/eratosthenes/eratosthenes/index/IntList", "values", "[I", .ref b133), ("com/example/eratosthenes/eratosthenes/index/IntList", "size", "I", .int (5 : Int32))]) :: (b133, OA Z .int [xa, xb, xc, xd, xe, (0 : Int32), (0 : Int32), (0 : Int32)]) :: (b120, OA Z .int [xa, xb, xc, xd]) :: (b1, OA Z .int [xa, xb, xc, xd, xe]) :: []) := H133
    show OE p e room_1 below s n0 Q' T133 (mkF m 106 #[.val (.int xa), .val (.int xb), .val (.int xc), .val (.int xd), .val (.int xe), .val (.int xn), .val (.int (5 : Int32)), .val (.ref b1), .val (.ref b119), .unset, .unset] [])
    refine o_aload X133 at_106 rfl rfl 108 rfl ?_
    have H137 : OL n0 h133 ((b133, OA Z .int [xa, xb, xc, xd, xe, (0 : Int32), (0 : Int32), (0 : Int32)]) :: (b119, OO Z "com/example/eratosthenes/eratosthenes/index/IntList" [("com/example/eratosthenes/eratosthenes/index/IntList", "values", "[I", .ref b133), ("com/example/eratosthenes/eratosthenes/index/IntList", "size", "I", .int (5 : Int32))]) :: (b120, OA Z .int [xa, xb, xc, xd]) :: (b1, OA Z .int [xa, xb, xc, xd, xe]) :: []) := H133.front 1 rfl
    have H138 : OL n0 h133 ((b119, OO Z "com/example/eratosthenes/eratosthenes/index/IntList" [("com/example/eratosthenes/eratosthenes/index/IntList", "values", "[I", .ref b133), ("com/example/eratosthenes/eratosthenes/index/IntList", "size", "I", .int (5 : Int32))]) :: (b133, OA Z .int [xa, xb, xc, xd, xe, (0 : Int32), (0 : Int32), (0 : Int32)]) :: (b120, OA Z .int [xa, xb, xc, xd]) :: (b1, OA Z .int [xa, xb, xc, xd, xe]) :: []) := H137.front 1 rfl
    refine o_callV X133 H138 0 rfl at_108 (rest := []) (c_size l Z a0 hw [] n0 _ X133.size b119 b133 (5 : Int32) [xa, xb, xc, xd, xe, (0 : Int32), (0 : Int32), (0 : Int32)] ((b120, OA Z .int [xa, xb, xc, xd]) :: (b1, OA Z .int [xa, xb, xc, xd, xe]) :: []) H138) (hw _ (List.mem_of_getElem? (i := 19) rfl)) (hw _ (List.mem_of_getElem? (i := 20) rfl)) (hw _ (List.mem_of_getElem? (i := 22) rfl)) (hw _ (List.mem_of_getElem? (i := 21) rfl)) (hw _ (List.mem_of_getElem? (i := 3) rfl)) (hw _ (List.mem_of_getElem? (i := 23) rfl)) (by decide) 0 (by decide) (by decide) rfl [] rfl pd_4 rfl rfl (Nat.le_of_eq rfl) 4 19 rfl rfl (by decide) (by decide) 111 rfl ?_
    rintro _ T136 _ X136 ⟨rfl, rfl⟩
    show OE p e room_1 below s n0 Q' T136 (mkF m 111 #[.val (.int xa), .val (.int xb), .val (.int xc), .val (.int xd), .val (.int xe), .val (.int xn), .val (.int (5 : Int32)), .val (.ref b1), .val (.ref b119), .unset, .unset] [(.int (5 : Int32))])
    refine o_iload X136 at_111 rfl 113 rfl ?_
    refine o_icmpEq X136 at_113 118 116 (by decide) (by decide) rfl ?_ (fun q => by exfalso; exact absurd q (by decide))
    intro hc113
    refine o_iload X136 at_118 rfl 120 rfl ?_
    refine o_iconst (v := (5 : Int32)) X136 at_120 rfl 121 rfl ?_
    refine o_icmpNe X136 at_121 129 124 (by decide) (by decide) rfl (fun q => by exfalso; exact absurd q (by decide)) ?_
    intro hc121
    refine o_bipush (v := (8 : Int32)) X136 at_124 rfl 126 rfl ?_
    refine o_goto X136 at_126 130 (by decide) (by decide) ?_
    refine o_istore X136 at_130 #[.val (.int xa), .val (.int xb), .val (.int xc), .val (.int xd), .val (.int xe), .val (.int xn), .val (.int (5 : Int32)), .val (.ref b1), .val (.ref b119), .val (.int (8 : Int32)), .unset] rfl 132 rfl ?_
    refine o_aload X136 at_132 rfl rfl 134 rfl ?_
    have H140 : OL n0 h133 ((b133, OA Z .int [xa, xb, xc, xd, xe, (0 : Int32), (0 : Int32), (0 : Int32)]) :: (b119, OO Z "com/example/eratosthenes/eratosthenes/index/IntList" [("com/example/eratosthenes/eratosthenes/index/IntList", "values", "[I", .ref b133), ("com/example/eratosthenes/eratosthenes/index/IntList", "size", "I", .int (5 : Int32))]) :: (b120, OA Z .int [xa, xb, xc, xd]) :: (b1, OA Z .int [xa, xb, xc, xd, xe]) :: []) := H138.front 1 rfl
    have H141 : OL n0 h133 ((b119, OO Z "com/example/eratosthenes/eratosthenes/index/IntList" [("com/example/eratosthenes/eratosthenes/index/IntList", "values", "[I", .ref b133), ("com/example/eratosthenes/eratosthenes/index/IntList", "size", "I", .int (5 : Int32))]) :: (b133, OA Z .int [xa, xb, xc, xd, xe, (0 : Int32), (0 : Int32), (0 : Int32)]) :: (b120, OA Z .int [xa, xb, xc, xd]) :: (b1, OA Z .int [xa, xb, xc, xd, xe]) :: []) := H140.front 1 rfl
    refine o_callV X136 H141 0 rfl at_134 (rest := []) (c_cap l Z a0 hw [] n0 _ X136.size b119 b133 (5 : Int32) [xa, xb, xc, xd, xe, (0 : Int32), (0 : Int32), (0 : Int32)] ((b120, OA Z .int [xa, xb, xc, xd]) :: (b1, OA Z .int [xa, xb, xc, xd, xe]) :: []) H141) (hw _ (List.mem_of_getElem? (i := 24) rfl)) (hw _ (List.mem_of_getElem? (i := 25) rfl)) (hw _ (List.mem_of_getElem? (i := 27) rfl)) (hw _ (List.mem_of_getElem? (i := 26) rfl)) (hw _ (List.mem_of_getElem? (i := 3) rfl)) (hw _ (List.mem_of_getElem? (i := 28) rfl)) (by decide) 0 (by decide) (by decide) rfl [] rfl pd_5 rfl rfl (Nat.le_of_eq rfl) 4 19 rfl rfl (by decide) (by decide) 137 rfl ?_
    rintro _ T139 _ X139 ⟨rfl, rfl⟩
    rw [show (Int32.ofNat [xa, xb, xc, xd, xe, (0 : Int32), (0 : Int32), (0 : Int32)].length) = (8 : Int32) from rfl]
    show OE p e room_1 below s n0 Q' T139 (mkF m 137 #[.val (.int xa), .val (.int xb), .val (.int xc), .val (.int xd), .val (.int xe), .val (.int xn), .val (.int (5 : Int32)), .val (.ref b1), .val (.ref b119), .val (.int (8 : Int32)), .unset] [(.int (8 : Int32))])
    refine o_iload X139 at_137 rfl 139 rfl ?_
    refine o_icmpEq X139 at_139 144 142 (by decide) (by decide) rfl ?_ (fun q => by exfalso; exact absurd q (by decide))
    intro hc139
    refine o_iload X139 at_144 rfl 146 rfl ?_
    refine o_ifNe X139 at_146 151 149 (by decide) (by decide) rfl ?_ (fun q => by exfalso; exact absurd q (by decide))
    intro hc146
    refine o_aload X139 at_151 rfl rfl 153 rfl ?_
    refine o_iload X139 at_153 rfl 155 rfl ?_
    refine o_iconst (v := (1 : Int32)) X139 at_155 rfl 156 rfl ?_
    refine o_isub X139 at_156 157 rfl ?_
    have H143 : OL n0 h133 ((b133, OA Z .int [xa, xb, xc, xd, xe, (0 : Int32), (0 : Int32), (0 : Int32)]) :: (b119, OO Z "com/example/eratosthenes/eratosthenes/index/IntList" [("com/example/eratosthenes/eratosthenes/index/IntList", "values", "[I", .ref b133), ("com/example/eratosthenes/eratosthenes/index/IntList", "size", "I", .int (5 : Int32))]) :: (b120, OA Z .int [xa, xb, xc, xd]) :: (b1, OA Z .int [xa, xb, xc, xd, xe]) :: []) := H141.front 1 rfl
    have H144 : OL n0 h133 ((b119, OO Z "com/example/eratosthenes/eratosthenes/index/IntList" [("com/example/eratosthenes/eratosthenes/index/IntList", "values", "[I", .ref b133), ("com/example/eratosthenes/eratosthenes/index/IntList", "size", "I", .int (5 : Int32))]) :: (b133, OA Z .int [xa, xb, xc, xd, xe, (0 : Int32), (0 : Int32), (0 : Int32)]) :: (b120, OA Z .int [xa, xb, xc, xd]) :: (b1, OA Z .int [xa, xb, xc, xd, xe]) :: []) := H143.front 1 rfl
    refine o_callV X139 H144 0 rfl at_157 (rest := []) (c_get l Z a0 hw [] n0 _ X139.size b119 b133 (5 : Int32) [xa, xb, xc, xd, xe, (0 : Int32), (0 : Int32), (0 : Int32)] ((b120, OA Z .int [xa, xb, xc, xd]) :: (b1, OA Z .int [xa, xb, xc, xd, xe]) :: []) H144 ((5 : Int32) - (1 : Int32)) 4 rfl xe rfl) (hw _ (List.mem_of_getElem? (i := 29) rfl)) (hw _ (List.mem_of_getElem? (i := 30) rfl)) (hw _ (List.mem_of_getElem? (i := 32) rfl)) (hw _ (List.mem_of_getElem? (i := 31) rfl)) (hw _ (List.mem_of_getElem? (i := 3) rfl)) (hw _ (List.mem_of_getElem? (i := 33) rfl)) (by decide) 0 (by decide) (by decide) rfl [(.int ((5 : Int32) - (1 : Int32)))] rfl pd_6 rfl rfl (Nat.le_of_eq rfl) 4 19 rfl rfl (by decide) (by decide) 160 rfl ?_
    rintro _ T142 _ X142 ⟨rfl, rfl⟩
    show OE p e room_1 below s n0 Q' T142 (mkF m 160 #[.val (.int xa), .val (.int xb), .val (.int xc), .val (.int xd), .val (.int xe), .val (.int xn), .val (.int (5 : Int32)), .val (.ref b1), .val (.ref b119), .val (.int (8 : Int32)), .unset] [(.int xe)])
    refine o_aload X142 at_160 rfl rfl 162 rfl ?_
    refine o_iload X142 at_162 rfl 164 rfl ?_
    refine o_iconst (v := (1 : Int32)) X142 at_164 rfl 165 rfl ?_
    refine o_isub X142 at_165 166 rfl ?_
    refine o_iaload X142 H144 3 rfl at_166 4 rfl xe rfl 167 rfl ?_
    refine o_icmpEq X142 at_167 172 170 (by decide) (by decide) rfl ?_ (fun q => by exfalso; exact absurd rfl q)
    intro hc167
    refine o_iload X142 at_172 rfl 174 rfl ?_
    refine o_iconst (v := (3 : Int32)) X142 at_174 rfl 175 rfl ?_
    refine o_iushr X142 at_175 176 rfl ?_
    refine o_bipush (v := (7 : Int32)) X142 at_176 rfl 178 rfl ?_
    refine o_iand X142 at_178 179 rfl ?_
    refine o_iload X142 at_179 rfl 181 rfl ?_
    refine o_irem X142 at_181 (by decide) 182 rfl ?_
    refine o_istore X142 at_182 #[.val (.int xa), .val (.int xb), .val (.int xc), .val (.int xd), .val (.int xe), .val (.int xn), .val (.int (5 : Int32)), .val (.ref b1), .val (.ref b119), .val (.int (8 : Int32)), .val (.int (((XT.ushr xn (3 : Int32)) &&& (7 : Int32)) % (5 : Int32)))] rfl 184 rfl ?_
    rcases v_j5 (XT.ushr xn 3) with hv | hv | hv | hv | hv
    · rw [hv]
      refine o_aload X142 at_184 rfl rfl 186 rfl ?_
      refine o_iload X142 at_186 rfl 188 rfl ?_
      have H146 : OL n0 h133 ((b133, OA Z .int [xa, xb, xc, xd, xe, (0 : Int32), (0 : Int32), (0 : Int32)]) :: (b119, OO Z "com/example/eratosthenes/eratosthenes/index/IntList" [("com/example/eratosthenes/eratosthenes/index/IntList", "values", "[I", .ref b133), ("com/example/eratosthenes/eratosthenes/index/IntList", "size", "I", .int (5 : Int32))]) :: (b120, OA Z .int [xa, xb, xc, xd]) :: (b1, OA Z .int [xa, xb, xc, xd, xe]) :: []) := H144.front 1 rfl
      have H147 : OL n0 h133 ((b119, OO Z "com/example/eratosthenes/eratosthenes/index/IntList" [("com/example/eratosthenes/eratosthenes/index/IntList", "values", "[I", .ref b133), ("com/example/eratosthenes/eratosthenes/index/IntList", "size", "I", .int (5 : Int32))]) :: (b133, OA Z .int [xa, xb, xc, xd, xe, (0 : Int32), (0 : Int32), (0 : Int32)]) :: (b120, OA Z .int [xa, xb, xc, xd]) :: (b1, OA Z .int [xa, xb, xc, xd, xe]) :: []) := H146.front 1 rfl
      refine o_callV X142 H147 0 rfl at_188 (rest := []) (c_get l Z a0 hw [] n0 _ X142.size b119 b133 (5 : Int32) [xa, xb, xc, xd, xe, (0 : Int32), (0 : Int32), (0 : Int32)] ((b120, OA Z .int [xa, xb, xc, xd]) :: (b1, OA Z .int [xa, xb, xc, xd, xe]) :: []) H147 (0 : Int32) 0 rfl xa rfl) (hw _ (List.mem_of_getElem? (i := 29) rfl)) (hw _ (List.mem_of_getElem? (i := 30) rfl)) (hw _ (List.mem_of_getElem? (i := 32) rfl)) (hw _ (List.mem_of_getElem? (i := 31) rfl)) (hw _ (List.mem_of_getElem? (i := 3) rfl)) (hw _ (List.mem_of_getElem? (i := 33) rfl)) (by decide) 0 (by decide) (by decide) rfl [(.int (0 : Int32))] rfl pd_6 rfl rfl (Nat.le_of_eq rfl) 4 19 rfl rfl (by decide) (by decide) 191 rfl ?_
      rintro _ T145 _ X145 ⟨rfl, rfl⟩
      show OE p e room_1 below s n0 Q' T145 (mkF m 191 #[.val (.int xa), .val (.int xb), .val (.int xc), .val (.int xd), .val (.int xe), .val (.int xn), .val (.int (5 : Int32)), .val (.ref b1), .val (.ref b119), .val (.int (8 : Int32)), .val (.int (0 : Int32))] [(.int xa)])
      refine o_aload X145 at_191 rfl rfl 193 rfl ?_
      refine o_iload X145 at_193 rfl 195 rfl ?_
      refine o_iaload X145 H147 3 rfl at_195 0 rfl xa rfl 196 rfl ?_
      refine o_icmpNe X145 at_196 203 199 (by decide) (by decide) rfl (fun q => by exfalso; exact q rfl) ?_
      intro hc196
      refine o_iconst (v := (1 : Int32)) X145 at_199 rfl 200 rfl ?_
      refine o_goto X145 at_200 204 (by decide) (by decide) ?_
      exact o_retZ X145 at_204 (by decide) (by decide) (hQ _ _ rfl)
    · rw [hv]
      refine o_aload X142 at_184 rfl rfl 186 rfl ?_
      refine o_iload X142 at_186 rfl 188 rfl ?_
      have H149 : OL n0 h133 ((b133, OA Z .int [xa, xb, xc, xd, xe, (0 : Int32), (0 : Int32), (0 : Int32)]) :: (b119, OO Z "com/example/eratosthenes/eratosthenes/index/IntList" [("com/example/eratosthenes/eratosthenes/index/IntList", "values", "[I", .ref b133), ("com/example/eratosthenes/eratosthenes/index/IntList", "size", "I", .int (5 : Int32))]) :: (b120, OA Z .int [xa, xb, xc, xd]) :: (b1, OA Z .int [xa, xb, xc, xd, xe]) :: []) := H144.front 1 rfl
      have H150 : OL n0 h133 ((b119, OO Z "com/example/eratosthenes/eratosthenes/index/IntList" [("com/example/eratosthenes/eratosthenes/index/IntList", "values", "[I", .ref b133), ("com/example/eratosthenes/eratosthenes/index/IntList", "size", "I", .int (5 : Int32))]) :: (b133, OA Z .int [xa, xb, xc, xd, xe, (0 : Int32), (0 : Int32), (0 : Int32)]) :: (b120, OA Z .int [xa, xb, xc, xd]) :: (b1, OA Z .int [xa, xb, xc, xd, xe]) :: []) := H149.front 1 rfl
      refine o_callV X142 H150 0 rfl at_188 (rest := []) (c_get l Z a0 hw [] n0 _ X142.size b119 b133 (5 : Int32) [xa, xb, xc, xd, xe, (0 : Int32), (0 : Int32), (0 : Int32)] ((b120, OA Z .int [xa, xb, xc, xd]) :: (b1, OA Z .int [xa, xb, xc, xd, xe]) :: []) H150 (1 : Int32) 1 rfl xb rfl) (hw _ (List.mem_of_getElem? (i := 29) rfl)) (hw _ (List.mem_of_getElem? (i := 30) rfl)) (hw _ (List.mem_of_getElem? (i := 32) rfl)) (hw _ (List.mem_of_getElem? (i := 31) rfl)) (hw _ (List.mem_of_getElem? (i := 3) rfl)) (hw _ (List.mem_of_getElem? (i := 33) rfl)) (by decide) 0 (by decide) (by decide) rfl [(.int (1 : Int32))] rfl pd_6 rfl rfl (Nat.le_of_eq rfl) 4 19 rfl rfl (by decide) (by decide) 191 rfl ?_
      rintro _ T148 _ X148 ⟨rfl, rfl⟩
      show OE p e room_1 below s n0 Q' T148 (mkF m 191 #[.val (.int xa), .val (.int xb), .val (.int xc), .val (.int xd), .val (.int xe), .val (.int xn), .val (.int (5 : Int32)), .val (.ref b1), .val (.ref b119), .val (.int (8 : Int32)), .val (.int (1 : Int32))] [(.int xb)])
      refine o_aload X148 at_191 rfl rfl 193 rfl ?_
      refine o_iload X148 at_193 rfl 195 rfl ?_
      refine o_iaload X148 H150 3 rfl at_195 1 rfl xb rfl 196 rfl ?_
      refine o_icmpNe X148 at_196 203 199 (by decide) (by decide) rfl (fun q => by exfalso; exact q rfl) ?_
      intro hc196
      refine o_iconst (v := (1 : Int32)) X148 at_199 rfl 200 rfl ?_
      refine o_goto X148 at_200 204 (by decide) (by decide) ?_
      exact o_retZ X148 at_204 (by decide) (by decide) (hQ _ _ rfl)
    · rw [hv]
      refine o_aload X142 at_184 rfl rfl 186 rfl ?_
      refine o_iload X142 at_186 rfl 188 rfl ?_
      have H152 : OL n0 h133 ((b133, OA Z .int [xa, xb, xc, xd, xe, (0 : Int32), (0 : Int32), (0 : Int32)]) :: (b119, OO Z "com/example/eratosthenes/eratosthenes/index/IntList" [("com/example/eratosthenes/eratosthenes/index/IntList", "values", "[I", .ref b133), ("com/example/eratosthenes/eratosthenes/index/IntList", "size", "I", .int (5 : Int32))]) :: (b120, OA Z .int [xa, xb, xc, xd]) :: (b1, OA Z .int [xa, xb, xc, xd, xe]) :: []) := H144.front 1 rfl
      have H153 : OL n0 h133 ((b119, OO Z "com/example/eratosthenes/eratosthenes/index/IntList" [("com/example/eratosthenes/eratosthenes/index/IntList", "values", "[I", .ref b133), ("com/example/eratosthenes/eratosthenes/index/IntList", "size", "I", .int (5 : Int32))]) :: (b133, OA Z .int [xa, xb, xc, xd, xe, (0 : Int32), (0 : Int32), (0 : Int32)]) :: (b120, OA Z .int [xa, xb, xc, xd]) :: (b1, OA Z .int [xa, xb, xc, xd, xe]) :: []) := H152.front 1 rfl
      refine o_callV X142 H153 0 rfl at_188 (rest := []) (c_get l Z a0 hw [] n0 _ X142.size b119 b133 (5 : Int32) [xa, xb, xc, xd, xe, (0 : Int32), (0 : Int32), (0 : Int32)] ((b120, OA Z .int [xa, xb, xc, xd]) :: (b1, OA Z .int [xa, xb, xc, xd, xe]) :: []) H153 (2 : Int32) 2 rfl xc rfl) (hw _ (List.mem_of_getElem? (i := 29) rfl)) (hw _ (List.mem_of_getElem? (i := 30) rfl)) (hw _ (List.mem_of_getElem? (i := 32) rfl)) (hw _ (List.mem_of_getElem? (i := 31) rfl)) (hw _ (List.mem_of_getElem? (i := 3) rfl)) (hw _ (List.mem_of_getElem? (i := 33) rfl)) (by decide) 0 (by decide) (by decide) rfl [(.int (2 : Int32))] rfl pd_6 rfl rfl (Nat.le_of_eq rfl) 4 19 rfl rfl (by decide) (by decide) 191 rfl ?_
      rintro _ T151 _ X151 ⟨rfl, rfl⟩
      show OE p e room_1 below s n0 Q' T151 (mkF m 191 #[.val (.int xa), .val (.int xb), .val (.int xc), .val (.int xd), .val (.int xe), .val (.int xn), .val (.int (5 : Int32)), .val (.ref b1), .val (.ref b119), .val (.int (8 : Int32)), .val (.int (2 : Int32))] [(.int xc)])
      refine o_aload X151 at_191 rfl rfl 193 rfl ?_
      refine o_iload X151 at_193 rfl 195 rfl ?_
      refine o_iaload X151 H153 3 rfl at_195 2 rfl xc rfl 196 rfl ?_
      refine o_icmpNe X151 at_196 203 199 (by decide) (by decide) rfl (fun q => by exfalso; exact q rfl) ?_
      intro hc196
      refine o_iconst (v := (1 : Int32)) X151 at_199 rfl 200 rfl ?_
      refine o_goto X151 at_200 204 (by decide) (by decide) ?_
      exact o_retZ X151 at_204 (by decide) (by decide) (hQ _ _ rfl)
    · rw [hv]
      refine o_aload X142 at_184 rfl rfl 186 rfl ?_
      refine o_iload X142 at_186 rfl 188 rfl ?_
      have H155 : OL n0 h133 ((b133, OA Z .int [xa, xb, xc, xd, xe, (0 : Int32), (0 : Int32), (0 : Int32)]) :: (b119, OO Z "com/example/eratosthenes/eratosthenes/index/IntList" [("com/example/eratosthenes/eratosthenes/index/IntList", "values", "[I", .ref b133), ("com/example/eratosthenes/eratosthenes/index/IntList", "size", "I", .int (5 : Int32))]) :: (b120, OA Z .int [xa, xb, xc, xd]) :: (b1, OA Z .int [xa, xb, xc, xd, xe]) :: []) := H144.front 1 rfl
      have H156 : OL n0 h133 ((b119, OO Z "com/example/eratosthenes/eratosthenes/index/IntList" [("com/example/eratosthenes/eratosthenes/index/IntList", "values", "[I", .ref b133), ("com/example/eratosthenes/eratosthenes/index/IntList", "size", "I", .int (5 : Int32))]) :: (b133, OA Z .int [xa, xb, xc, xd, xe, (0 : Int32), (0 : Int32), (0 : Int32)]) :: (b120, OA Z .int [xa, xb, xc, xd]) :: (b1, OA Z .int [xa, xb, xc, xd, xe]) :: []) := H155.front 1 rfl
      refine o_callV X142 H156 0 rfl at_188 (rest := []) (c_get l Z a0 hw [] n0 _ X142.size b119 b133 (5 : Int32) [xa, xb, xc, xd, xe, (0 : Int32), (0 : Int32), (0 : Int32)] ((b120, OA Z .int [xa, xb, xc, xd]) :: (b1, OA Z .int [xa, xb, xc, xd, xe]) :: []) H156 (3 : Int32) 3 rfl xd rfl) (hw _ (List.mem_of_getElem? (i := 29) rfl)) (hw _ (List.mem_of_getElem? (i := 30) rfl)) (hw _ (List.mem_of_getElem? (i := 32) rfl)) (hw _ (List.mem_of_getElem? (i := 31) rfl)) (hw _ (List.mem_of_getElem? (i := 3) rfl)) (hw _ (List.mem_of_getElem? (i := 33) rfl)) (by decide) 0 (by decide) (by decide) rfl [(.int (3 : Int32))] rfl pd_6 rfl rfl (Nat.le_of_eq rfl) 4 19 rfl rfl (by decide) (by decide) 191 rfl ?_
      rintro _ T154 _ X154 ⟨rfl, rfl⟩
      show OE p e room_1 below s n0 Q' T154 (mkF m 191 #[.val (.int xa), .val (.int xb), .val (.int xc), .val (.int xd), .val (.int xe), .val (.int xn), .val (.int (5 : Int32)), .val (.ref b1), .val (.ref b119), .val (.int (8 : Int32)), .val (.int (3 : Int32))] [(.int xd)])
      refine o_aload X154 at_191 rfl rfl 193 rfl ?_
      refine o_iload X154 at_193 rfl 195 rfl ?_
      refine o_iaload X154 H156 3 rfl at_195 3 rfl xd rfl 196 rfl ?_
      refine o_icmpNe X154 at_196 203 199 (by decide) (by decide) rfl (fun q => by exfalso; exact q rfl) ?_
      intro hc196
      refine o_iconst (v := (1 : Int32)) X154 at_199 rfl 200 rfl ?_
      refine o_goto X154 at_200 204 (by decide) (by decide) ?_
      exact o_retZ X154 at_204 (by decide) (by decide) (hQ _ _ rfl)
    · rw [hv]
      refine o_aload X142 at_184 rfl rfl 186 rfl ?_
      refine o_iload X142 at_186 rfl 188 rfl ?_
      have H158 : OL n0 h133 ((b133, OA Z .int [xa, xb, xc, xd, xe, (0 : Int32), (0 : Int32), (0 : Int32)]) :: (b119, OO Z "com/example/eratosthenes/eratosthenes/index/IntList" [("com/example/eratosthenes/eratosthenes/index/IntList", "values", "[I", .ref b133), ("com/example/eratosthenes/eratosthenes/index/IntList", "size", "I", .int (5 : Int32))]) :: (b120, OA Z .int [xa, xb, xc, xd]) :: (b1, OA Z .int [xa, xb, xc, xd, xe]) :: []) := H144.front 1 rfl
      have H159 : OL n0 h133 ((b119, OO Z "com/example/eratosthenes/eratosthenes/index/IntList" [("com/example/eratosthenes/eratosthenes/index/IntList", "values", "[I", .ref b133), ("com/example/eratosthenes/eratosthenes/index/IntList", "size", "I", .int (5 : Int32))]) :: (b133, OA Z .int [xa, xb, xc, xd, xe, (0 : Int32), (0 : Int32), (0 : Int32)]) :: (b120, OA Z .int [xa, xb, xc, xd]) :: (b1, OA Z .int [xa, xb, xc, xd, xe]) :: []) := H158.front 1 rfl
      refine o_callV X142 H159 0 rfl at_188 (rest := []) (c_get l Z a0 hw [] n0 _ X142.size b119 b133 (5 : Int32) [xa, xb, xc, xd, xe, (0 : Int32), (0 : Int32), (0 : Int32)] ((b120, OA Z .int [xa, xb, xc, xd]) :: (b1, OA Z .int [xa, xb, xc, xd, xe]) :: []) H159 (4 : Int32) 4 rfl xe rfl) (hw _ (List.mem_of_getElem? (i := 29) rfl)) (hw _ (List.mem_of_getElem? (i := 30) rfl)) (hw _ (List.mem_of_getElem? (i := 32) rfl)) (hw _ (List.mem_of_getElem? (i := 31) rfl)) (hw _ (List.mem_of_getElem? (i := 3) rfl)) (hw _ (List.mem_of_getElem? (i := 33) rfl)) (by decide) 0 (by decide) (by decide) rfl [(.int (4 : Int32))] rfl pd_6 rfl rfl (Nat.le_of_eq rfl) 4 19 rfl rfl (by decide) (by decide) 191 rfl ?_
      rintro _ T157 _ X157 ⟨rfl, rfl⟩
      show OE p e room_1 below s n0 Q' T157 (mkF m 191 #[.val (.int xa), .val (.int xb), .val (.int xc), .val (.int xd), .val (.int xe), .val (.int xn), .val (.int (5 : Int32)), .val (.ref b1), .val (.ref b119), .val (.int (8 : Int32)), .val (.int (4 : Int32))] [(.int xe)])
      refine o_aload X157 at_191 rfl rfl 193 rfl ?_
      refine o_iload X157 at_193 rfl 195 rfl ?_
      refine o_iaload X157 H159 3 rfl at_195 4 rfl xe rfl 196 rfl ?_
      refine o_icmpNe X157 at_196 203 199 (by decide) (by decide) rfl (fun q => by exfalso; exact q rfl) ?_
      intro hc196
      refine o_iconst (v := (1 : Int32)) X157 at_199 rfl 200 rfl ?_
      refine o_goto X157 at_200 204 (by decide) (by decide) ?_
      exact o_retZ X157 at_204 (by decide) (by decide) (hQ _ _ rfl)
set_option maxRecDepth 65536 in
set_option maxHeartbeats 40000000 in
theorem comes_1 {Post : Tables → Env → Array Value → State → Outcome → State → Prop} (hpost : ∀ tb e args s v u, (limb_1_1.after args s (.returned v) u = true ∧ limb_1_2.after args s (.returned v) u = true ∧ True) → FrameEnd s (.returned v) u (Jvm.fieldLocs frame_1_writes args s ++ Jvm.arrayLocs frame_1_arrays args s ++ Jvm.staticLocs frame_1_statics s) 16 128 → Post tb e args s (.returned v) u) :
    ArmFor flags0 classFile x code maxLocals ret World_1 tables_1 room_1 Calls_1 rest_1 Pre_1 Post := by
  intro l hfl _ _ p e ha hc hk s m args below hf hA hF happ hP
  obtain ⟨hcalls, hrest, hpre⟩ := hP
  obtain ⟨-, -, -, hnamed, -, -, -, hat⟩ := (Spec.applies_iff hf).mp happ
  obtain ⟨hg, hn⟩ := and_e (Cond.before_iff.mp (show (Jvm.Cond.and given_1 narrow_1).before args s = true from hpre))
  obtain ⟨hcnt, hg0⟩ := and_e hg
  obtain ⟨ha0, hg1⟩ := and_e hg0
  obtain ⟨ha1, hg2⟩ := and_e hg1
  obtain ⟨ha2, hg3⟩ := and_e hg2
  obtain ⟨ha3, hg4⟩ := and_e hg3
  obtain ⟨ha4, hg5⟩ := and_e hg4
  have ha5 := hg5
  obtain ⟨w0, w1, w2, w3, w4, w5, rfl⟩ : ∃ w0 w1 w2 w3 w4 w5 : Value, args = #[w0, w1, w2, w3, w4, w5] := by
    have hs : args.size = 6 := by simpa [Cond.value, given_1] using hcnt
    obtain ⟨L⟩ := args
    match L, hs with
    | [w0, w1, w2, w3, w4, w5], _ => exact ⟨w0, w1, w2, w3, w4, w5, rfl⟩
  have hw := fun d (hd : d ∈ tables_1) => atoms_spec (ws := Jvm.Cond.code x code maxLocals ret :: tables_1) hat d (List.mem_cons_of_mem _ hd)
  obtain ⟨i0, ei0⟩ := is_v ha0
  obtain rfl : w0 = (.int i0) := Option.some.inj ei0
  obtain ⟨i1, ei1⟩ := is_v ha1
  obtain rfl : w1 = (.int i1) := Option.some.inj ei1
  obtain ⟨i2, ei2⟩ := is_v ha2
  obtain rfl : w2 = (.int i2) := Option.some.inj ei2
  obtain ⟨i3, ei3⟩ := is_v ha3
  obtain rfl : w3 = (.int i3) := Option.some.inj ei3
  obtain ⟨i4, ei4⟩ := is_v ha4
  obtain rfl : w4 = (.int i4) := Option.some.inj ei4
  obtain ⟨i5, ei5⟩ := is_v ha5
  obtain rfl : w5 = (.int i5) := Option.some.inj ei5
  obtain ⟨n, o, h1, h2, h3, _, L, rfl, ⟨rfl, N⟩, hq⟩ := c_law l s _ hw tables_1 s.heap.size s.heap (Nat.le_refl _) i0 i1 i2 i3 i4 i5 p e ha hc hk s m _ below hf ((Spec.applies_iff_loose hf).mp happ).1 ⟨rfl, State.Warmed39.refl s, rfl⟩ trivial
  refine ⟨n, _, h1, h2, h3, hpost _ _ _ _ _ _ ⟨Cond.after_iff.mpr rfl, Cond.after_iff.mpr (eq_i res_at (Term.int_eval (1)) rfl), trivial⟩ ⟨hq.1, hq.2.1, (hq.2.2.sift fun y hy => Or.inr (N y hy)).mono (by decide) (by decide)⟩⟩
theorem main_1_1 : Claimed_1_1 := comes_1 fun _ _ _ _ _ _ h hF => ⟨h.1, hF⟩
theorem main_1_2 : Claimed_1_2 := comes_1 fun _ _ _ _ _ _ h hF => ⟨h.2.1, hF⟩
end Jvm.Pilot.@@N@@
namespace Jvm.Pilot.@@N@@
open Jvm Jvm.ClassFile Sem Op Lib Jvm.Free Jvm.Stand Jvm.Pilot.@@N@@.Jvm.D
/-! MADE BY PROGRAM (witnessworld.py) out of the Statement's table words and the real class files: 12 classes; the members and pool entries that the words name. The judged class is class 1, her method 1. -/
namespace start1
open Jvm.ClassFile
def u (s : String) : CpInfo := .utf8 (stringToUtf16 s)
/-- a pool by its gaps: so many unusable entries, then the entry; so many at the end -/
def gap : Nat → List CpInfo → List CpInfo
  | 0, r => r
  | n + 1, r => .unusable :: gap n r
def poolList (es : List (Nat × CpInfo)) (last : Nat) : List CpInfo := es.foldr (fun e r => gap e.1 (e.2 :: r)) (gap last [])
def pool (es : List (Nat × CpInfo)) (last : Nat) : Array CpInfo := ⟨poolList es last⟩
def fileOf (pool : Array CpInfo) (this : Nat) (attrs : Array Attribute := #[]) (ms : Array MethodInfo := #[]) (fl : Nat := 33) (sup : Nat := 0) (ifs : Array Nat := #[]) (fds : Array FieldInfo := #[]) : ClassFile where
  minorVersion := 0
  majorVersion := 65
  constantPool := pool
  accessFlags := fl
  thisClass := this
  superClass := sup
  interfaces := ifs
  fields := fds
  methods := ms
  attributes := attrs
def plain (name : String) (sup : Option ClassId) : Class where
  name := name
  kind := .ordinary
  loader := none
  accessFlags := 33
  super := sup
  interfaces := #[]
  cf := none
  fields := #[]
  methods := #[]
  instanceTypes := #[]
  staticTypes := #[]
  resolved := #[]
  callSites := []
  init := .initialized
  statics := none
  mirror := none

def pool0 : Array CpInfo := pool [(5, u "<init>"), (0, u "()V"), (1, .class_ 10), (1, u "java/lang/Object")] 113

def k0c0 : Code := { maxStack := 0, maxLocals := 1, code := object_method_1_code, exceptionTable := #[], attributes := #[] }
def k0m0 : Method := { name := "<init>", desc := "()V", sig := { parameters := [], returnType := none }, accessFlags := 1, code := some k0c0 }
/-- java/lang/Object -/
def k0 : Class := { plain "java/lang/Object" none with
  accessFlags := 33
  interfaces := #[]
  cf := some (fileOf pool0 8 #[] #[{ accessFlags := 1, nameIndex := 5, descriptorIndex := 6, attributes := #[] }] 33 0 #[] #[])
  fields := #[]
  methods := #[k0m0]
  instanceTypes := #[]
  staticTypes := #[]
  resolved := Array.replicate 124 none
  statics := none }

def pool1 : Array CpInfo := pool [(2, .class_ 4), (0, .nameAndType 5 6), (0, u "java/lang/Object"), (0, u "<init>"), (0, u "()V"), (0, .class_ 8), (0, u "com/example/eratosthenes/eratosthenes/index/IntList"), (0, .methodref 7 3), (0, .methodref 7 11), (0, .nameAndType 12 13), (0, u "add"), (0, u "(I)V"), (0, .methodref 7 15), (0, .nameAndType 16 17), (0, u "size"), (0, u "()I"), (0, .methodref 7 19), (0, .nameAndType 20 17), (0, u "capacity"), (0, .methodref 7 22), (0, .nameAndType 23 24), (0, u "get"), (0, u "(I)I"), (0, .class_ 26), (0, u "com/example/eratosthenes/eratosthenes/index/IntListAddPinLaw"), (2, u "law"), (0, u "(IIIIII)Z")] 5

def k1m0 : Method := { name := "<init>", desc := "()V", sig := { parameters := [], returnType := none }, accessFlags := 1, code := none }
def k1c1 : Code := { maxStack := 4, maxLocals := 11, code := code, exceptionTable := #[], attributes := #[] }
def k1m1 : Method := { name := "law", desc := "(IIIIII)Z", sig := { parameters := [.int, .int, .int, .int, .int, .int], returnType := some .boolean }, accessFlags := 9, code := some k1c1 }
/-- com/example/eratosthenes/eratosthenes/index/IntListAddPinLaw -/
def k1 : Class := { plain "com/example/eratosthenes/eratosthenes/index/IntListAddPinLaw" (some 0) with
  accessFlags := 49
  interfaces := #[]
  cf := some (fileOf pool1 25 #[] #[{ accessFlags := 1, nameIndex := 5, descriptorIndex := 6, attributes := #[] }, { accessFlags := 9, nameIndex := 29, descriptorIndex := 30, attributes := #[] }] 49 2 #[] #[])
  fields := #[]
  methods := #[k1m0, k1m1]
  instanceTypes := #[]
  staticTypes := #[]
  resolved := Array.replicate 36 none
  statics := none }

def pool2 : Array CpInfo := pool [(1, .methodref 2 3), (0, .class_ 4), (0, .nameAndType 5 6), (0, u "java/lang/Object"), (0, u "<init>"), (0, u "()V"), (0, .fieldref 8 9), (0, .class_ 10), (0, .nameAndType 11 12), (0, u "com/example/eratosthenes/eratosthenes/index/IntList"), (0, u "values"), (0, u "[I"), (0, .fieldref 8 14), (0, .nameAndType 15 16), (0, u "size"), (0, u "I"), (0, .methodref 18 19), (0, .class_ 20), (0, .nameAndType 21 22), (0, u "java/util/Arrays"), (0, u "copyOf"), (0, u "([II)[I"), (2, u "add"), (0, u "(I)V"), (1, u "get"), (0, u "(I)I"), (2, u "()I"), (0, u "capacity")] 2

def k2c0 : Code := { maxStack := 2, maxLocals := 1, code := prog_10_method_1_code, exceptionTable := #[], attributes := #[] }
def k2m0 : Method := { name := "<init>", desc := "()V", sig := { parameters := [], returnType := none }, accessFlags := 0, code := some k2c0 }
def k2c1 : Code := { maxStack := 5, maxLocals := 2, code := prog_10_method_2_code, exceptionTable := #[], attributes := #[] }
def k2m1 : Method := { name := "add", desc := "(I)V", sig := { parameters := [.int], returnType := none }, accessFlags := 0, code := some k2c1 }
def k2c2 : Code := { maxStack := 2, maxLocals := 2, code := prog_10_method_3_code, exceptionTable := #[], attributes := #[] }
def k2m2 : Method := { name := "get", desc := "(I)I", sig := { parameters := [.int], returnType := some .int }, accessFlags := 0, code := some k2c2 }
def k2c3 : Code := { maxStack := 1, maxLocals := 1, code := prog_10_method_5_code, exceptionTable := #[], attributes := #[] }
def k2m3 : Method := { name := "size", desc := "()I", sig := { parameters := [], returnType := some .int }, accessFlags := 0, code := some k2c3 }
def k2c4 : Code := { maxStack := 1, maxLocals := 1, code := prog_10_method_6_code, exceptionTable := #[], attributes := #[] }
def k2m4 : Method := { name := "capacity", desc := "()I", sig := { parameters := [], returnType := some .int }, accessFlags := 0, code := some k2c4 }
/-- com/example/eratosthenes/eratosthenes/index/IntList -/
def k2 : Class := { plain "com/example/eratosthenes/eratosthenes/index/IntList" (some 0) with
  accessFlags := 32
  interfaces := #[]
  cf := some (fileOf pool2 8 #[] #[{ accessFlags := 0, nameIndex := 5, descriptorIndex := 6, attributes := #[] }, { accessFlags := 0, nameIndex := 25, descriptorIndex := 26, attributes := #[] }, { accessFlags := 0, nameIndex := 28, descriptorIndex := 29, attributes := #[] }, { accessFlags := 0, nameIndex := 15, descriptorIndex := 32, attributes := #[] }, { accessFlags := 0, nameIndex := 33, descriptorIndex := 32, attributes := #[] }] 32 2 #[] #[{ accessFlags := 2, nameIndex := 11, descriptorIndex := 12, attributes := #[] }, { accessFlags := 2, nameIndex := 15, descriptorIndex := 16, attributes := #[] }])
  fields := #[{ name := "values", type := (.array .int), accessFlags := 2, slot := 0, constantValue := 0 }, { name := "size", type := .int, accessFlags := 2, slot := 1, constantValue := 0 }]
  methods := #[k2m0, k2m1, k2m2, k2m3, k2m4]
  instanceTypes := #[(.array .int), .int]
  staticTypes := #[]
  resolved := Array.replicate 36 none
  statics := none }

def pool3 : Array CpInfo := pool [(2, .class_ 4), (1, u "java/lang/Object"), (0, u "<init>"), (0, u "()V"), (7, .class_ 16), (1, u "java/util/Arrays"), (57, .class_ 76), (1, u "java/util/Arrays$NaturalOrder"), (36, .class_ 115), (1, u "java/util/Arrays$LegacyMergeSort"), (1, u "Z"), (32, .methodref 151 152), (0, .class_ 153), (0, .nameAndType 154 155), (0, u "java/lang/System"), (0, u "arraycopy"), (0, u "(Ljava/lang/Object;ILjava/lang/Object;II)V"), (146, u "copyOf"), (1, .methodref 305 306), (0, .class_ 307), (0, .nameAndType 308 309), (0, u "java/lang/Math"), (0, u "min"), (0, u "(II)I"), (65, .class_ 376), (0, u "java/util/Arrays$ArrayList"), (68, u "$assertionsDisabled"), (269, u "MIN_ARRAY_SORT_GRAN"), (0, u "I"), (2, u "INSERTIONSORT_THRESHOLD"), (151, u "([II)[I"), (103, .class_ 976), (0, u "java/util/Arrays$ArrayItr")] 52

def k3m0 : Method := { name := "<init>", desc := "()V", sig := { parameters := [], returnType := none }, accessFlags := 2, code := none }
def k3c1 : Code := { maxStack := 6, maxLocals := 3, code := jdk_65_method_123_code, exceptionTable := #[], attributes := #[] }
def k3m1 : Method := { name := "copyOf", desc := "([II)[I", sig := { parameters := [(.array .int), .int], returnType := some (.array .int) }, accessFlags := 9, code := some k3c1 }
/-- java/util/Arrays -/
def k3 : Class := { plain "java/util/Arrays" (some 0) with
  accessFlags := 49
  interfaces := #[]
  cf := some (fileOf pool3 14 #[.nestMembers #[975, 375, 113, 74]] #[{ accessFlags := 2, nameIndex := 5, descriptorIndex := 6, attributes := #[] }, { accessFlags := 9, nameIndex := 302, descriptorIndex := 871, attributes := #[] }] 49 2 #[] #[{ accessFlags := 26, nameIndex := 715, descriptorIndex := 716, attributes := #[] }, { accessFlags := 26, nameIndex := 719, descriptorIndex := 716, attributes := #[] }, { accessFlags := 4120, nameIndex := 445, descriptorIndex := 117, attributes := #[] }])
  fields := #[{ name := "MIN_ARRAY_SORT_GRAN", type := .int, accessFlags := 26, slot := 0, constantValue := 0 }, { name := "INSERTIONSORT_THRESHOLD", type := .int, accessFlags := 26, slot := 1, constantValue := 0 }, { name := "$assertionsDisabled", type := .boolean, accessFlags := 4120, slot := 2, constantValue := 0 }]
  methods := #[k3m0, k3m1]
  instanceTypes := #[]
  staticTypes := #[.int, .int, .boolean]
  resolved := Array.replicate 1029 none
  statics := none }

def pool4 : Array CpInfo := pool [(1, .class_ 2), (0, u "java/lang/Math"), (1, .class_ 6), (1, u "java/lang/Object"), (0, u "<init>"), (0, u "()V"), (89, .class_ 100), (1, u "java/lang/Math$RandomNumberGeneratorHolder"), (71, u "negativeZeroFloatBits"), (0, u "J"), (2, u "negativeZeroDoubleBits"), (24, u "min"), (43, u "$assertionsDisabled"), (0, u "Z"), (88, u "(II)I"), (2, u "twoToTheDoubleScaleDown"), (0, u "D"), (4, u "twoToTheDoubleScaleUp"), (9, u "E"), (3, u "PI"), (2, u "TAU"), (2, u "DEGREES_TO_RADIANS"), (0, u "RADIANS_TO_DEGREES")] 94

def k4m0 : Method := { name := "<init>", desc := "()V", sig := { parameters := [], returnType := none }, accessFlags := 2, code := none }
def k4c1 : Code := { maxStack := 2, maxLocals := 2, code := jdk_29_method_69_code, exceptionTable := #[], attributes := #[] }
def k4m1 : Method := { name := "min", desc := "(II)I", sig := { parameters := [.int, .int], returnType := some .int }, accessFlags := 9, code := some k4c1 }
/-- java/lang/Math -/
def k4 : Class := { plain "java/lang/Math" (some 0) with
  accessFlags := 49
  interfaces := #[]
  cf := some (fileOf pool4 1 #[.nestMembers #[98]] #[{ accessFlags := 2, nameIndex := 7, descriptorIndex := 8, attributes := #[] }, { accessFlags := 9, nameIndex := 201, descriptorIndex := 335, attributes := #[] }] 49 4 #[] #[{ accessFlags := 25, nameIndex := 354, descriptorIndex := 339, attributes := #[] }, { accessFlags := 25, nameIndex := 358, descriptorIndex := 339, attributes := #[] }, { accessFlags := 25, nameIndex := 361, descriptorIndex := 339, attributes := #[] }, { accessFlags := 26, nameIndex := 364, descriptorIndex := 339, attributes := #[] }, { accessFlags := 26, nameIndex := 365, descriptorIndex := 339, attributes := #[] }, { accessFlags := 26, nameIndex := 172, descriptorIndex := 173, attributes := #[] }, { accessFlags := 26, nameIndex := 176, descriptorIndex := 173, attributes := #[] }, { accessFlags := 8, nameIndex := 344, descriptorIndex := 339, attributes := #[] }, { accessFlags := 8, nameIndex := 338, descriptorIndex := 339, attributes := #[] }, { accessFlags := 4120, nameIndex := 245, descriptorIndex := 246, attributes := #[] }])
  fields := #[{ name := "E", type := .double, accessFlags := 25, slot := 0, constantValue := 0 }, { name := "PI", type := .double, accessFlags := 25, slot := 1, constantValue := 0 }, { name := "TAU", type := .double, accessFlags := 25, slot := 2, constantValue := 0 }, { name := "DEGREES_TO_RADIANS", type := .double, accessFlags := 26, slot := 3, constantValue := 0 }, { name := "RADIANS_TO_DEGREES", type := .double, accessFlags := 26, slot := 4, constantValue := 0 }, { name := "negativeZeroFloatBits", type := .long, accessFlags := 26, slot := 5, constantValue := 0 }, { name := "negativeZeroDoubleBits", type := .long, accessFlags := 26, slot := 6, constantValue := 0 }, { name := "twoToTheDoubleScaleUp", type := .double, accessFlags := 8, slot := 7, constantValue := 0 }, { name := "twoToTheDoubleScaleDown", type := .double, accessFlags := 8, slot := 8, constantValue := 0 }, { name := "$assertionsDisabled", type := .boolean, accessFlags := 4120, slot := 9, constantValue := 0 }]
  methods := #[k4m0, k4m1]
  instanceTypes := #[]
  staticTypes := #[.double, .double, .double, .double, .double, .long, .long, .double, .double, .boolean]
  resolved := Array.replicate 460 none
  statics := none }

def pool5 : Array CpInfo := pool [(2, .class_ 4), (1, u "java/lang/Object"), (0, u "<init>"), (0, u "()V"), (1, .class_ 10), (1, u "java/lang/System"), (0, u "allowSecurityManager"), (0, u "I"), (16, u "cons"), (0, u "Ljava/io/Console;"), (77, .class_ 110), (1, u "java/lang/System$CallersHolder"), (43, u "initialErrStream"), (0, u "Ljava/io/PrintStream;"), (19, u "security"), (0, u "Ljava/lang/SecurityManager;"), (31, .class_ 209), (0, u "java/lang/System$1"), (7, u "props"), (0, u "Ljava/util/Properties;"), (2, u "lineSeparator"), (0, u "Ljava/lang/String;"), (96, .class_ 321), (1, u "java/lang/System$LoggerFinder"), (5, .class_ 328), (0, u "java/lang/System$Logger"), (67, u "err"), (2, u "out"), (91, u "notSupportedJnuEncoding"), (15, u "in"), (17, u "initialIn"), (0, u "Ljava/io/InputStream;"), (35, u "bootLayer"), (0, u "Ljava/lang/ModuleLayer;"), (99, .class_ 664), (0, u "java/lang/System$2"), (9, u "NEVER"), (2, u "MAYBE"), (49, u "arraycopy"), (0, u "(Ljava/lang/Object;ILjava/lang/Object;II)V"), (72, .class_ 802), (0, u "java/lang/System$Logger$Level")] 31

def k5m0 : Method := { name := "<init>", desc := "()V", sig := { parameters := [], returnType := none }, accessFlags := 2, code := none }
def k5m1 : Method := { name := "arraycopy", desc := "(Ljava/lang/Object;ILjava/lang/Object;II)V", sig := { parameters := [(.object "java/lang/Object"), .int, (.object "java/lang/Object"), .int, .int], returnType := none }, accessFlags := 265, code := none }
/-- java/lang/System -/
def k5 : Class := { plain "java/lang/System" (some 0) with
  accessFlags := 49
  interfaces := #[]
  cf := some (fileOf pool5 8 #[.nestMembers #[319, 327, 801, 108, 663, 208]] #[{ accessFlags := 2, nameIndex := 5, descriptorIndex := 6, attributes := #[] }, { accessFlags := 265, nameIndex := 727, descriptorIndex := 728, attributes := #[] }] 49 2 #[] #[{ accessFlags := 25, nameIndex := 507, descriptorIndex := 526, attributes := #[] }, { accessFlags := 25, nameIndex := 399, descriptorIndex := 155, attributes := #[] }, { accessFlags := 25, nameIndex := 396, descriptorIndex := 155, attributes := #[] }, { accessFlags := 10, nameIndex := 525, descriptorIndex := 526, attributes := #[] }, { accessFlags := 26, nameIndex := 674, descriptorIndex := 12, attributes := #[] }, { accessFlags := 26, nameIndex := 677, descriptorIndex := 12, attributes := #[] }, { accessFlags := 10, nameIndex := 11, descriptorIndex := 12, attributes := #[] }, { accessFlags := 74, nameIndex := 175, descriptorIndex := 176, attributes := #[] }, { accessFlags := 10, nameIndex := 491, descriptorIndex := 222, attributes := #[] }, { accessFlags := 74, nameIndex := 29, descriptorIndex := 30, attributes := #[] }, { accessFlags := 74, nameIndex := 154, descriptorIndex := 155, attributes := #[] }, { accessFlags := 10, nameIndex := 217, descriptorIndex := 218, attributes := #[] }, { accessFlags := 10, nameIndex := 221, descriptorIndex := 222, attributes := #[] }, { accessFlags := 8, nameIndex := 562, descriptorIndex := 563, attributes := #[] }])
  fields := #[{ name := "in", type := (.object "java/io/InputStream"), accessFlags := 25, slot := 0, constantValue := 0 }, { name := "out", type := (.object "java/io/PrintStream"), accessFlags := 25, slot := 1, constantValue := 0 }, { name := "err", type := (.object "java/io/PrintStream"), accessFlags := 25, slot := 2, constantValue := 0 }, { name := "initialIn", type := (.object "java/io/InputStream"), accessFlags := 10, slot := 3, constantValue := 0 }, { name := "NEVER", type := .int, accessFlags := 26, slot := 4, constantValue := 0 }, { name := "MAYBE", type := .int, accessFlags := 26, slot := 5, constantValue := 0 }, { name := "allowSecurityManager", type := .int, accessFlags := 10, slot := 6, constantValue := 0 }, { name := "security", type := (.object "java/lang/SecurityManager"), accessFlags := 74, slot := 7, constantValue := 0 }, { name := "notSupportedJnuEncoding", type := (.object "java/lang/String"), accessFlags := 10, slot := 8, constantValue := 0 }, { name := "cons", type := (.object "java/io/Console"), accessFlags := 74, slot := 9, constantValue := 0 }, { name := "initialErrStream", type := (.object "java/io/PrintStream"), accessFlags := 74, slot := 10, constantValue := 0 }, { name := "props", type := (.object "java/util/Properties"), accessFlags := 10, slot := 11, constantValue := 0 }, { name := "lineSeparator", type := (.object "java/lang/String"), accessFlags := 10, slot := 12, constantValue := 0 }, { name := "bootLayer", type := (.object "java/lang/ModuleLayer"), accessFlags := 8, slot := 13, constantValue := 0 }]
  methods := #[k5m0, k5m1]
  instanceTypes := #[]
  staticTypes := #[(.object "java/io/InputStream"), (.object "java/io/PrintStream"), (.object "java/io/PrintStream"), (.object "java/io/InputStream"), .int, .int, .int, (.object "java/lang/SecurityManager"), (.object "java/lang/String"), (.object "java/io/Console"), (.object "java/io/PrintStream"), (.object "java/util/Properties"), (.object "java/lang/String"), (.object "java/lang/ModuleLayer")]
  resolved := Array.replicate 834 none
  statics := none }

def pool6 : Array CpInfo := pool [(1, u "java/lang/Cloneable"), (0, .class_ 1), (0, u "java/lang/Object"), (0, .class_ 3)] 3

/-- java/lang/Cloneable -/
def k6 : Class := { plain "java/lang/Cloneable" (some 0) with
  accessFlags := 1537
  interfaces := #[]
  cf := some (fileOf pool6 2 #[] #[] 1537 4 #[] #[])
  fields := #[]
  methods := #[]
  instanceTypes := #[]
  staticTypes := #[]
  resolved := Array.replicate 8 none
  statics := none }

def pool7 : Array CpInfo := pool [(1, u "java/io/Serializable"), (0, .class_ 1), (0, u "java/lang/Object"), (0, .class_ 3)] 3

/-- java/io/Serializable -/
def k7 : Class := { plain "java/io/Serializable" (some 0) with
  accessFlags := 1537
  interfaces := #[]
  cf := some (fileOf pool7 2 #[] #[] 1537 4 #[] #[])
  fields := #[]
  methods := #[]
  instanceTypes := #[]
  staticTypes := #[]
  resolved := Array.replicate 8 none
  statics := none }

/-- the primitive byte -/
def k8 : Class := { plain "byte" none with kind := .primitive 'B', accessFlags := 0x411 }
/-- [B -/
def k9 : Class := { plain "[B" (some 0) with kind := .array 8 .byte, interfaces := #[6, 7], accessFlags := 1041 }

/-- the primitive int -/
def k10 : Class := { plain "int" none with kind := .primitive 'I', accessFlags := 0x411 }
/-- [I -/
def k11 : Class := { plain "[I" (some 0) with kind := .array 10 .int, interfaces := #[6, 7], accessFlags := 1041 }

def heap : Heap := #[]
def classes : Array Class := #[k0, k1, k2, k3, k4, k5, k6, k7, k8, k9, k10, k11]
def interned : List (Array UInt16 × Addr) := []
def slotsUsed : Nat := 0
def theMethod : MethodId := ⟨1, 1⟩
def args0 : Array Value := #[.int 5, .int 3, .int 4, .int 2, .int 1, .int 9]
def aboutOver (below : List Frame) : State where
  vm := { classes := classes, interned := interned.toArray }
  heap := heap
  slotsUsed := slotsUsed
  threads := #[{ frames := .invoking theMethod args0 :: below }]
def below0 : List Frame := [.native { method := ⟨0, 0⟩, args := #[] }]
def about1 : State := aboutOver below0
def p0 : Program := .bare "" "" ""
def e0 : Env := launch0.env 0 0 0
theorem w_frames : about1.frames = Frame.invoking theMethod args0 :: below0 := rfl
set_option maxRecDepth 65536 in
theorem w_args : argsFit about1.vm theMethod args0 = true := by decide +kernel
set_option maxRecDepth 65536 in
theorem w_heap : heapFits about1 = true := by decide +kernel
set_option maxRecDepth 65536 in
theorem w_runnable : about1.curStatus? = some .runnable := by decide +kernel
set_option maxRecDepth 65536 in
theorem w_alone : about1.alone = true := by decide +kernel
set_option maxRecDepth 65536 in
theorem w_named : about1.methodNamed? x = some theMethod := by decide +kernel
set_option maxRecDepth 65536 in
theorem w_hears : about1.hears theMethod below0 = true := by decide +kernel
set_option maxRecDepth 65536 in
theorem w_ripe : about1.ripe theMethod args0 below0 = true := by decide +kernel
theorem w_running : about1.status = .running := rfl
set_option maxRecDepth 65536 in
theorem w_room : about1.hasRoom e0.platform room_1 = true :=
  launch0.hasRoom_least _ room_1 (by decide +kernel) (by decide +kernel) (by decide +kernel) (by decide +kernel) (by decide +kernel) (by decide +kernel)
theorem allAtoms_all (ts : List Jvm.Cond) (a : Array Jvm.Value) (st : Jvm.State) : (allAtoms ts).before a st = ts.all (fun c => c.before a st) := by
  induction ts with
  | nil => rfl
  | cons c t ih =>
    show (Jvm.Cond.and c (allAtoms t)).before a st = _
    rw [Jvm.Cond.before_and, ih, List.all_cons]
def words1 : List Jvm.Cond := Jvm.Cond.code x code maxLocals ret :: tables_1
/-- a 'code' word, met by the world's own term for the bytes: nothing is compared byte by byte -/
theorem code_word {y : MethodName} {bytes : ByteArray} {mx : Nat} {rt : Option FieldType} {a : Array Value} {s : State} {m : MethodId} {meth : Method} {c : Code} (h1 : s.methodNamed? y = some m) (h2 : s.vm.method? m = some meth) (h3 : meth.code = some c) (h4 : c.code = bytes)
    (h5 : (c.maxLocals == mx && c.exceptionTable.isEmpty && decide (c.maxStack ≤ mostOperands) && decide (meth.sig.returnType = rt) && !meth.locks && decide (parseMethodDescriptor y.desc = some meth.sig)) = true) : (Jvm.Cond.code y bytes mx rt).before a s = true := by
  simp only [Bool.and_eq_true, beq_iff_eq, Bool.not_eq_true', decide_eq_true_eq] at h5
  obtain ⟨⟨⟨⟨⟨g1, g2⟩, g3⟩, g4⟩, g5⟩, g6⟩ := h5
  simp [Cond.before, Cond.holds, Cond.value, h1, h2, h3, h4, g1, g2, g3, g4, g5, g6]
def isCode : Jvm.Cond → Bool
  | .code _ _ _ _ => true
  | _ => false
theorem all_split {L : List Jvm.Cond} {P : Jvm.Cond → Bool} (h1 : L.all (fun c => isCode c || P c) = true) (h2 : ∀ c ∈ L.filter isCode, P c = true) : L.all P = true := by
  refine List.all_eq_true.mpr fun c hc => ?_
  have h := List.all_eq_true.mp h1 c hc
  rcases Bool.eq_false_or_eq_true (isCode c) with hi | hi
  · exact h2 c (List.mem_filter.mpr ⟨hc, hi⟩)
  · simpa [hi] using h
set_option maxRecDepth 65536 in
theorem w_c0 : (Jvm.Cond.code x code maxLocals ret).before args0 about1 = true := code_word (m := ⟨1, 1⟩) (meth := k1m1) (c := k1c1) (by decide +kernel) rfl rfl rfl (by decide +kernel)
set_option maxRecDepth 65536 in
theorem w_c1 : (Jvm.Cond.code ({ cls := "com/example/eratosthenes/eratosthenes/index/IntList", name := "<init>", desc := "()V" } : Jvm.MethodName) prog_10_method_1_code (1 : Nat) (Option.none : Option Jvm.ClassFile.FieldType)).before args0 about1 = true := code_word (m := ⟨2, 0⟩) (meth := k2m0) (c := k2c0) (by decide +kernel) rfl rfl rfl (by decide +kernel)
set_option maxRecDepth 65536 in
theorem w_c2 : (Jvm.Cond.code ({ cls := "java/lang/Object", name := "<init>", desc := "()V" } : Jvm.MethodName) object_method_1_code (1 : Nat) (Option.none : Option Jvm.ClassFile.FieldType)).before args0 about1 = true := code_word (m := ⟨0, 0⟩) (meth := k0m0) (c := k0c0) (by decide +kernel) rfl rfl rfl (by decide +kernel)
set_option maxRecDepth 65536 in
theorem w_c3 : (Jvm.Cond.code ({ cls := "com/example/eratosthenes/eratosthenes/index/IntList", name := "add", desc := "(I)V" } : Jvm.MethodName) prog_10_method_2_code (2 : Nat) (Option.none : Option Jvm.ClassFile.FieldType)).before args0 about1 = true := code_word (m := ⟨2, 1⟩) (meth := k2m1) (c := k2c1) (by decide +kernel) rfl rfl rfl (by decide +kernel)
set_option maxRecDepth 65536 in
theorem w_c4 : (Jvm.Cond.code ({ cls := "com/example/eratosthenes/eratosthenes/index/IntList", name := "size", desc := "()I" } : Jvm.MethodName) prog_10_method_5_code (1 : Nat) (Option.some Jvm.ClassFile.FieldType.int)).before args0 about1 = true := code_word (m := ⟨2, 3⟩) (meth := k2m3) (c := k2c3) (by decide +kernel) rfl rfl rfl (by decide +kernel)
set_option maxRecDepth 65536 in
theorem w_c5 : (Jvm.Cond.code ({ cls := "com/example/eratosthenes/eratosthenes/index/IntList", name := "capacity", desc := "()I" } : Jvm.MethodName) prog_10_method_6_code (1 : Nat) (Option.some Jvm.ClassFile.FieldType.int)).before args0 about1 = true := code_word (m := ⟨2, 4⟩) (meth := k2m4) (c := k2c4) (by decide +kernel) rfl rfl rfl (by decide +kernel)
set_option maxRecDepth 65536 in
theorem w_c6 : (Jvm.Cond.code ({ cls := "com/example/eratosthenes/eratosthenes/index/IntList", name := "get", desc := "(I)I" } : Jvm.MethodName) prog_10_method_3_code (2 : Nat) (Option.some Jvm.ClassFile.FieldType.int)).before args0 about1 = true := code_word (m := ⟨2, 2⟩) (meth := k2m2) (c := k2c2) (by decide +kernel) rfl rfl rfl (by decide +kernel)
set_option maxRecDepth 65536 in
theorem w_c7 : (Jvm.Cond.code ({ cls := "java/util/Arrays", name := "copyOf", desc := "([II)[I" } : Jvm.MethodName) jdk_65_method_123_code (3 : Nat) (Option.some (Jvm.ClassFile.FieldType.array Jvm.ClassFile.FieldType.int))).before args0 about1 = true := code_word (m := ⟨3, 1⟩) (meth := k3m1) (c := k3c1) (by decide +kernel) rfl rfl rfl (by decide +kernel)
set_option maxRecDepth 65536 in
theorem w_c8 : (Jvm.Cond.code ({ cls := "java/lang/Math", name := "min", desc := "(II)I" } : Jvm.MethodName) jdk_29_method_69_code (2 : Nat) (Option.some Jvm.ClassFile.FieldType.int)).before args0 about1 = true := code_word (m := ⟨4, 1⟩) (meth := k4m1) (c := k4c1) (by decide +kernel) rfl rfl rfl (by decide +kernel)
def codes1 : List Jvm.Cond := [Jvm.Cond.code x code maxLocals ret, Jvm.Cond.code ({ cls := "com/example/eratosthenes/eratosthenes/index/IntList", name := "<init>", desc := "()V" } : Jvm.MethodName) prog_10_method_1_code (1 : Nat) (Option.none : Option Jvm.ClassFile.FieldType), Jvm.Cond.code ({ cls := "java/lang/Object", name := "<init>", desc := "()V" } : Jvm.MethodName) object_method_1_code (1 : Nat) (Option.none : Option Jvm.ClassFile.FieldType), Jvm.Cond.code ({ cls := "com/example/eratosthenes/eratosthenes/index/IntList", name := "add", desc := "(I)V" } : Jvm.MethodName) prog_10_method_2_code (2 : Nat) (Option.none : Option Jvm.ClassFile.FieldType), Jvm.Cond.code ({ cls := "com/example/eratosthenes/eratosthenes/index/IntList", name := "size", desc := "()I" } : Jvm.MethodName) prog_10_method_5_code (1 : Nat) (Option.some Jvm.ClassFile.FieldType.int), Jvm.Cond.code ({ cls := "com/example/eratosthenes/eratosthenes/index/IntList", name := "capacity", desc := "()I" } : Jvm.MethodName) prog_10_method_6_code (1 : Nat) (Option.some Jvm.ClassFile.FieldType.int), Jvm.Cond.code ({ cls := "com/example/eratosthenes/eratosthenes/index/IntList", name := "get", desc := "(I)I" } : Jvm.MethodName) prog_10_method_3_code (2 : Nat) (Option.some Jvm.ClassFile.FieldType.int), Jvm.Cond.code ({ cls := "java/util/Arrays", name := "copyOf", desc := "([II)[I" } : Jvm.MethodName) jdk_65_method_123_code (3 : Nat) (Option.some (Jvm.ClassFile.FieldType.array Jvm.ClassFile.FieldType.int)), Jvm.Cond.code ({ cls := "java/lang/Math", name := "min", desc := "(II)I" } : Jvm.MethodName) jdk_29_method_69_code (2 : Nat) (Option.some Jvm.ClassFile.FieldType.int)]
set_option maxRecDepth 65536 in
theorem codes_eq : words1.filter isCode = codes1 := rfl
theorem w_codes : ∀ c ∈ words1.filter isCode, c.before args0 about1 = true := by
  rw [codes_eq]
  intro c hc
  simp only [codes1, List.mem_cons, List.not_mem_nil, or_false] at hc
  rcases hc with rfl | rfl | rfl | rfl | rfl | rfl | rfl | rfl | rfl
  · exact w_c0
  · exact w_c1
  · exact w_c2
  · exact w_c3
  · exact w_c4
  · exact w_c5
  · exact w_c6
  · exact w_c7
  · exact w_c8
set_option maxRecDepth 65536 in
theorem w_t1 : (words1.take 24).all (fun c => isCode c || c.before args0 about1) = true := by decide +kernel
set_option maxRecDepth 65536 in
theorem w_t2 : (words1.drop 24).all (fun c => isCode c || c.before args0 about1) = true := by decide +kernel
theorem w_tables : (allAtoms (Jvm.Cond.code x code maxLocals ret :: tables_1)).before args0 about1 = true := by
  rw [allAtoms_all]
  show words1.all (fun c => c.before args0 about1) = true
  refine all_split ?_ w_codes
  rw [← List.take_append_drop 24 words1, List.all_append, w_t1, w_t2]
  rfl
set_option maxRecDepth 65536 in
theorem w_case : (Jvm.Cond.and given_1 narrow_1).before args0 about1 = true := by decide +kernel
theorem w_applies : (headSpec (Jvm.Cond.code x code maxLocals ret :: tables_1) room_1).applies x e0.platform about1 = true :=
  (Spec.applies_iff w_frames).mpr ⟨w_running, w_runnable, w_alone, w_named, w_hears, w_ripe, w_room, w_tables⟩
theorem atStart : AtStart classFile x code maxLocals ret World_1 tables_1 room_1 Calls_1 rest_1 Pre_1 launch0 p0 e0 about1 theMethod args0 below0 :=
  ⟨lists_1, trivial, launch0.admits_env _ _ _, launch0.least_env, fairChoices_fair.cas, fairChoices_fair.clock, w_frames, w_args, w_heap, w_applies, trivial, trivial, w_case⟩
end start1
theorem witness_1 : WitnessClaimed_1 := ⟨start1.p0, start1.e0, start1.about1, start1.theMethod, start1.args0, start1.below0, start1.atStart⟩
end Jvm.Pilot.@@N@@
