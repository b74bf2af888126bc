import JvmDerived
import JvmDerived.Pilot.@@N@@Statement
import JvmDerived.Pilot.@@N@@Code
set_option linter.unusedVariables false
set_option linter.unusedSimpArgs false
@@BLOCK:NumsL.lean.txt@@
namespace Jvm.Pilot.@@N@@
open Jvm Jvm.ClassFile Sem Op Lib Jvm.Free Jvm.Stand Jvm.LawKit Jvm.RoadKit Bundle Jvm.Pilot.@@N@@.Jvm.D
section OwnKit
variable {p : Program} {l : Launch} {e : Env} {R : Room} {s : State} {m : MethodId} {args : Array Value} {below : List Frame} {meth : Method} {c : Code} {T T' : State} {Z : State} {h : Heap} {n0 k n mx : Nat} {y : MethodName} {bytes : ByteArray} {ret : Option FieldType} {Q : Option Value → Heap → Prop} {pc : Nat} {Ls : Array Slot} {st rest : List Value} {a0 : Array Value} {g g' : JFrame}
/-- where a body's walk stands: all that its steps ask, bundled -/
def OW (p : Program) (l : Launch) (e : Env) (R : Room) (s : State) (m : MethodId) (args : Array Value) (below : List Frame) (meth : Method) (c : Code) (Z : State) (y : MethodName) (bytes : ByteArray) (mx : Nat) (ret : Option FieldType) (n0 : Nat) (T : State) (h : Heap) (k n : Nat) : Prop :=
  p.tables.exec = Jvm.exec ∧ Z.Warmed39 s.vm ∧ s.vm.findClass y.cls = some m.cls ∧ c.code = bytes ∧ c.maxLocals = mx ∧ meth.sig.returnType = ret ∧ meth.name = y.name ∧ meth.locks = false ∧ n0 ≤ s.heap.size ∧ T.heap = h ∧ ∃ locs, Stand p l e R s m args below meth c T locs k n ∧ Fr n0 locs
/-- what a body owes from the frame g on: it returns, and Q holds of what it returns and of the heap -/
def OE (p : Program) (e : Env) (R : Room) (below : List Frame) (s : State) (n0 : Nat) (Q : Option Value → Heap → Prop) (T : State) (g : JFrame) : Prop :=
  ∃ t o, Steps p.tables e below (T.setTop g) t ∧ t.status = .running ∧ Ended t below o ∧ ∃ v L, o = .returned v ∧ (Q v t.heap ∧ Fr n0 L) ∧ FrameEnd s o t L R.cells R.slots
theorem OE.by (hs : ∀ t, Steps p.tables e below (T'.setTop g') t → Steps p.tables e below (T.setTop g) t) (K : OE p e R below s n0 Q T' g') : OE p e R below s n0 Q T g := by
  obtain ⟨t, o, h1, r⟩ := K; exact ⟨t, o, hs t h1, r⟩
theorem OW.size (X : OW p l e R s m args below meth c Z y bytes mx ret n0 T h k n) : n0 ≤ h.size := by
  obtain ⟨-, -, -, -, -, -, -, -, h0, rfl, locs, S, -⟩ := X
  exact Nat.le_trans h0 S.same.2.1
theorem OW.more (X : OW p l e R s m args below meth c Z y bytes mx ret n0 T h k n) {k' n' : Nat} (hk : k ≤ k') (hn : n ≤ n') : OW p l e R s m args below meth c Z y bytes mx ret n0 T h k' n' := by
  obtain ⟨h1, h2, h3, h4, h5, h6, h7, h8, h9, h10, locs, S, N⟩ := X
  exact ⟨h1, h2, h3, h4, h5, h6, h7, h8, h9, h10, locs, S.more hk hn, N⟩
theorem o_iloadN (X : OW p l e R s m args below meth c Z y bytes mx ret n0 T h k n) {j : Fin 4} {v : Int32} (hd : decode bytes pc = .ok (.iload_n j, 1)) (hl : Ls[j.val]? = some (.val (.int v))) (pc' : Nat) (hp : pc + 1 = pc') (K : OE p e R below s n0 Q T (mkF m pc' Ls (.int v :: st))) : OE p e R below s n0 Q T (mkF m pc Ls st) := by
  obtain ⟨hx, hZ, hown, hby, hmx, hret, hnm, hlk, h0, hT, locs, S, N⟩ := X; subst hp
  exact OE.by (fun t q => XS.iloadN S.here hx rfl (hb hby hd) hl q) K
theorem o_iload (X : OW p l e R s m args below meth c Z y bytes mx ret n0 T h k n) {j : Nat} {v : Int32} (hd : decode bytes pc = .ok (.iload j, 2)) (hl : Ls[j]? = some (.val (.int v))) (pc' : Nat) (hp : pc + 2 = pc') (K : OE p e R below s n0 Q T (mkF m pc' Ls (.int v :: st))) : OE p e R below s n0 Q T (mkF m pc Ls st) := by
  obtain ⟨hx, hZ, hown, hby, hmx, hret, hnm, hlk, h0, hT, locs, S, N⟩ := X; subst hp
  exact OE.by (fun t q => XS.iload S.here hx rfl (hb hby hd) hl q) K
theorem o_aloadN (X : OW p l e R s m args below meth c Z y bytes mx ret n0 T h k n) {j : Fin 4} {v : Value} (hd : decode bytes pc = .ok (.aload_n j, 1)) (hl : Ls[j.val]? = some (.val v)) (hv : v.isRef = true) (pc' : Nat) (hp : pc + 1 = pc') (K : OE p e R below s n0 Q T (mkF m pc' Ls (v :: st))) : OE p e R below s n0 Q T (mkF m pc Ls st) := by
  obtain ⟨hx, hZ, hown, hby, hmx, hret, hnm, hlk, h0, hT, locs, S, N⟩ := X; subst hp
  exact OE.by (fun t q => XS.aloadN S.here hx rfl (hb hby hd) hl hv q) K
theorem o_aload (X : OW p l e R s m args below meth c Z y bytes mx ret n0 T h k n) {j : Nat} {v : Value} (hd : decode bytes pc = .ok (.aload j, 2)) (hl : Ls[j]? = some (.val v)) (hv : v.isRef = true) (pc' : Nat) (hp : pc + 2 = pc') (K : OE p e R below s n0 Q T (mkF m pc' Ls (v :: st))) : OE p e R below s n0 Q T (mkF m pc Ls st) := by
  obtain ⟨hx, hZ, hown, hby, hmx, hret, hnm, hlk, h0, hT, locs, S, N⟩ := X; subst hp
  exact OE.by (fun t q => XS.aload S.here hx rfl (hb hby hd) hl hv q) K
theorem o_lloadN (X : OW p l e R s m args below meth c Z y bytes mx ret n0 T h k n) {j : Fin 4} {v : Int64} (hd : decode bytes pc = .ok (.lload_n j, 1)) (hl : Ls[j.val]? = some (.val (.long v))) (pc' : Nat) (hp : pc + 1 = pc') (K : OE p e R below s n0 Q T (mkF m pc' Ls (.long v :: st))) : OE p e R below s n0 Q T (mkF m pc Ls st) := by
  obtain ⟨hx, hZ, hown, hby, hmx, hret, hnm, hlk, h0, hT, locs, S, N⟩ := X; subst hp
  exact OE.by (fun t q => XT.lloadN S.here hx rfl (hb hby hd) hl q) K
theorem o_lload (X : OW p l e R s m args below meth c Z y bytes mx ret n0 T h k n) {j : Nat} {v : Int64} (hd : decode bytes pc = .ok (.lload j, 2)) (hl : Ls[j]? = some (.val (.long v))) (pc' : Nat) (hp : pc + 2 = pc') (K : OE p e R below s n0 Q T (mkF m pc' Ls (.long v :: st))) : OE p e R below s n0 Q T (mkF m pc Ls st) := by
  obtain ⟨hx, hZ, hown, hby, hmx, hret, hnm, hlk, h0, hT, locs, S, N⟩ := X; subst hp
  exact OE.by (fun t q => XT.lload S.here hx rfl (hb hby hd) hl q) K
theorem o_iconst (X : OW p l e R s m args below meth c Z y bytes mx ret n0 T h k n) {i : Int} {v : Int32} (hd : decode bytes pc = .ok (.iconst i, 1)) (hv : Int32.ofInt i = v) (pc' : Nat) (hp : pc + 1 = pc') (K : OE p e R below s n0 Q T (mkF m pc' Ls (.int v :: st))) : OE p e R below s n0 Q T (mkF m pc Ls st) := by
  obtain ⟨hx, hZ, hown, hby, hmx, hret, hnm, hlk, h0, hT, locs, S, N⟩ := X; subst hp hv
  exact OE.by (fun t q => XS.iconst S.here hx rfl (hb hby hd) q) K
theorem o_bipush (X : OW p l e R s m args below meth c Z y bytes mx ret n0 T h k n) {i : Int} {v : Int32} (hd : decode bytes pc = .ok (.bipush i, 2)) (hv : (Int8.ofInt i).toInt32 = v) (pc' : Nat) (hp : pc + 2 = pc') (K : OE p e R below s n0 Q T (mkF m pc' Ls (.int v :: st))) : OE p e R below s n0 Q T (mkF m pc Ls st) := by
  obtain ⟨hx, hZ, hown, hby, hmx, hret, hnm, hlk, h0, hT, locs, S, N⟩ := X; subst hp hv
  exact OE.by (fun t q => XS.bipush S.here hx rfl (hb hby hd) q) K
theorem o_sipush (X : OW p l e R s m args below meth c Z y bytes mx ret n0 T h k n) {i : Int} {v : Int32} (hd : decode bytes pc = .ok (.sipush i, 3)) (hv : (Int16.ofInt i).toInt32 = v) (pc' : Nat) (hp : pc + 3 = pc') (K : OE p e R below s n0 Q T (mkF m pc' Ls (.int v :: st))) : OE p e R below s n0 Q T (mkF m pc Ls st) := by
  obtain ⟨hx, hZ, hown, hby, hmx, hret, hnm, hlk, h0, hT, locs, S, N⟩ := X; subst hp hv
  exact OE.by (fun t q => XS.sipush S.here hx rfl (hb hby hd) q) K
theorem o_lconst (X : OW p l e R s m args below meth c Z y bytes mx ret n0 T h k n) {i : Fin 2} {v : Int64} (hd : decode bytes pc = .ok (.lconst i, 1)) (hv : Int64.ofNat i = v) (pc' : Nat) (hp : pc + 1 = pc') (K : OE p e R below s n0 Q T (mkF m pc' Ls (.long v :: st))) : OE p e R below s n0 Q T (mkF m pc Ls st) := by
  obtain ⟨hx, hZ, hown, hby, hmx, hret, hnm, hlk, h0, hT, locs, S, N⟩ := X; subst hp hv
  exact OE.by (fun t q => XT.lconst S.here hx rfl (hb hby hd) q) K
theorem o_iadd (X : OW p l e R s m args below meth c Z y bytes mx ret n0 T h k n) {x z : Int32} (hd : decode bytes pc = .ok (.iadd, 1))  (pc' : Nat) (hp : pc + 1 = pc') (K : OE p e R below s n0 Q T (mkF m pc' Ls (.int (x + z) :: st))) : OE p e R below s n0 Q T (mkF m pc Ls (.int z :: .int x :: st)) := by
  obtain ⟨hx, hZ, hown, hby, hmx, hret, hnm, hlk, h0, hT, locs, S, N⟩ := X; subst hp
  exact OE.by (fun t q => XS.iadd S.here hx rfl (hb hby hd) rfl q) K
theorem o_isub (X : OW p l e R s m args below meth c Z y bytes mx ret n0 T h k n) {x z : Int32} (hd : decode bytes pc = .ok (.isub, 1))  (pc' : Nat) (hp : pc + 1 = pc') (K : OE p e R below s n0 Q T (mkF m pc' Ls (.int (x - z) :: st))) : OE p e R below s n0 Q T (mkF m pc Ls (.int z :: .int x :: st)) := by
  obtain ⟨hx, hZ, hown, hby, hmx, hret, hnm, hlk, h0, hT, locs, S, N⟩ := X; subst hp
  exact OE.by (fun t q => XS.isub S.here hx rfl (hb hby hd) rfl q) K
theorem o_imul (X : OW p l e R s m args below meth c Z y bytes mx ret n0 T h k n) {x z : Int32} (hd : decode bytes pc = .ok (.imul, 1))  (pc' : Nat) (hp : pc + 1 = pc') (K : OE p e R below s n0 Q T (mkF m pc' Ls (.int (x * z) :: st))) : OE p e R below s n0 Q T (mkF m pc Ls (.int z :: .int x :: st)) := by
  obtain ⟨hx, hZ, hown, hby, hmx, hret, hnm, hlk, h0, hT, locs, S, N⟩ := X; subst hp
  exact OE.by (fun t q => XS.imul S.here hx rfl (hb hby hd) rfl q) K
theorem o_iand (X : OW p l e R s m args below meth c Z y bytes mx ret n0 T h k n) {x z : Int32} (hd : decode bytes pc = .ok (.iand, 1))  (pc' : Nat) (hp : pc + 1 = pc') (K : OE p e R below s n0 Q T (mkF m pc' Ls (.int (x &&& z) :: st))) : OE p e R below s n0 Q T (mkF m pc Ls (.int z :: .int x :: st)) := by
  obtain ⟨hx, hZ, hown, hby, hmx, hret, hnm, hlk, h0, hT, locs, S, N⟩ := X; subst hp
  exact OE.by (fun t q => XS.iand S.here hx rfl (hb hby hd) rfl q) K
theorem o_ior (X : OW p l e R s m args below meth c Z y bytes mx ret n0 T h k n) {x z : Int32} (hd : decode bytes pc = .ok (.ior, 1))  (pc' : Nat) (hp : pc + 1 = pc') (K : OE p e R below s n0 Q T (mkF m pc' Ls (.int (x ||| z) :: st))) : OE p e R below s n0 Q T (mkF m pc Ls (.int z :: .int x :: st)) := by
  obtain ⟨hx, hZ, hown, hby, hmx, hret, hnm, hlk, h0, hT, locs, S, N⟩ := X; subst hp
  exact OE.by (fun t q => XT.ior S.here hx rfl (hb hby hd) rfl q) K
theorem o_ixor (X : OW p l e R s m args below meth c Z y bytes mx ret n0 T h k n) {x z : Int32} (hd : decode bytes pc = .ok (.ixor, 1))  (pc' : Nat) (hp : pc + 1 = pc') (K : OE p e R below s n0 Q T (mkF m pc' Ls (.int (x ^^^ z) :: st))) : OE p e R below s n0 Q T (mkF m pc Ls (.int z :: .int x :: st)) := by
  obtain ⟨hx, hZ, hown, hby, hmx, hret, hnm, hlk, h0, hT, locs, S, N⟩ := X; subst hp
  exact OE.by (fun t q => XT.ixor S.here hx rfl (hb hby hd) rfl q) K
theorem o_ishl (X : OW p l e R s m args below meth c Z y bytes mx ret n0 T h k n) {x z : Int32} (hd : decode bytes pc = .ok (.ishl, 1))  (pc' : Nat) (hp : pc + 1 = pc') (K : OE p e R below s n0 Q T (mkF m pc' Ls (.int (x <<< (z &&& 31)) :: st))) : OE p e R below s n0 Q T (mkF m pc Ls (.int z :: .int x :: st)) := by
  obtain ⟨hx, hZ, hown, hby, hmx, hret, hnm, hlk, h0, hT, locs, S, N⟩ := X; subst hp
  exact OE.by (fun t q => XT.ishl S.here hx rfl (hb hby hd) rfl q) K
theorem o_ishr (X : OW p l e R s m args below meth c Z y bytes mx ret n0 T h k n) {x z : Int32} (hd : decode bytes pc = .ok (.ishr, 1))  (pc' : Nat) (hp : pc + 1 = pc') (K : OE p e R below s n0 Q T (mkF m pc' Ls (.int (x >>> (z &&& 31)) :: st))) : OE p e R below s n0 Q T (mkF m pc Ls (.int z :: .int x :: st)) := by
  obtain ⟨hx, hZ, hown, hby, hmx, hret, hnm, hlk, h0, hT, locs, S, N⟩ := X; subst hp
  exact OE.by (fun t q => XT.ishr S.here hx rfl (hb hby hd) rfl q) K
theorem o_iushr (X : OW p l e R s m args below meth c Z y bytes mx ret n0 T h k n) {x z : Int32} (hd : decode bytes pc = .ok (.iushr, 1))  (pc' : Nat) (hp : pc + 1 = pc') (K : OE p e R below s n0 Q T (mkF m pc' Ls (.int (XT.ushr x z) :: st))) : OE p e R below s n0 Q T (mkF m pc Ls (.int z :: .int x :: st)) := by
  obtain ⟨hx, hZ, hown, hby, hmx, hret, hnm, hlk, h0, hT, locs, S, N⟩ := X; subst hp
  exact OE.by (fun t q => XT.iushr S.here hx rfl (hb hby hd) rfl q) K
theorem o_idiv (X : OW p l e R s m args below meth c Z y bytes mx ret n0 T h k n) {x z : Int32} (hd : decode bytes pc = .ok (.idiv, 1)) (hz : z ≠ 0) (pc' : Nat) (hp : pc + 1 = pc') (K : OE p e R below s n0 Q T (mkF m pc' Ls (.int (x / z) :: st))) : OE p e R below s n0 Q T (mkF m pc Ls (.int z :: .int x :: st)) := by
  obtain ⟨hx, hZ, hown, hby, hmx, hret, hnm, hlk, h0, hT, locs, S, N⟩ := X; subst hp
  exact OE.by (fun t q => XS.idiv S.here hx rfl (hb hby hd) rfl hz q) K
theorem o_irem (X : OW p l e R s m args below meth c Z y bytes mx ret n0 T h k n) {x z : Int32} (hd : decode bytes pc = .ok (.irem, 1)) (hz : z ≠ 0) (pc' : Nat) (hp : pc + 1 = pc') (K : OE p e R below s n0 Q T (mkF m pc' Ls (.int (x % z) :: st))) : OE p e R below s n0 Q T (mkF m pc Ls (.int z :: .int x :: st)) := by
  obtain ⟨hx, hZ, hown, hby, hmx, hret, hnm, hlk, h0, hT, locs, S, N⟩ := X; subst hp
  exact OE.by (fun t q => iremM S hx rfl (hb hby hd) rfl hz q) K
theorem o_ladd (X : OW p l e R s m args below meth c Z y bytes mx ret n0 T h k n) {x z : Int64} (hd : decode bytes pc = .ok (.ladd, 1))  (pc' : Nat) (hp : pc + 1 = pc') (K : OE p e R below s n0 Q T (mkF m pc' Ls (.long (x + z) :: st))) : OE p e R below s n0 Q T (mkF m pc Ls (.long z :: .long x :: st)) := by
  obtain ⟨hx, hZ, hown, hby, hmx, hret, hnm, hlk, h0, hT, locs, S, N⟩ := X; subst hp
  exact OE.by (fun t q => XT.ladd S.here hx rfl (hb hby hd) rfl q) K
theorem o_lsub (X : OW p l e R s m args below meth c Z y bytes mx ret n0 T h k n) {x z : Int64} (hd : decode bytes pc = .ok (.lsub, 1))  (pc' : Nat) (hp : pc + 1 = pc') (K : OE p e R below s n0 Q T (mkF m pc' Ls (.long (x - z) :: st))) : OE p e R below s n0 Q T (mkF m pc Ls (.long z :: .long x :: st)) := by
  obtain ⟨hx, hZ, hown, hby, hmx, hret, hnm, hlk, h0, hT, locs, S, N⟩ := X; subst hp
  exact OE.by (fun t q => XT.lsub S.here hx rfl (hb hby hd) rfl q) K
theorem o_lor (X : OW p l e R s m args below meth c Z y bytes mx ret n0 T h k n) {x z : Int64} (hd : decode bytes pc = .ok (.lor, 1))  (pc' : Nat) (hp : pc + 1 = pc') (K : OE p e R below s n0 Q T (mkF m pc' Ls (.long (x ||| z) :: st))) : OE p e R below s n0 Q T (mkF m pc Ls (.long z :: .long x :: st)) := by
  obtain ⟨hx, hZ, hown, hby, hmx, hret, hnm, hlk, h0, hT, locs, S, N⟩ := X; subst hp
  exact OE.by (fun t q => XT.lor S.here hx rfl (hb hby hd) rfl q) K
theorem o_land (X : OW p l e R s m args below meth c Z y bytes mx ret n0 T h k n) {x z : Int64} (hd : decode bytes pc = .ok (.land, 1))  (pc' : Nat) (hp : pc + 1 = pc') (K : OE p e R below s n0 Q T (mkF m pc' Ls (.long (x &&& z) :: st))) : OE p e R below s n0 Q T (mkF m pc Ls (.long z :: .long x :: st)) := by
  obtain ⟨hx, hZ, hown, hby, hmx, hret, hnm, hlk, h0, hT, locs, S, N⟩ := X; subst hp
  exact OE.by (fun t q => XT.land S.here hx rfl (hb hby hd) rfl q) K
theorem o_lmul (X : OW p l e R s m args below meth c Z y bytes mx ret n0 T h k n) {x z : Int64} (hd : decode bytes pc = .ok (.lmul, 1))  (pc' : Nat) (hp : pc + 1 = pc') (K : OE p e R below s n0 Q T (mkF m pc' Ls (.long (x * z) :: st))) : OE p e R below s n0 Q T (mkF m pc Ls (.long z :: .long x :: st)) := by
  obtain ⟨hx, hZ, hown, hby, hmx, hret, hnm, hlk, h0, hT, locs, S, N⟩ := X; subst hp
  exact OE.by (fun t q => XT.lmul S.here hx rfl (hb hby hd) rfl q) K
theorem o_lshl (X : OW p l e R s m args below meth c Z y bytes mx ret n0 T h k n) {x : Int64} {z : Int32} (hd : decode bytes pc = .ok (.lshl, 1))  (pc' : Nat) (hp : pc + 1 = pc') (K : OE p e R below s n0 Q T (mkF m pc' Ls (.long (x <<< (z.toInt64 &&& 63)) :: st))) : OE p e R below s n0 Q T (mkF m pc Ls (.int z :: .long x :: st)) := by
  obtain ⟨hx, hZ, hown, hby, hmx, hret, hnm, hlk, h0, hT, locs, S, N⟩ := X; subst hp
  exact OE.by (fun t q => XT.lshl S.here hx rfl (hb hby hd) rfl q) K
theorem o_lushr (X : OW p l e R s m args below meth c Z y bytes mx ret n0 T h k n) {x : Int64} {z : Int32} (hd : decode bytes pc = .ok (.lushr, 1))  (pc' : Nat) (hp : pc + 1 = pc') (K : OE p e R below s n0 Q T (mkF m pc' Ls (.long (XT.ushrL x z) :: st))) : OE p e R below s n0 Q T (mkF m pc Ls (.int z :: .long x :: st)) := by
  obtain ⟨hx, hZ, hown, hby, hmx, hret, hnm, hlk, h0, hT, locs, S, N⟩ := X; subst hp
  exact OE.by (fun t q => XT.lushr S.here hx rfl (hb hby hd) rfl q) K
theorem o_lcmp (X : OW p l e R s m args below meth c Z y bytes mx ret n0 T h k n) {x z : Int64} (hd : decode bytes pc = .ok (.lcmp, 1))  (pc' : Nat) (hp : pc + 1 = pc') (K : OE p e R below s n0 Q T (mkF m pc' Ls (.int (XT.cmpL x z) :: st))) : OE p e R below s n0 Q T (mkF m pc Ls (.long z :: .long x :: st)) := by
  obtain ⟨hx, hZ, hown, hby, hmx, hret, hnm, hlk, h0, hT, locs, S, N⟩ := X; subst hp
  exact OE.by (fun t q => XT.lcmp S.here hx rfl (hb hby hd) rfl q) K
theorem o_i2l (X : OW p l e R s m args below meth c Z y bytes mx ret n0 T h k n) {x : Int32} (hd : decode bytes pc = .ok (.i2l, 1))  (pc' : Nat) (hp : pc + 1 = pc') (K : OE p e R below s n0 Q T (mkF m pc' Ls (.long x.toInt64 :: st))) : OE p e R below s n0 Q T (mkF m pc Ls (.int x :: st)) := by
  obtain ⟨hx, hZ, hown, hby, hmx, hret, hnm, hlk, h0, hT, locs, S, N⟩ := X; subst hp
  exact OE.by (fun t q => XT.i2l S.here hx rfl (hb hby hd) rfl q) K
theorem o_l2i (X : OW p l e R s m args below meth c Z y bytes mx ret n0 T h k n) {x : Int64} (hd : decode bytes pc = .ok (.l2i, 1))  (pc' : Nat) (hp : pc + 1 = pc') (K : OE p e R below s n0 Q T (mkF m pc' Ls (.int x.toInt32 :: st))) : OE p e R below s n0 Q T (mkF m pc Ls (.long x :: st)) := by
  obtain ⟨hx, hZ, hown, hby, hmx, hret, hnm, hlk, h0, hT, locs, S, N⟩ := X; subst hp
  exact OE.by (fun t q => XT.l2i S.here hx rfl (hb hby hd) rfl q) K
theorem o_i2b (X : OW p l e R s m args below meth c Z y bytes mx ret n0 T h k n) {x : Int32} (hd : decode bytes pc = .ok (.i2b, 1))  (pc' : Nat) (hp : pc + 1 = pc') (K : OE p e R below s n0 Q T (mkF m pc' Ls (.int x.toInt8.toInt32 :: st))) : OE p e R below s n0 Q T (mkF m pc Ls (.int x :: st)) := by
  obtain ⟨hx, hZ, hown, hby, hmx, hret, hnm, hlk, h0, hT, locs, S, N⟩ := X; subst hp
  exact OE.by (fun t q => XT.i2b S.here hx rfl (hb hby hd) rfl q) K
theorem o_i2c (X : OW p l e R s m args below meth c Z y bytes mx ret n0 T h k n) {x : Int32} (hd : decode bytes pc = .ok (.i2c, 1))  (pc' : Nat) (hp : pc + 1 = pc') (K : OE p e R below s n0 Q T (mkF m pc' Ls (.int x.toUInt32.toUInt16.toUInt32.toInt32 :: st))) : OE p e R below s n0 Q T (mkF m pc Ls (.int x :: st)) := by
  obtain ⟨hx, hZ, hown, hby, hmx, hret, hnm, hlk, h0, hT, locs, S, N⟩ := X; subst hp
  exact OE.by (fun t q => XT.i2c S.here hx rfl (hb hby hd) rfl q) K
theorem o_dup (X : OW p l e R s m args below meth c Z y bytes mx ret n0 T h k n) {v : Value} (hd : decode bytes pc = .ok (.dup, 1)) (hc : v.category = 1) (pc' : Nat) (hp : pc + 1 = pc') (K : OE p e R below s n0 Q T (mkF m pc' Ls (v :: v :: st))) : OE p e R below s n0 Q T (mkF m pc Ls (v :: st)) := by
  obtain ⟨hx, hZ, hown, hby, hmx, hret, hnm, hlk, h0, hT, locs, S, N⟩ := X; subst hp
  exact OE.by (fun t q => XS.dup S.here hx rfl (hb hby hd) rfl hc q) K
theorem o_pop (X : OW p l e R s m args below meth c Z y bytes mx ret n0 T h k n) {v : Value} (hd : decode bytes pc = .ok (.pop, 1)) (hc : v.category = 1) (pc' : Nat) (hp : pc + 1 = pc') (K : OE p e R below s n0 Q T (mkF m pc' Ls st)) : OE p e R below s n0 Q T (mkF m pc Ls (v :: st)) := by
  obtain ⟨hx, hZ, hown, hby, hmx, hret, hnm, hlk, h0, hT, locs, S, N⟩ := X; subst hp
  exact OE.by (fun t q => XT.pop S.here hx rfl (hb hby hd) rfl hc q) K
theorem o_dupX1 (X : OW p l e R s m args below meth c Z y bytes mx ret n0 T h k n) {v w : Value} (hd : decode bytes pc = .ok (.dup_x1, 1)) (hc : v.category = 1) (hc' : w.category = 1) (pc' : Nat) (hp : pc + 1 = pc') (K : OE p e R below s n0 Q T (mkF m pc' Ls (v :: w :: v :: st))) : OE p e R below s n0 Q T (mkF m pc Ls (v :: w :: st)) := by
  obtain ⟨hx, hZ, hown, hby, hmx, hret, hnm, hlk, h0, hT, locs, S, N⟩ := X; subst hp
  exact OE.by (fun t q => XT.dupX1 S.here hx rfl (hb hby hd) rfl hc hc' q) K
theorem o_dup2 (X : OW p l e R s m args below meth c Z y bytes mx ret n0 T h k n) {v w : Value} (hd : decode bytes pc = .ok (.dup2, 1)) (hc : v.category = 1) (hc' : w.category = 1) (pc' : Nat) (hp : pc + 1 = pc') (K : OE p e R below s n0 Q T (mkF m pc' Ls (v :: w :: v :: w :: st))) : OE p e R below s n0 Q T (mkF m pc Ls (v :: w :: st)) := by
  obtain ⟨hx, hZ, hown, hby, hmx, hret, hnm, hlk, h0, hT, locs, S, N⟩ := X; subst hp
  exact OE.by (fun t q => XT.dup2 S.here hx rfl (hb hby hd) rfl hc hc' q) K
theorem o_istoreN (X : OW p l e R s m args below meth c Z y bytes mx ret n0 T h k n) {j : Fin 4} {v : Int32} (hd : decode bytes pc = .ok (.istore_n j, 1)) (Ls' : Array Slot) (hl : storeLocals Ls j.val (.int v) = some Ls') (pc' : Nat) (hp : pc + 1 = pc') (K : OE p e R below s n0 Q T (mkF m pc' Ls' st)) : OE p e R below s n0 Q T (mkF m pc Ls (.int v :: st)) := by
  obtain ⟨hx, hZ, hown, hby, hmx, hret, hnm, hlk, h0, hT, locs, S, N⟩ := X; subst hp
  exact OE.by (fun t q => XS.istoreN S.here hx rfl (hb hby hd) rfl hl q) K
theorem o_istore (X : OW p l e R s m args below meth c Z y bytes mx ret n0 T h k n) {j : Nat} {v : Int32} (hd : decode bytes pc = .ok (.istore j, 2)) (Ls' : Array Slot) (hl : storeLocals Ls j (.int v) = some Ls') (pc' : Nat) (hp : pc + 2 = pc') (K : OE p e R below s n0 Q T (mkF m pc' Ls' st)) : OE p e R below s n0 Q T (mkF m pc Ls (.int v :: st)) := by
  obtain ⟨hx, hZ, hown, hby, hmx, hret, hnm, hlk, h0, hT, locs, S, N⟩ := X; subst hp
  exact OE.by (fun t q => XS.istore S.here hx rfl (hb hby hd) rfl hl q) K
theorem o_lstoreN (X : OW p l e R s m args below meth c Z y bytes mx ret n0 T h k n) {j : Fin 4} {v : Int64} (hd : decode bytes pc = .ok (.lstore_n j, 1)) (Ls' : Array Slot) (hl : storeLocals Ls j.val (.long v) = some Ls') (pc' : Nat) (hp : pc + 1 = pc') (K : OE p e R below s n0 Q T (mkF m pc' Ls' st)) : OE p e R below s n0 Q T (mkF m pc Ls (.long v :: st)) := by
  obtain ⟨hx, hZ, hown, hby, hmx, hret, hnm, hlk, h0, hT, locs, S, N⟩ := X; subst hp
  exact OE.by (fun t q => XT.lstoreN S.here hx rfl (hb hby hd) rfl hl q) K
theorem o_lstore (X : OW p l e R s m args below meth c Z y bytes mx ret n0 T h k n) {j : Nat} {v : Int64} (hd : decode bytes pc = .ok (.lstore j, 2)) (Ls' : Array Slot) (hl : storeLocals Ls j (.long v) = some Ls') (pc' : Nat) (hp : pc + 2 = pc') (K : OE p e R below s n0 Q T (mkF m pc' Ls' st)) : OE p e R below s n0 Q T (mkF m pc Ls (.long v :: st)) := by
  obtain ⟨hx, hZ, hown, hby, hmx, hret, hnm, hlk, h0, hT, locs, S, N⟩ := X; subst hp
  exact OE.by (fun t q => XT.lstore S.here hx rfl (hb hby hd) rfl hl q) K
theorem o_astoreN (X : OW p l e R s m args below meth c Z y bytes mx ret n0 T h k n) {j : Fin 4} {v : Value} (hd : decode bytes pc = .ok (.astore_n j, 1)) (hv : v.isRef = true) (Ls' : Array Slot) (hl : storeLocals Ls j.val v = some Ls') (pc' : Nat) (hp : pc + 1 = pc') (K : OE p e R below s n0 Q T (mkF m pc' Ls' st)) : OE p e R below s n0 Q T (mkF m pc Ls (v :: st)) := by
  obtain ⟨hx, hZ, hown, hby, hmx, hret, hnm, hlk, h0, hT, locs, S, N⟩ := X; subst hp
  exact OE.by (fun t q => XS.astoreN S.here hx rfl (hb hby hd) rfl hv hl q) K
theorem o_astore (X : OW p l e R s m args below meth c Z y bytes mx ret n0 T h k n) {j : Nat} {v : Value} (hd : decode bytes pc = .ok (.astore j, 2)) (hv : v.isRef = true) (Ls' : Array Slot) (hl : storeLocals Ls j v = some Ls') (pc' : Nat) (hp : pc + 2 = pc') (K : OE p e R below s n0 Q T (mkF m pc' Ls' st)) : OE p e R below s n0 Q T (mkF m pc Ls (v :: st)) := by
  obtain ⟨hx, hZ, hown, hby, hmx, hret, hnm, hlk, h0, hT, locs, S, N⟩ := X; subst hp
  exact OE.by (fun t q => XS.astore S.here hx rfl (hb hby hd) rfl hv hl q) K
theorem o_iinc (X : OW p l e R s m args below meth c Z y bytes mx ret n0 T h k n) {j : Nat} {i : Int} {v w : Int32} (hd : decode bytes pc = .ok (.iinc j i, 3)) (hg : Ls[j]? = some (.val (.int v))) (hw : v + Int32.ofInt i = w) (Ls' : Array Slot) (hl : storeLocals Ls j (.int w) = some Ls') (pc' : Nat) (hp : pc + 3 = pc') (K : OE p e R below s n0 Q T (mkF m pc' Ls' st)) : OE p e R below s n0 Q T (mkF m pc Ls st) := by
  obtain ⟨hx, hZ, hown, hby, hmx, hret, hnm, hlk, h0, hT, locs, S, N⟩ := X; subst hp hw
  exact OE.by (fun t q => XS.iinc S.here hx rfl (hb hby hd) hg hl q) K
theorem o_goto (X : OW p l e R s m args below meth c Z y bytes mx ret n0 T h k n) {o : Int} (hd : decode bytes pc = .ok (.goto o, 3)) (pc' : Nat) (ho : 0 ≤ (pc : Int) + o) (hp : ((pc : Int) + o).toNat = pc') (K : OE p e R below s n0 Q T (mkF m pc' Ls st)) : OE p e R below s n0 Q T (mkF m pc Ls st) := by
  obtain ⟨hx, hZ, hown, hby, hmx, hret, hnm, hlk, h0, hT, locs, S, N⟩ := X
  exact OE.by (fun t q => XS.goto S.here hx rfl rfl (hb hby hd) ho hp q) K
theorem o_icmpEq (X : OW p l e R s m args below meth c Z y bytes mx ret n0 T h k n) {o : Int} {x z : Int32} (hd : decode bytes pc = .ok (.if_icmp .eq o, 3)) (pcT pcF : Nat) (ho : 0 ≤ (pc : Int) + o) (hT : ((pc : Int) + o).toNat = pcT) (hF : pc + 3 = pcF) (KT : x = z → OE p e R below s n0 Q T (mkF m pcT Ls st)) (KF : ¬ x = z → OE p e R below s n0 Q T (mkF m pcF Ls st)) : OE p e R below s n0 Q T (mkF m pc Ls (.int z :: .int x :: st)) := by
  obtain ⟨hx, hZ, hown, hby, hmx, hret, hnm, hlk, h0, hT', locs, S, N⟩ := X; subst hF
  by_cases q : x = z
  · exact OE.by (fun t r => XS.icmpYes S.here hx rfl rfl (hb hby hd) rfl ((teq q).1) ho hT r) (KT q)
  · exact OE.by (fun t r => XS.icmpNo S.here hx rfl (hb hby hd) rfl ((feq q).1) r) (KF q)
theorem o_ifEq (X : OW p l e R s m args below meth c Z y bytes mx ret n0 T h k n) {o : Int} {x : Int32} (hd : decode bytes pc = .ok (.ifCond .eq o, 3)) (pcT pcF : Nat) (ho : 0 ≤ (pc : Int) + o) (hT : ((pc : Int) + o).toNat = pcT) (hF : pc + 3 = pcF) (KT : x = 0 → OE p e R below s n0 Q T (mkF m pcT Ls st)) (KF : ¬ x = 0 → OE p e R below s n0 Q T (mkF m pcF Ls st)) : OE p e R below s n0 Q T (mkF m pc Ls (.int x :: st)) := by
  obtain ⟨hx, hZ, hown, hby, hmx, hret, hnm, hlk, h0, hT', locs, S, N⟩ := X; subst hF
  by_cases q : x = 0
  · exact OE.by (fun t r => XS.ifYes S.here hx rfl rfl (hb hby hd) rfl ((if0 _ _).trans (teq q).1) ho hT r) (KT q)
  · exact OE.by (fun t r => XS.ifNo S.here hx rfl (hb hby hd) rfl ((if0 _ _).trans (feq q).1) r) (KF q)
theorem o_icmpNe (X : OW p l e R s m args below meth c Z y bytes mx ret n0 T h k n) {o : Int} {x z : Int32} (hd : decode bytes pc = .ok (.if_icmp .ne o, 3)) (pcT pcF : Nat) (ho : 0 ≤ (pc : Int) + o) (hT : ((pc : Int) + o).toNat = pcT) (hF : pc + 3 = pcF) (KT : ¬ x = z → OE p e R below s n0 Q T (mkF m pcT Ls st)) (KF : x = z → OE p e R below s n0 Q T (mkF m pcF Ls st)) : OE p e R below s n0 Q T (mkF m pc Ls (.int z :: .int x :: st)) := by
  obtain ⟨hx, hZ, hown, hby, hmx, hret, hnm, hlk, h0, hT', locs, S, N⟩ := X; subst hF
  by_cases q : x = z
  · exact OE.by (fun t r => XS.icmpNo S.here hx rfl (hb hby hd) rfl ((teq q).2) r) (KF q)
  · exact OE.by (fun t r => XS.icmpYes S.here hx rfl rfl (hb hby hd) rfl ((feq q).2) ho hT r) (KT q)
theorem o_ifNe (X : OW p l e R s m args below meth c Z y bytes mx ret n0 T h k n) {o : Int} {x : Int32} (hd : decode bytes pc = .ok (.ifCond .ne o, 3)) (pcT pcF : Nat) (ho : 0 ≤ (pc : Int) + o) (hT : ((pc : Int) + o).toNat = pcT) (hF : pc + 3 = pcF) (KT : ¬ x = 0 → OE p e R below s n0 Q T (mkF m pcT Ls st)) (KF : x = 0 → OE p e R below s n0 Q T (mkF m pcF Ls st)) : OE p e R below s n0 Q T (mkF m pc Ls (.int x :: st)) := by
  obtain ⟨hx, hZ, hown, hby, hmx, hret, hnm, hlk, h0, hT', locs, S, N⟩ := X; subst hF
  by_cases q : x = 0
  · exact OE.by (fun t r => XS.ifNo S.here hx rfl (hb hby hd) rfl ((if0 _ _).trans (teq q).2) r) (KF q)
  · exact OE.by (fun t r => XS.ifYes S.here hx rfl rfl (hb hby hd) rfl ((if0 _ _).trans (feq q).2) ho hT r) (KT q)
theorem o_icmpLt (X : OW p l e R s m args below meth c Z y bytes mx ret n0 T h k n) {o : Int} {x z : Int32} (hd : decode bytes pc = .ok (.if_icmp .lt o, 3)) (pcT pcF : Nat) (ho : 0 ≤ (pc : Int) + o) (hT : ((pc : Int) + o).toNat = pcT) (hF : pc + 3 = pcF) (KT : x < z → OE p e R below s n0 Q T (mkF m pcT Ls st)) (KF : ¬ x < z → OE p e R below s n0 Q T (mkF m pcF Ls st)) : OE p e R below s n0 Q T (mkF m pc Ls (.int z :: .int x :: st)) := by
  obtain ⟨hx, hZ, hown, hby, hmx, hret, hnm, hlk, h0, hT', locs, S, N⟩ := X; subst hF
  by_cases q : x < z
  · exact OE.by (fun t r => XS.icmpYes S.here hx rfl rfl (hb hby hd) rfl ((tlt q).1) ho hT r) (KT q)
  · exact OE.by (fun t r => XS.icmpNo S.here hx rfl (hb hby hd) rfl ((flt q).1) r) (KF q)
theorem o_ifLt (X : OW p l e R s m args below meth c Z y bytes mx ret n0 T h k n) {o : Int} {x : Int32} (hd : decode bytes pc = .ok (.ifCond .lt o, 3)) (pcT pcF : Nat) (ho : 0 ≤ (pc : Int) + o) (hT : ((pc : Int) + o).toNat = pcT) (hF : pc + 3 = pcF) (KT : x < 0 → OE p e R below s n0 Q T (mkF m pcT Ls st)) (KF : ¬ x < 0 → OE p e R below s n0 Q T (mkF m pcF Ls st)) : OE p e R below s n0 Q T (mkF m pc Ls (.int x :: st)) := by
  obtain ⟨hx, hZ, hown, hby, hmx, hret, hnm, hlk, h0, hT', locs, S, N⟩ := X; subst hF
  by_cases q : x < 0
  · exact OE.by (fun t r => XS.ifYes S.here hx rfl rfl (hb hby hd) rfl ((if0 _ _).trans (tlt q).1) ho hT r) (KT q)
  · exact OE.by (fun t r => XS.ifNo S.here hx rfl (hb hby hd) rfl ((if0 _ _).trans (flt q).1) r) (KF q)
theorem o_icmpGe (X : OW p l e R s m args below meth c Z y bytes mx ret n0 T h k n) {o : Int} {x z : Int32} (hd : decode bytes pc = .ok (.if_icmp .ge o, 3)) (pcT pcF : Nat) (ho : 0 ≤ (pc : Int) + o) (hT : ((pc : Int) + o).toNat = pcT) (hF : pc + 3 = pcF) (KT : ¬ x < z → OE p e R below s n0 Q T (mkF m pcT Ls st)) (KF : x < z → OE p e R below s n0 Q T (mkF m pcF Ls st)) : OE p e R below s n0 Q T (mkF m pc Ls (.int z :: .int x :: st)) := by
  obtain ⟨hx, hZ, hown, hby, hmx, hret, hnm, hlk, h0, hT', locs, S, N⟩ := X; subst hF
  by_cases q : x < z
  · exact OE.by (fun t r => XS.icmpNo S.here hx rfl (hb hby hd) rfl ((tlt q).2.1) r) (KF q)
  · exact OE.by (fun t r => XS.icmpYes S.here hx rfl rfl (hb hby hd) rfl ((flt q).2.1) ho hT r) (KT q)
theorem o_ifGe (X : OW p l e R s m args below meth c Z y bytes mx ret n0 T h k n) {o : Int} {x : Int32} (hd : decode bytes pc = .ok (.ifCond .ge o, 3)) (pcT pcF : Nat) (ho : 0 ≤ (pc : Int) + o) (hT : ((pc : Int) + o).toNat = pcT) (hF : pc + 3 = pcF) (KT : ¬ x < 0 → OE p e R below s n0 Q T (mkF m pcT Ls st)) (KF : x < 0 → OE p e R below s n0 Q T (mkF m pcF Ls st)) : OE p e R below s n0 Q T (mkF m pc Ls (.int x :: st)) := by
  obtain ⟨hx, hZ, hown, hby, hmx, hret, hnm, hlk, h0, hT', locs, S, N⟩ := X; subst hF
  by_cases q : x < 0
  · exact OE.by (fun t r => XS.ifNo S.here hx rfl (hb hby hd) rfl ((if0 _ _).trans (tlt q).2.1) r) (KF q)
  · exact OE.by (fun t r => XS.ifYes S.here hx rfl rfl (hb hby hd) rfl ((if0 _ _).trans (flt q).2.1) ho hT r) (KT q)
theorem o_icmpGt (X : OW p l e R s m args below meth c Z y bytes mx ret n0 T h k n) {o : Int} {x z : Int32} (hd : decode bytes pc = .ok (.if_icmp .gt o, 3)) (pcT pcF : Nat) (ho : 0 ≤ (pc : Int) + o) (hT : ((pc : Int) + o).toNat = pcT) (hF : pc + 3 = pcF) (KT : z < x → OE p e R below s n0 Q T (mkF m pcT Ls st)) (KF : ¬ z < x → OE p e R below s n0 Q T (mkF m pcF Ls st)) : OE p e R below s n0 Q T (mkF m pc Ls (.int z :: .int x :: st)) := by
  obtain ⟨hx, hZ, hown, hby, hmx, hret, hnm, hlk, h0, hT', locs, S, N⟩ := X; subst hF
  by_cases q : z < x
  · exact OE.by (fun t r => XS.icmpYes S.here hx rfl rfl (hb hby hd) rfl ((tlt q).2.2.1) ho hT r) (KT q)
  · exact OE.by (fun t r => XS.icmpNo S.here hx rfl (hb hby hd) rfl ((flt q).2.2.1) r) (KF q)
theorem o_ifGt (X : OW p l e R s m args below meth c Z y bytes mx ret n0 T h k n) {o : Int} {x : Int32} (hd : decode bytes pc = .ok (.ifCond .gt o, 3)) (pcT pcF : Nat) (ho : 0 ≤ (pc : Int) + o) (hT : ((pc : Int) + o).toNat = pcT) (hF : pc + 3 = pcF) (KT : 0 < x → OE p e R below s n0 Q T (mkF m pcT Ls st)) (KF : ¬ 0 < x → OE p e R below s n0 Q T (mkF m pcF Ls st)) : OE p e R below s n0 Q T (mkF m pc Ls (.int x :: st)) := by
  obtain ⟨hx, hZ, hown, hby, hmx, hret, hnm, hlk, h0, hT', locs, S, N⟩ := X; subst hF
  by_cases q : 0 < x
  · exact OE.by (fun t r => XS.ifYes S.here hx rfl rfl (hb hby hd) rfl ((if0 _ _).trans (tlt q).2.2.1) ho hT r) (KT q)
  · exact OE.by (fun t r => XS.ifNo S.here hx rfl (hb hby hd) rfl ((if0 _ _).trans (flt q).2.2.1) r) (KF q)
theorem o_icmpLe (X : OW p l e R s m args below meth c Z y bytes mx ret n0 T h k n) {o : Int} {x z : Int32} (hd : decode bytes pc = .ok (.if_icmp .le o, 3)) (pcT pcF : Nat) (ho : 0 ≤ (pc : Int) + o) (hT : ((pc : Int) + o).toNat = pcT) (hF : pc + 3 = pcF) (KT : ¬ z < x → OE p e R below s n0 Q T (mkF m pcT Ls st)) (KF : z < x → OE p e R below s n0 Q T (mkF m pcF Ls st)) : OE p e R below s n0 Q T (mkF m pc Ls (.int z :: .int x :: st)) := by
  obtain ⟨hx, hZ, hown, hby, hmx, hret, hnm, hlk, h0, hT', locs, S, N⟩ := X; subst hF
  by_cases q : z < x
  · exact OE.by (fun t r => XS.icmpNo S.here hx rfl (hb hby hd) rfl ((tlt q).2.2.2) r) (KF q)
  · exact OE.by (fun t r => XS.icmpYes S.here hx rfl rfl (hb hby hd) rfl ((flt q).2.2.2) ho hT r) (KT q)
theorem o_ifLe (X : OW p l e R s m args below meth c Z y bytes mx ret n0 T h k n) {o : Int} {x : Int32} (hd : decode bytes pc = .ok (.ifCond .le o, 3)) (pcT pcF : Nat) (ho : 0 ≤ (pc : Int) + o) (hT : ((pc : Int) + o).toNat = pcT) (hF : pc + 3 = pcF) (KT : ¬ 0 < x → OE p e R below s n0 Q T (mkF m pcT Ls st)) (KF : 0 < x → OE p e R below s n0 Q T (mkF m pcF Ls st)) : OE p e R below s n0 Q T (mkF m pc Ls (.int x :: st)) := by
  obtain ⟨hx, hZ, hown, hby, hmx, hret, hnm, hlk, h0, hT', locs, S, N⟩ := X; subst hF
  by_cases q : 0 < x
  · exact OE.by (fun t r => XS.ifNo S.here hx rfl (hb hby hd) rfl ((if0 _ _).trans (tlt q).2.2.2) r) (KF q)
  · exact OE.by (fun t r => XS.ifYes S.here hx rfl rfl (hb hby hd) rfl ((if0 _ _).trans (flt q).2.2.2) ho hT r) (KT q)
theorem o_ifnullR (X : OW p l e R s m args below meth c Z y bytes mx ret n0 T h k n) {o : Int} {a : Addr} (hd : decode bytes pc = .ok (.ifnull o, 3)) (pc' : Nat) (hp : pc + 3 = pc') (K : OE p e R below s n0 Q T (mkF m pc' Ls st)) : OE p e R below s n0 Q T (mkF m pc Ls (.ref a :: st)) := by
  obtain ⟨hx, hZ, hown, hby, hmx, hret, hnm, hlk, h0, hT, locs, S, N⟩ := X; subst hp
  exact OE.by (fun t q => XS.ifnullNo S.here hx rfl (hb hby hd) rfl q) K
theorem o_ifnonnullR (X : OW p l e R s m args below meth c Z y bytes mx ret n0 T h k n) {o : Int} {a : Addr} (hd : decode bytes pc = .ok (.ifnonnull o, 3)) (pc' : Nat) (ho : 0 ≤ (pc : Int) + o) (hp : ((pc : Int) + o).toNat = pc') (K : OE p e R below s n0 Q T (mkF m pc' Ls st)) : OE p e R below s n0 Q T (mkF m pc Ls (.ref a :: st)) := by
  obtain ⟨hx, hZ, hown, hby, hmx, hret, hnm, hlk, h0, hT, locs, S, N⟩ := X
  exact OE.by (fun t q => XT.ifnonnullYes S.here hx rfl rfl (hb hby hd) rfl ho hp q) K
theorem o_acmpEqN (X : OW p l e R s m args below meth c Z y bytes mx ret n0 T h k n) {o : Int} {a b : Addr} (hd : decode bytes pc = .ok (.if_acmp .eq o, 3)) (hab : a ≠ b) (pc' : Nat) (hp : pc + 3 = pc') (K : OE p e R below s n0 Q T (mkF m pc' Ls st)) : OE p e R below s n0 Q T (mkF m pc Ls (.ref b :: .ref a :: st)) := by
  obtain ⟨hx, hZ, hown, hby, hmx, hret, hnm, hlk, h0, hT, locs, S, N⟩ := X; subst hp
  exact OE.by (fun t q => XT.acmpNo S.here hx rfl (hb hby hd) rfl rfl rfl (decide_eq_false fun r => hab (Value.ref.inj r)) q) K
theorem o_acmpNeY (X : OW p l e R s m args below meth c Z y bytes mx ret n0 T h k n) {o : Int} {a b : Addr} (hd : decode bytes pc = .ok (.if_acmp .ne o, 3)) (hab : a ≠ b) (pc' : Nat) (ho : 0 ≤ (pc : Int) + o) (hp : ((pc : Int) + o).toNat = pc') (K : OE p e R below s n0 Q T (mkF m pc' Ls st)) : OE p e R below s n0 Q T (mkF m pc Ls (.ref b :: .ref a :: st)) := by
  obtain ⟨hx, hZ, hown, hby, hmx, hret, hnm, hlk, h0, hT, locs, S, N⟩ := X
  exact OE.by (fun t q => XT.acmpYes S.here hx rfl rfl (hb hby hd) rfl rfl rfl (decide_eq_true fun r => hab (Value.ref.inj r)) ho hp q) K
theorem o_ldc (X : OW p l e R s m args below meth c Z y bytes mx ret n0 T h k n) {i : Nat} {v : Int32} (hd : decode bytes pc = .ok (.ldc i, 2)) (w : (Cond.constant y.cls i v).before a0 Z = true) (pc' : Nat) (hp : pc + 2 = pc') (K : OE p e R below s n0 Q T (mkF m pc' Ls (.int v :: st))) : OE p e R below s n0 Q T (mkF m pc Ls st) := by
  obtain ⟨hx, hZ, hown, hby, hmx, hret, hnm, hlk, h0, hT, locs, S, N⟩ := X; subst hp
  exact OE.by (fun t q => S.ldcInt hx hown (mvT hZ w) (g := mkF m pc Ls st) rfl (hb hby hd) t q) K
theorem o_ldc2L (X : OW p l e R s m args below meth c Z y bytes mx ret n0 T h k n) {i : Nat} {v : Int64} (hd : decode bytes pc = .ok (.ldc2_w i, 3)) (w : (Cond.constantLong y.cls i v).before a0 Z = true) (pc' : Nat) (hp : pc + 3 = pc') (K : OE p e R below s n0 Q T (mkF m pc' Ls (.long v :: st))) : OE p e R below s n0 Q T (mkF m pc Ls st) := by
  obtain ⟨hx, hZ, hown, hby, hmx, hret, hnm, hlk, h0, hT, locs, S, N⟩ := X; subst hp
  exact OE.by (fun t q => S.ldc2Long hx hown (mvT hZ w) (g := mkF m pc Ls st) rfl (hb hby hd) t q) K
theorem o_retZ (X : OW p l e R s m args below meth c Z y bytes mx (some .boolean) n0 T h k n) {z : Int32} (hd : decode bytes pc = .ok (.ireturn, 1)) (hk : k ≤ R.cells) (hn : n ≤ R.slots) (hq : Q (some (.int (nar .boolean z))) h) : OE p e R below s n0 Q T (mkF m pc Ls (.int z :: st)) := by
  obtain ⟨hx, hZ, hown, hby, hmx, hret, hnm, hlk, h0, hT, locs, S, N⟩ := X
  obtain ⟨fs, hr, hrun, hended, hW, hsame⟩ := S.leave (v := some (.int (nar .boolean z))) (fun q => by rw [hret] at q; cases q) hlk
  exact ⟨_, _, retN S hx (t := .boolean) hret (by simp) (hb hby hd) hr, hrun, hended, _, _, rfl, ⟨by show Q _ T.heap; rw [hT]; exact hq, N⟩, ⟨_, rfl⟩, hW, hsame.mono hk hn⟩
theorem o_retB (X : OW p l e R s m args below meth c Z y bytes mx (some .byte) n0 T h k n) {z : Int32} (hd : decode bytes pc = .ok (.ireturn, 1)) (hk : k ≤ R.cells) (hn : n ≤ R.slots) (hq : Q (some (.int (nar .byte z))) h) : OE p e R below s n0 Q T (mkF m pc Ls (.int z :: st)) := by
  obtain ⟨hx, hZ, hown, hby, hmx, hret, hnm, hlk, h0, hT, locs, S, N⟩ := X
  obtain ⟨fs, hr, hrun, hended, hW, hsame⟩ := S.leave (v := some (.int (nar .byte z))) (fun q => by rw [hret] at q; cases q) hlk
  exact ⟨_, _, retN S hx (t := .byte) hret (by simp) (hb hby hd) hr, hrun, hended, _, _, rfl, ⟨by show Q _ T.heap; rw [hT]; exact hq, N⟩, ⟨_, rfl⟩, hW, hsame.mono hk hn⟩
theorem o_retC (X : OW p l e R s m args below meth c Z y bytes mx (some .char) n0 T h k n) {z : Int32} (hd : decode bytes pc = .ok (.ireturn, 1)) (hk : k ≤ R.cells) (hn : n ≤ R.slots) (hq : Q (some (.int (nar .char z))) h) : OE p e R below s n0 Q T (mkF m pc Ls (.int z :: st)) := by
  obtain ⟨hx, hZ, hown, hby, hmx, hret, hnm, hlk, h0, hT, locs, S, N⟩ := X
  obtain ⟨fs, hr, hrun, hended, hW, hsame⟩ := S.leave (v := some (.int (nar .char z))) (fun q => by rw [hret] at q; cases q) hlk
  exact ⟨_, _, retN S hx (t := .char) hret (by simp) (hb hby hd) hr, hrun, hended, _, _, rfl, ⟨by show Q _ T.heap; rw [hT]; exact hq, N⟩, ⟨_, rfl⟩, hW, hsame.mono hk hn⟩
theorem o_retI (X : OW p l e R s m args below meth c Z y bytes mx (some .int) n0 T h k n) {z : Int32} (hd : decode bytes pc = .ok (.ireturn, 1)) (hk : k ≤ R.cells) (hn : n ≤ R.slots) (hq : Q (some (.int z)) h) : OE p e R below s n0 Q T (mkF m pc Ls (.int z :: st)) := by
  obtain ⟨hx, hZ, hown, hby, hmx, hret, hnm, hlk, h0, hT, locs, S, N⟩ := X
  obtain ⟨fs, hr, hrun, hended, hW, hsame⟩ := S.leave (v := some (.int z)) (fun q => by rw [hret] at q; cases q) hlk
  exact ⟨_, _, retOut S hx hret rfl (Or.inl ⟨rfl, Or.inl rfl, z, rfl⟩) (hb hby hd) hr, hrun, hended, _, _, rfl, ⟨by show Q _ T.heap; rw [hT]; exact hq, N⟩, ⟨_, rfl⟩, hW, hsame.mono hk hn⟩
theorem o_retJ (X : OW p l e R s m args below meth c Z y bytes mx (some .long) n0 T h k n) {z : Int64} (hd : decode bytes pc = .ok (.lreturn, 1)) (hk : k ≤ R.cells) (hn : n ≤ R.slots) (hq : Q (some (.long z)) h) : OE p e R below s n0 Q T (mkF m pc Ls (.long z :: st)) := by
  obtain ⟨hx, hZ, hown, hby, hmx, hret, hnm, hlk, h0, hT, locs, S, N⟩ := X
  obtain ⟨fs, hr, hrun, hended, hW, hsame⟩ := S.leave (v := some (.long z)) (fun q => by rw [hret] at q; cases q) hlk
  exact ⟨_, _, retOut S hx hret rfl (Or.inr (Or.inl ⟨rfl, rfl, z, rfl⟩)) (hb hby hd) hr, hrun, hended, _, _, rfl, ⟨by show Q _ T.heap; rw [hT]; exact hq, N⟩, ⟨_, rfl⟩, hW, hsame.mono hk hn⟩
theorem o_retA {ty : FieldType} (X : OW p l e R s m args below meth c Z y bytes mx (some ty) n0 T h k n) (hty : ty.isReference = true) {a : Addr} (hnar : narrow ty (.ref a) = .ref a) (hd : decode bytes pc = .ok (.areturn, 1)) (hk : k ≤ R.cells) (hn : n ≤ R.slots) (hq : Q (some (.ref a)) h) : OE p e R below s n0 Q T (mkF m pc Ls (.ref a :: st)) := by
  obtain ⟨hx, hZ, hown, hby, hmx, hret, hnm, hlk, h0, hT, locs, S, N⟩ := X
  obtain ⟨fs, hr, hrun, hended, hW, hsame⟩ := S.leave (v := some (.ref a)) (fun q => by rw [hret] at q; cases q) hlk
  exact ⟨_, _, retOut S hx hret hnar (Or.inr (Or.inr (Or.inr (Or.inr ⟨rfl, hty, rfl⟩)))) (hb hby hd) hr, hrun, hended, _, _, rfl, ⟨by show Q _ T.heap; rw [hT]; exact hq, N⟩, ⟨_, rfl⟩, hW, hsame.mono hk hn⟩
theorem o_ret (X : OW p l e R s m args below meth c Z y bytes mx none n0 T h k n) (hd : decode bytes pc = .ok (.return_, 1)) (hk : k ≤ R.cells) (hn : n ≤ R.slots) (hq : Q none h) : OE p e R below s n0 Q T (mkF m pc Ls []) := by
  obtain ⟨hx, hZ, hown, hby, hmx, hret, hnm, hlk, h0, hT, locs, S, N⟩ := X
  obtain ⟨fs, hr, hrun, hended, hW, hsame⟩ := S.leave (v := none) (fun _ => rfl) hlk
  exact ⟨_, _, S.returnOut hx hret (hb hby hd) hr, hrun, hended, _, _, rfl, ⟨by show Q _ T.heap; rw [hT]; exact hq, N⟩, ⟨_, rfl⟩, hW, hsame.mono hk hn⟩
/-! the heap: a list of places, each with what its cell says -/
def OA (Z : State) (ty : FieldType) (vs : List Int32) (c : Cell) : Prop := Z.isArrayOf c ty ∧ c.vm ≠ .unknown ∧ c.slots = (vs.map Value.int).toArray ∧ (∀ x ∈ vs, fits ty (.int x) = true) ∧ Z.vm.findClass ("[" ++ ty.toString) = some c.cls
def OL (n0 : Nat) (h : Heap) (L : List (Addr × (Cell → Prop))) : Prop := (L.map (·.1)).Nodup ∧ ∀ q ∈ L, n0 ≤ q.1 ∧ ∃ c : Cell, h[q.1]? = some c ∧ q.2 c
variable {L : List (Addr × (Cell → Prop))} {h' : Heap} {a : Addr} {ty : FieldType} {vs : List Int32} {PP : Cell → Prop}
theorem OL.nil : OL n0 h [] := ⟨List.nodup_nil, fun _ q => nomatch q⟩
theorem OL.ext (H : OL n0 h L) (E : Ext h h') : OL n0 h' L := ⟨H.1, fun q hq => by obtain ⟨h1, c, h2, h3⟩ := H.2 q hq; exact ⟨h1, c, E.2 _ _ h2, h3⟩⟩
theorem OL.lt (H : OL n0 h L) {q : Addr × (Cell → Prop)} (hq : q ∈ L) : q.1 < h.size := by obtain ⟨-, c, h2, -⟩ := H.2 q hq; exact (Array.getElem?_eq_some_iff.mp h2).1
theorem OL.push (H : OL n0 h L) (E : Ext h h') (h0 : n0 ≤ h.size) {c : Cell} (hc : h'[h.size]? = some c) (hp : PP c) : OL n0 h' ((h.size, PP) :: L) := by
  refine ⟨?_, fun q hq => ?_⟩
  · rw [List.map_cons, List.nodup_cons]
    refine ⟨fun hx => ?_, H.1⟩
    obtain ⟨q, hq, e⟩ := List.mem_map.mp hx
    have e' : q.1 = h.size := e
    exact absurd (H.lt hq) (by rw [e']; exact Nat.lt_irrefl _)
  · rcases List.mem_cons.mp hq with hq | hq
    · cases hq; exact ⟨h0, c, hc, hp⟩
    · exact (H.ext E).2 q hq
theorem OL.perm {L' : List (Addr × (Cell → Prop))} (H : OL n0 h L) (q : L.Perm L') : OL n0 h L' := ⟨(q.map (·.1)).nodup_iff.mp H.1, fun z hz => H.2 z (q.mem_iff.mpr hz)⟩
/-- the i-th place comes to the front -/
theorem OL.front (H : OL n0 h L) (i : Nat) {q : Addr × (Cell → Prop)} (hi : L[i]? = some q) : OL n0 h (q :: L.eraseIdx i) := by
  obtain ⟨hl, e⟩ := List.getElem?_eq_some_iff.mp hi
  refine H.perm ?_
  have e1 : L = L.take i ++ q :: L.drop (i + 1) := by rw [← e, List.getElem_cons_drop]; exact (List.take_append_drop i L).symm
  have e2 : L.eraseIdx i = L.take i ++ L.drop (i + 1) := List.eraseIdx_eq_take_drop_succ L i
  rw [e2]
  exact (List.Perm.of_eq e1).trans List.perm_middle
theorem OL.get (H : OL n0 h L) {i : Nat} (hi : L[i]? = some (a, PP)) : n0 ≤ a ∧ ∃ c : Cell, h[a]? = some c ∧ PP c := H.2 (a, PP) (List.mem_of_getElem? hi)
theorem OL.ne (H : OL n0 h L) {i j : Nat} {b : Addr} {PB : Cell → Prop} (hi : L[i]? = some (a, PP)) (hj : L[j]? = some (b, PB)) (hij : i ≠ j) : a ≠ b := by
  intro e; subst e
  have h1 : (L.map (·.1))[i]? = some a := by simp [hi]
  have h2 : (L.map (·.1))[j]? = some a := by simp [hj]
  obtain ⟨l1, -⟩ := List.getElem?_eq_some_iff.mp h1
  exact hij ((List.getElem?_inj l1 H.1).mp (h1.trans h2.symm))
theorem OL.wr (H : OL n0 h L) {i sl : Nat} {v : Value} {P' : Cell → Prop} (hi : L[i]? = some (a, PP)) (W : Wr h h' a sl v) (hP : ∀ c : Cell, h[a]? = some c → PP c → P' (c.setSlot sl v)) : OL n0 h' (L.set i (a, P')) := by
  have hmap : (L.set i (a, P')).map (·.1) = L.map (·.1) := by
    apply List.ext_getElem?
    intro j
    simp only [List.getElem?_map, List.getElem?_set]
    split
    · rename_i e; subst e; rw [if_pos (List.getElem?_eq_some_iff.mp hi).1, hi]; rfl
    · rfl
  refine ⟨by rw [hmap]; exact H.1, fun q hq => ?_⟩
  obtain ⟨j, hj⟩ := List.getElem?_of_mem hq
  rw [List.getElem?_set] at hj
  split at hj
  · rename_i e; subst e
    split at hj
    · cases hj
      obtain ⟨h1, c, h2, h3⟩ := H.get hi
      obtain ⟨c', e1, -, -, -, -, -, e7⟩ := wr_at W h2
      exact ⟨h1, c', e1, by rw [(e7 rfl).1]; exact hP c h2 h3⟩
    · cases hj
  · rename_i e
    obtain ⟨b, PB⟩ := q
    obtain ⟨h1, c, h2, h3⟩ := H.get hj
    obtain ⟨c', e1, -, -, -, e5, -⟩ := wr_at W h2
    have := e5 (H.ne hj hi (fun r => e r.symm))
    subst this
    exact ⟨h1, c', e1, h3⟩
theorem OA.set {c : Cell} {j : Nat} {x : Int32} (A : OA Z ty vs c) (hf : fits ty (.int x) = true) : OA Z ty (vs.set j x) (c.setSlot j (.int x)) := by
  obtain ⟨h1, h2, h3, h4, h5⟩ := A
  refine ⟨h1, h2, ?_, fun z hz => ?_, h5⟩
  · show c.slots.setIfInBounds j (.int x) = _
    rw [h3]; simp [List.map_set]
  · rcases List.mem_or_eq_of_mem_set hz with q | q
    · exact h4 z q
    · rw [q]; exact hf
theorem OA.new {k : ClassId} {z : Int32} {N : Nat} (hN : z.toInt = N) (hd : defaultValue ty = .int 0) (hf : fits ty (.int 0) = true) (A : Arr Z h a (newA k ty z) ty) (E : Exa Z h a ("[" ++ ty.toString)) : OA Z ty (List.replicate N 0) (newA k ty z) := by
  obtain ⟨c, kk, e1, e2, -⟩ := E
  cases A.1.symm.trans e1
  refine ⟨A.2.1, A.2.2, ?_, fun x hx => by rw [List.eq_of_mem_replicate hx]; exact hf, e2⟩
  have e : z.toNatClampNeg = N := by simp only [Int32.toNatClampNeg, hN]; rfl
  show Array.replicate z.toNatClampNeg (defaultValue ty) = _
  rw [e, hd]; simp
theorem o_idx {j : Int32} {i N : Nat} (hj : j.toInt = i) (hi : i < N) : ¬ (j < 0 ∨ N ≤ j.toNatClampNeg) ∧ j.toNatClampNeg = i := by
  have e : j.toNatClampNeg = i := by simp only [Int32.toNatClampNeg, hj]; rfl
  refine ⟨?_, e⟩
  rw [e, Int32.lt_iff_toInt_lt, hj, show (0 : Int32).toInt = 0 from rfl]; omega
theorem OA.size {c : Cell} (A : OA Z ty vs c) : c.slots.size = vs.length := by rw [A.2.2.1]; simp
theorem o_newarray (X : OW p l e R s m args below meth c Z y bytes mx ret n0 T h k n) (H : OL n0 h L) {aty : ArrayType} (hd : decode bytes pc = .ok (.newarray aty, 2)) (w : (Cond.arrayClass (newarray.typeOf aty)).before a0 Z = true) (hdv : defaultValue (newarray.typeOf aty) = .int 0) (hfv : fits (newarray.typeOf aty) (.int 0) = true) {z : Int32} (N cap : Nat) (hN : z.toInt = N) (hcap : N ≤ cap) (hb8 : cap * 8 ≤ 536870912) (k2 n2 : Nat) (hk2 : k + 1 = k2) (hn2 : n + cap = n2) (hc : k2 ≤ R.cells) (hl : n2 ≤ R.slots) (pc' : Nat) (hp : pc + 2 = pc')
    (K : ∀ T' h' a, OW p l e R s m args below meth c Z y bytes mx ret n0 T' h' k2 n2 → OL n0 h' ((a, OA Z (newarray.typeOf aty) (List.replicate N 0)) :: L) → OE p e R below s n0 Q T' (mkF m pc' Ls (.ref a :: st))) : OE p e R below s n0 Q T (mkF m pc Ls (.int z :: st)) := by
  have h0 := X.size
  obtain ⟨hx, hZ, hown, hby, hmx, hret, hnm, hlk, hn0, hT, locs, S, N0⟩ := X; subst hp hk2 hn2
  obtain ⟨T', h', cA, S', hT', E, A, EX, stp⟩ := newPE S hx hZ w hT (g := mkF m pc Ls (.int z :: st)) rfl (hb hby hd) rfl (by rw [Int32.lt_iff_toInt_lt, hN, show (0 : Int32).toInt = 0 from rfl]; omega) (cap := cap) (by simp only [Int32.toNatClampNeg, hN]; exact hcap) hb8 hc hl rfl
  exact OE.by stp (K T' h' h.size ⟨hx, hZ, hown, hby, hmx, hret, hnm, hlk, hn0, hT', locs, S', N0⟩ (H.push E h0 A.1 (OA.new hN hdv hfv A EX)))
theorem o_arraylength (X : OW p l e R s m args below meth c Z y bytes mx ret n0 T h k n) (H : OL n0 h L) (i : Nat) (hi : L[i]? = some (a, OA Z ty vs)) (hd : decode bytes pc = .ok (.arraylength, 1)) (z : Int32) (hz : Int32.ofNat vs.length = z) (pc' : Nat) (hp : pc + 1 = pc')
    (K : OE p e R below s n0 Q T (mkF m pc' Ls (.int z :: st))) : OE p e R below s n0 Q T (mkF m pc Ls (.ref a :: st)) := by
  obtain ⟨hx, hZ, hown, hby, hmx, hret, hnm, hlk, hn0, hT, locs, S, N0⟩ := X; subst hp
  obtain ⟨h1, c', h2, A⟩ := H.get hi
  refine OE.by (fun t q => S.arraylength hx (by rw [hT]; exact h2) (State.isArrayOf_alike hZ.alike A.1) (g := mkF m pc Ls (.ref a :: st)) rfl rfl (hb hby hd) t ?_) K
  have e1 : c'.slots.size.toInt32 = z := by rw [A.size]; exact hz
  rw [e1]; exact q
theorem o_iaload (X : OW p l e R s m args below meth c Z y bytes mx ret n0 T h k n) (H : OL n0 h L) (i : Nat) (hi : L[i]? = some (a, OA Z .int vs)) (hd : decode bytes pc = .ok (.iaload, 1)) {j : Int32} (jn : Nat) (hj : j.toInt = jn) (v : Int32) (hv : vs[jn]? = some v) (pc' : Nat) (hp : pc + 1 = pc')
    (K : OE p e R below s n0 Q T (mkF m pc' Ls (.int v :: st))) : OE p e R below s n0 Q T (mkF m pc Ls (.int j :: .ref a :: st)) := by
  obtain ⟨hx, hZ, hown, hby, hmx, hret, hnm, hlk, hn0, hT, locs, S, N0⟩ := X; subst hp
  obtain ⟨h1, c', h2, A⟩ := H.get hi
  have hlt := (List.getElem?_eq_some_iff.mp hv).1
  obtain ⟨q1, q2⟩ := o_idx hj (N := c'.slots.size) (by rw [A.size]; exact hlt)
  exact OE.by (fun t q => S.iaload hx (by rw [hT]; exact h2) (State.isArrayOf_alike hZ.alike A.1) A.2.1 q1 (v := .int v) (by rw [q2, A.2.2.1]; simp [hv]) (g := mkF m pc Ls (.int j :: .ref a :: st)) rfl rfl (hb hby hd) t q) K
theorem o_baloadB (X : OW p l e R s m args below meth c Z y bytes mx ret n0 T h k n) (H : OL n0 h L) (i : Nat) (hi : L[i]? = some (a, OA Z .byte vs)) (hd : decode bytes pc = .ok (.baload, 1)) {j : Int32} (jn : Nat) (hj : j.toInt = jn) (v : Int32) (hv : vs[jn]? = some v) (pc' : Nat) (hp : pc + 1 = pc')
    (K : OE p e R below s n0 Q T (mkF m pc' Ls (.int v :: st))) : OE p e R below s n0 Q T (mkF m pc Ls (.int j :: .ref a :: st)) := by
  obtain ⟨hx, hZ, hown, hby, hmx, hret, hnm, hlk, hn0, hT, locs, S, N0⟩ := X; subst hp
  obtain ⟨h1, c', h2, A⟩ := H.get hi
  have hlt := (List.getElem?_eq_some_iff.mp hv).1
  obtain ⟨q1, q2⟩ := o_idx hj (N := c'.slots.size) (by rw [A.size]; exact hlt)
  exact OE.by (fun t q => S.baloadBytes hx (by rw [hT]; exact h2) (State.isArrayOf_alike hZ.alike A.1) A.2.1 q1 (v := .int v) (by rw [q2, A.2.2.1]; simp [hv]) (g := mkF m pc Ls (.int j :: .ref a :: st)) rfl rfl (hb hby hd) t q) K
theorem o_baloadZ (X : OW p l e R s m args below meth c Z y bytes mx ret n0 T h k n) (H : OL n0 h L) (i : Nat) (hi : L[i]? = some (a, OA Z .boolean vs)) (hd : decode bytes pc = .ok (.baload, 1)) {j : Int32} (jn : Nat) (hj : j.toInt = jn) (v : Int32) (hv : vs[jn]? = some v) (pc' : Nat) (hp : pc + 1 = pc')
    (K : OE p e R below s n0 Q T (mkF m pc' Ls (.int v :: st))) : OE p e R below s n0 Q T (mkF m pc Ls (.int j :: .ref a :: st)) := by
  obtain ⟨hx, hZ, hown, hby, hmx, hret, hnm, hlk, hn0, hT, locs, S, N0⟩ := X; subst hp
  obtain ⟨h1, c', h2, A⟩ := H.get hi
  have hlt := (List.getElem?_eq_some_iff.mp hv).1
  obtain ⟨q1, q2⟩ := o_idx hj (N := c'.slots.size) (by rw [A.size]; exact hlt)
  exact OE.by (fun t q => S.baloadBooleans hx (by rw [hT]; exact h2) (State.isArrayOf_alike hZ.alike A.1) A.2.1 q1 (v := .int v) (by rw [q2, A.2.2.1]; simp [hv]) (g := mkF m pc Ls (.int j :: .ref a :: st)) rfl rfl (hb hby hd) t q) K
theorem o_iastore (X : OW p l e R s m args below meth c Z y bytes mx ret n0 T h k n) (H : OL n0 h L) (i : Nat) (hi : L[i]? = some (a, OA Z .int vs)) (hd : decode bytes pc = .ok (.iastore, 1)) {j x : Int32} (jn : Nat) (hj : j.toInt = jn) (hlt : jn < vs.length) (pc' : Nat) (hp : pc + 1 = pc')
    (K : ∀ T' h', OW p l e R s m args below meth c Z y bytes mx ret n0 T' h' k n → OL n0 h' (L.set i (a, OA Z .int (vs.set jn x))) → OE p e R below s n0 Q T' (mkF m pc' Ls st)) : OE p e R below s n0 Q T (mkF m pc Ls (.int x :: .int j :: .ref a :: st)) := by
  obtain ⟨hx, hZ, hown, hby, hmx, hret, hnm, hlk, hn0, hT, locs, S, N0⟩ := X; subst hp
  obtain ⟨h1, c', h2, A⟩ := H.get hi
  obtain ⟨q1, q2⟩ := o_idx hj (N := c'.slots.size) (by rw [A.size]; exact hlt)
  obtain ⟨T', h', S', hT', W, stp⟩ := stI S hx hZ hT ⟨h2, A.1, A.2.1⟩ q1 (x := x) (g := mkF m pc Ls (.int x :: .int j :: .ref a :: st)) rfl rfl (hb hby hd)
  rw [q2] at W S'
  exact OE.by stp (K T' h' ⟨hx, hZ, hown, hby, hmx, hret, hnm, hlk, hn0, hT', _, S', N0.app fun z hz => by cases List.mem_singleton.mp hz; exact h1⟩ (H.wr hi W fun c _ B => B.set rfl))
theorem o_bastoreB (X : OW p l e R s m args below meth c Z y bytes mx ret n0 T h k n) (H : OL n0 h L) (i : Nat) (hi : L[i]? = some (a, OA Z .byte vs)) (hd : decode bytes pc = .ok (.bastore, 1)) {j x : Int32} (jn : Nat) (hj : j.toInt = jn) (hlt : jn < vs.length) (v : Int32) (hv : x.toInt8.toInt32 = v) (pc' : Nat) (hp : pc + 1 = pc')
    (K : ∀ T' h', OW p l e R s m args below meth c Z y bytes mx ret n0 T' h' k n → OL n0 h' (L.set i (a, OA Z .byte (vs.set jn v))) → OE p e R below s n0 Q T' (mkF m pc' Ls st)) : OE p e R below s n0 Q T (mkF m pc Ls (.int x :: .int j :: .ref a :: st)) := by
  obtain ⟨hx, hZ, hown, hby, hmx, hret, hnm, hlk, hn0, hT, locs, S, N0⟩ := X; subst hp hv
  obtain ⟨h1, c', h2, A⟩ := H.get hi
  obtain ⟨q1, q2⟩ := o_idx hj (N := c'.slots.size) (by rw [A.size]; exact hlt)
  obtain ⟨T', h', S', hT', W, stp⟩ := stB S hx hZ hT ⟨h2, A.1, A.2.1⟩ q1 (x := x) (g := mkF m pc Ls (.int x :: .int j :: .ref a :: st)) rfl rfl (hb hby hd)
  rw [q2] at W S'
  exact OE.by stp (K T' h' ⟨hx, hZ, hown, hby, hmx, hret, hnm, hlk, hn0, hT', _, S', N0.app fun z hz => by cases List.mem_singleton.mp hz; exact h1⟩ (H.wr hi W fun c _ B => B.set (fits_nar_byte x)))
theorem o_bastoreZ (X : OW p l e R s m args below meth c Z y bytes mx ret n0 T h k n) (H : OL n0 h L) (i : Nat) (hi : L[i]? = some (a, OA Z .boolean vs)) (hd : decode bytes pc = .ok (.bastore, 1)) {j x : Int32} (jn : Nat) (hj : j.toInt = jn) (hlt : jn < vs.length) (v : Int32) (hv : nar .boolean x = v) (pc' : Nat) (hp : pc + 1 = pc')
    (K : ∀ T' h', OW p l e R s m args below meth c Z y bytes mx ret n0 T' h' k n → OL n0 h' (L.set i (a, OA Z .boolean (vs.set jn v))) → OE p e R below s n0 Q T' (mkF m pc' Ls st)) : OE p e R below s n0 Q T (mkF m pc Ls (.int x :: .int j :: .ref a :: st)) := by
  obtain ⟨hx, hZ, hown, hby, hmx, hret, hnm, hlk, hn0, hT, locs, S, N0⟩ := X; subst hp hv
  obtain ⟨h1, c', h2, A⟩ := H.get hi
  obtain ⟨q1, q2⟩ := o_idx hj (N := c'.slots.size) (by rw [A.size]; exact hlt)
  obtain ⟨T', h', S', hT', W, stp⟩ := stZ S hx hZ hT ⟨h2, A.1, A.2.1⟩ q1 (x := x) (g := mkF m pc Ls (.int x :: .int j :: .ref a :: st)) rfl rfl (hb hby hd)
  rw [q2] at W S'
  exact OE.by stp (K T' h' ⟨hx, hZ, hown, hby, hmx, hret, hnm, hlk, hn0, hT', _, S', N0.app fun z hz => by cases List.mem_singleton.mp hz; exact h1⟩ (H.wr hi W fun c _ B => B.set (fits_nar_bool x)))
theorem o_b8 (x : Int32) : x.toInt8.toInt32.toInt8.toInt32 = x.toInt8.toInt32 := by simp
/-! contracts and calls -/
def OC (l : Launch) (Z : State) (y : MethodName) (bytes : ByteArray) (mx : Nat) (ret : Option FieldType) (ws : List Jvm.Cond) (rm : Room) (n0 : Nat) (as' : Array Value) (h0 : Heap) (Q : Option Value → Heap → Prop) : Prop :=
  MetFree l y (head1 (Jvm.Cond.code y bytes mx ret :: ws) rm) (fun a U => a = as' ∧ Z.Warmed39 U.vm ∧ U.heap = h0) (fun _ _ _ _ _ => True) (fun _ U o U' => ∃ v L, o = .returned v ∧ (Q v U'.heap ∧ Fr n0 L) ∧ FrameEnd U o U' L rm.cells rm.slots)
theorem OC.of {ws : List Jvm.Cond} {rm : Room} {as' : Array Value} {h0 : Heap} (hp : plainFor y = true) (hn : n0 ≤ h0.size) (Ls : Array Slot) (hef : ∀ m : MethodId, entryFrame m as' mx = mkF m 0 Ls [])
    (B : ∀ p e s m below meth c T, OW p l e rm s m as' below meth c Z y bytes mx ret n0 T h0 0 0 → ∀ Q' : Option Value → Heap → Prop, (∀ r h, Q r h → Q' r h) → OE p e rm below s n0 Q' T (mkF m 0 Ls [])) : OC l Z y bytes mx ret ws rm n0 as' h0 Q := by
  refine MetFree.of_bodySF hp hisR ?_
  intro p e s m args below meth c s₁ Bd hml0 hP hK
  obtain ⟨rfl, hZ, hh⟩ := hP
  have hnm := (name_of_methodNamed Bd.named Bd.method).1
  have X0 : Stand p l e rm s m args below meth c s₁ [] 0 0 := Stand.of_body Bd
  have e0 : s₁.heap = h0 := by rw [← hh, Bd.state]; rfl
  rw [hef m]
  exact B p e s m below meth c s₁ ⟨Bd.exec, hZ, findClass_of_methodNamed Bd.named, Bd.bytes, hml0, Bd.returns, hnm, Bd.notSynchronized, by rw [hh]; exact hn, e0, [], X0, Fr.nil n0⟩ Q (fun _ _ q => q)
theorem o_callS (X : OW p l e R s m args below meth c Z y bytes mx ret n0 T h k n) {i : Nat} (hd : decode bytes pc = .ok (.invokestatic i, 3)) {y' : MethodName} {bytes' : ByteArray} {mx' : Nat} {ret' : Option FieldType} {rm : Room} {as' : Array Value} {Q' : Option Value → Heap → Prop} (C : OC l Z y' bytes' mx' ret' [] rm n0 as' h Q')
    (w1 : (Cond.methodLink y.cls i y').before a0 Z = true) (w2 : (Cond.static y').before a0 Z = true) (w3 : (Cond.initialized y'.cls).before a0 Z = true) (w4 : (Cond.code y' bytes' mx' ret').before a0 Z = true) (hy : y'.cls ≠ "java/lang/invoke/MethodHandle" ∧ y'.cls ≠ "java/lang/invoke/VarHandle")
    (Wd : Nat) (hf : rm.frames + 1 ≤ R.frames) (hlo : Wd + (mx' + 11) + rm.locals ≤ R.locals) (hls : Ls.size = mx) (argsL : List Value) (has : as' = argsL.toArray) {ps : List FieldType} {r' : Option FieldType} (hpd : parseMethodDescriptor y'.desc = some ⟨ps, r'⟩) (hlen : argsL.length = ps.length) (hst : st = argsL.reverse ++ rest) (hW : (rest.map fun v => v.category).sum ≤ Wd) (k2 n2 : Nat) (hk2 : k + rm.cells = k2) (hn2 : n + rm.slots = n2) (hk : k2 ≤ R.cells) (hn : n2 ≤ R.slots) (pc' : Nat) (hp : pc + 3 = pc')
    (K : ∀ v T' h', OW p l e R s m args below meth c Z y bytes mx ret n0 T' h' k2 n2 → Q' v h' → OE p e R below s n0 Q T' (mkF m pc' Ls (v.toList ++ rest))) : OE p e R below s n0 Q T (mkF m pc Ls st) := by
  obtain ⟨hx, hZ, hown, hby, hmx, hret, hnm, hlk, hn0, hT, locs, S, N0⟩ := X; subst hp has hk2 hn2
  obtain ⟨v, _, ⟨T2, L2, k2, n2⟩, -, X2, ⟨Lc, hQ, l2, y2, z2⟩, stp⟩ := Jvm.LawKit.callS S hx (y := y') hown (mvT hZ w1) (mvT hZ w2) (mvT hZ w3) (mvT hZ w4) hy (backOf (W := Wd) (Q := fun v hh LL => Q' v hh ∧ Fr n0 LL) C hZ w4 w3 hf hlo) (g := mkF m pc Ls st) rfl (by rw [hmx]; exact hls) (argsL := argsL) (rest := rest) (lenOf hpd hlen) hst (by show 2 * 0 + _ ≤ _; omega) (hb hby hd) (fun _ _ => ⟨rfl, hT, hk, hn⟩)
  dsimp only [Pt.U, Pt.locs, Pt.cells, Pt.slots] at X2 l2 y2 z2 stp hQ
  subst l2 y2 z2
  exact OE.by stp (K v T2 T2.heap ⟨hx, hZ, hown, hby, hmx, hret, hnm, hlk, hn0, rfl, _, X2, N0.app hQ.2⟩ hQ.1)
end OwnKit
theorem d1_0 : decode prog_39_method_9_code 0 = .ok (.iload_n 2, 1) := by decide +kernel
theorem d1_1 : decode prog_39_method_9_code 1 = .ok (.istore_n 3, 1) := by decide +kernel
theorem d1_2 : decode prog_39_method_9_code 2 = .ok (.iload_n 0, 1) := by decide +kernel
theorem d1_3 : decode prog_39_method_9_code 3 = .ok (.sipush 128, 3) := by decide +kernel
theorem d1_6 : decode prog_39_method_9_code 6 = .ok (.if_icmp .ge 14, 3) := by decide +kernel
theorem d1_9 : decode prog_39_method_9_code 9 = .ok (.aload_n 1, 1) := by decide +kernel
theorem d1_10 : decode prog_39_method_9_code 10 = .ok (.iload_n 3, 1) := by decide +kernel
theorem d1_11 : decode prog_39_method_9_code 11 = .ok (.iinc 3 1, 3) := by decide +kernel
theorem d1_14 : decode prog_39_method_9_code 14 = .ok (.iload_n 0, 1) := by decide +kernel
theorem d1_15 : decode prog_39_method_9_code 15 = .ok (.i2b, 1) := by decide +kernel
theorem d1_16 : decode prog_39_method_9_code 16 = .ok (.bastore, 1) := by decide +kernel
theorem d1_17 : decode prog_39_method_9_code 17 = .ok (.goto 166, 3) := by decide +kernel
theorem d1_20 : decode prog_39_method_9_code 20 = .ok (.iload_n 0, 1) := by decide +kernel
theorem d1_21 : decode prog_39_method_9_code 21 = .ok (.sipush 2048, 3) := by decide +kernel
theorem d1_24 : decode prog_39_method_9_code 24 = .ok (.if_icmp .ge 36, 3) := by decide +kernel
theorem d1_27 : decode prog_39_method_9_code 27 = .ok (.aload_n 1, 1) := by decide +kernel
theorem d1_28 : decode prog_39_method_9_code 28 = .ok (.iload_n 3, 1) := by decide +kernel
theorem d1_29 : decode prog_39_method_9_code 29 = .ok (.iinc 3 1, 3) := by decide +kernel
theorem d1_32 : decode prog_39_method_9_code 32 = .ok (.sipush 192, 3) := by decide +kernel
theorem d1_35 : decode prog_39_method_9_code 35 = .ok (.iload_n 0, 1) := by decide +kernel
theorem d1_36 : decode prog_39_method_9_code 36 = .ok (.bipush 6, 2) := by decide +kernel
theorem d1_38 : decode prog_39_method_9_code 38 = .ok (.ishr, 1) := by decide +kernel
theorem d1_39 : decode prog_39_method_9_code 39 = .ok (.ior, 1) := by decide +kernel
theorem d1_40 : decode prog_39_method_9_code 40 = .ok (.i2b, 1) := by decide +kernel
theorem d1_41 : decode prog_39_method_9_code 41 = .ok (.bastore, 1) := by decide +kernel
theorem d1_42 : decode prog_39_method_9_code 42 = .ok (.aload_n 1, 1) := by decide +kernel
theorem d1_43 : decode prog_39_method_9_code 43 = .ok (.iload_n 3, 1) := by decide +kernel
theorem d1_44 : decode prog_39_method_9_code 44 = .ok (.iinc 3 1, 3) := by decide +kernel
theorem d1_47 : decode prog_39_method_9_code 47 = .ok (.sipush 128, 3) := by decide +kernel
theorem d1_50 : decode prog_39_method_9_code 50 = .ok (.iload_n 0, 1) := by decide +kernel
theorem d1_51 : decode prog_39_method_9_code 51 = .ok (.bipush 63, 2) := by decide +kernel
theorem d1_53 : decode prog_39_method_9_code 53 = .ok (.iand, 1) := by decide +kernel
theorem d1_54 : decode prog_39_method_9_code 54 = .ok (.ior, 1) := by decide +kernel
theorem d1_55 : decode prog_39_method_9_code 55 = .ok (.i2b, 1) := by decide +kernel
theorem d1_56 : decode prog_39_method_9_code 56 = .ok (.bastore, 1) := by decide +kernel
theorem d1_57 : decode prog_39_method_9_code 57 = .ok (.goto 126, 3) := by decide +kernel
theorem d1_60 : decode prog_39_method_9_code 60 = .ok (.iload_n 0, 1) := by decide +kernel
theorem d1_61 : decode prog_39_method_9_code 61 = .ok (.ldc 26, 2) := by decide +kernel
theorem d1_63 : decode prog_39_method_9_code 63 = .ok (.if_icmp .ge 54, 3) := by decide +kernel
theorem d1_66 : decode prog_39_method_9_code 66 = .ok (.aload_n 1, 1) := by decide +kernel
theorem d1_67 : decode prog_39_method_9_code 67 = .ok (.iload_n 3, 1) := by decide +kernel
theorem d1_68 : decode prog_39_method_9_code 68 = .ok (.iinc 3 1, 3) := by decide +kernel
theorem d1_71 : decode prog_39_method_9_code 71 = .ok (.sipush 224, 3) := by decide +kernel
theorem d1_74 : decode prog_39_method_9_code 74 = .ok (.iload_n 0, 1) := by decide +kernel
theorem d1_75 : decode prog_39_method_9_code 75 = .ok (.bipush 12, 2) := by decide +kernel
theorem d1_77 : decode prog_39_method_9_code 77 = .ok (.ishr, 1) := by decide +kernel
theorem d1_78 : decode prog_39_method_9_code 78 = .ok (.ior, 1) := by decide +kernel
theorem d1_79 : decode prog_39_method_9_code 79 = .ok (.i2b, 1) := by decide +kernel
theorem d1_80 : decode prog_39_method_9_code 80 = .ok (.bastore, 1) := by decide +kernel
theorem d1_81 : decode prog_39_method_9_code 81 = .ok (.aload_n 1, 1) := by decide +kernel
theorem d1_82 : decode prog_39_method_9_code 82 = .ok (.iload_n 3, 1) := by decide +kernel
theorem d1_83 : decode prog_39_method_9_code 83 = .ok (.iinc 3 1, 3) := by decide +kernel
theorem d1_86 : decode prog_39_method_9_code 86 = .ok (.sipush 128, 3) := by decide +kernel
theorem d1_89 : decode prog_39_method_9_code 89 = .ok (.iload_n 0, 1) := by decide +kernel
theorem d1_90 : decode prog_39_method_9_code 90 = .ok (.bipush 6, 2) := by decide +kernel
theorem d1_92 : decode prog_39_method_9_code 92 = .ok (.ishr, 1) := by decide +kernel
theorem d1_93 : decode prog_39_method_9_code 93 = .ok (.bipush 63, 2) := by decide +kernel
theorem d1_95 : decode prog_39_method_9_code 95 = .ok (.iand, 1) := by decide +kernel
theorem d1_96 : decode prog_39_method_9_code 96 = .ok (.ior, 1) := by decide +kernel
theorem d1_97 : decode prog_39_method_9_code 97 = .ok (.i2b, 1) := by decide +kernel
theorem d1_98 : decode prog_39_method_9_code 98 = .ok (.bastore, 1) := by decide +kernel
theorem d1_99 : decode prog_39_method_9_code 99 = .ok (.aload_n 1, 1) := by decide +kernel
theorem d1_100 : decode prog_39_method_9_code 100 = .ok (.iload_n 3, 1) := by decide +kernel
theorem d1_101 : decode prog_39_method_9_code 101 = .ok (.iinc 3 1, 3) := by decide +kernel
theorem d1_104 : decode prog_39_method_9_code 104 = .ok (.sipush 128, 3) := by decide +kernel
theorem d1_107 : decode prog_39_method_9_code 107 = .ok (.iload_n 0, 1) := by decide +kernel
theorem d1_108 : decode prog_39_method_9_code 108 = .ok (.bipush 63, 2) := by decide +kernel
theorem d1_110 : decode prog_39_method_9_code 110 = .ok (.iand, 1) := by decide +kernel
theorem d1_111 : decode prog_39_method_9_code 111 = .ok (.ior, 1) := by decide +kernel
theorem d1_112 : decode prog_39_method_9_code 112 = .ok (.i2b, 1) := by decide +kernel
theorem d1_113 : decode prog_39_method_9_code 113 = .ok (.bastore, 1) := by decide +kernel
theorem d1_114 : decode prog_39_method_9_code 114 = .ok (.goto 69, 3) := by decide +kernel
theorem d1_117 : decode prog_39_method_9_code 117 = .ok (.aload_n 1, 1) := by decide +kernel
theorem d1_118 : decode prog_39_method_9_code 118 = .ok (.iload_n 3, 1) := by decide +kernel
theorem d1_119 : decode prog_39_method_9_code 119 = .ok (.iinc 3 1, 3) := by decide +kernel
theorem d1_122 : decode prog_39_method_9_code 122 = .ok (.sipush 240, 3) := by decide +kernel
theorem d1_125 : decode prog_39_method_9_code 125 = .ok (.iload_n 0, 1) := by decide +kernel
theorem d1_126 : decode prog_39_method_9_code 126 = .ok (.bipush 18, 2) := by decide +kernel
theorem d1_128 : decode prog_39_method_9_code 128 = .ok (.ishr, 1) := by decide +kernel
theorem d1_129 : decode prog_39_method_9_code 129 = .ok (.ior, 1) := by decide +kernel
theorem d1_130 : decode prog_39_method_9_code 130 = .ok (.i2b, 1) := by decide +kernel
theorem d1_131 : decode prog_39_method_9_code 131 = .ok (.bastore, 1) := by decide +kernel
theorem d1_132 : decode prog_39_method_9_code 132 = .ok (.aload_n 1, 1) := by decide +kernel
theorem d1_133 : decode prog_39_method_9_code 133 = .ok (.iload_n 3, 1) := by decide +kernel
theorem d1_134 : decode prog_39_method_9_code 134 = .ok (.iinc 3 1, 3) := by decide +kernel
theorem d1_137 : decode prog_39_method_9_code 137 = .ok (.sipush 128, 3) := by decide +kernel
theorem d1_140 : decode prog_39_method_9_code 140 = .ok (.iload_n 0, 1) := by decide +kernel
theorem d1_141 : decode prog_39_method_9_code 141 = .ok (.bipush 12, 2) := by decide +kernel
theorem d1_143 : decode prog_39_method_9_code 143 = .ok (.ishr, 1) := by decide +kernel
theorem d1_144 : decode prog_39_method_9_code 144 = .ok (.bipush 63, 2) := by decide +kernel
theorem d1_146 : decode prog_39_method_9_code 146 = .ok (.iand, 1) := by decide +kernel
theorem d1_147 : decode prog_39_method_9_code 147 = .ok (.ior, 1) := by decide +kernel
theorem d1_148 : decode prog_39_method_9_code 148 = .ok (.i2b, 1) := by decide +kernel
theorem d1_149 : decode prog_39_method_9_code 149 = .ok (.bastore, 1) := by decide +kernel
theorem d1_150 : decode prog_39_method_9_code 150 = .ok (.aload_n 1, 1) := by decide +kernel
theorem d1_151 : decode prog_39_method_9_code 151 = .ok (.iload_n 3, 1) := by decide +kernel
theorem d1_152 : decode prog_39_method_9_code 152 = .ok (.iinc 3 1, 3) := by decide +kernel
theorem d1_155 : decode prog_39_method_9_code 155 = .ok (.sipush 128, 3) := by decide +kernel
theorem d1_158 : decode prog_39_method_9_code 158 = .ok (.iload_n 0, 1) := by decide +kernel
theorem d1_159 : decode prog_39_method_9_code 159 = .ok (.bipush 6, 2) := by decide +kernel
theorem d1_161 : decode prog_39_method_9_code 161 = .ok (.ishr, 1) := by decide +kernel
theorem d1_162 : decode prog_39_method_9_code 162 = .ok (.bipush 63, 2) := by decide +kernel
theorem d1_164 : decode prog_39_method_9_code 164 = .ok (.iand, 1) := by decide +kernel
theorem d1_165 : decode prog_39_method_9_code 165 = .ok (.ior, 1) := by decide +kernel
theorem d1_166 : decode prog_39_method_9_code 166 = .ok (.i2b, 1) := by decide +kernel
theorem d1_167 : decode prog_39_method_9_code 167 = .ok (.bastore, 1) := by decide +kernel
theorem d1_168 : decode prog_39_method_9_code 168 = .ok (.aload_n 1, 1) := by decide +kernel
theorem d1_169 : decode prog_39_method_9_code 169 = .ok (.iload_n 3, 1) := by decide +kernel
theorem d1_170 : decode prog_39_method_9_code 170 = .ok (.iinc 3 1, 3) := by decide +kernel
theorem d1_173 : decode prog_39_method_9_code 173 = .ok (.sipush 128, 3) := by decide +kernel
theorem d1_176 : decode prog_39_method_9_code 176 = .ok (.iload_n 0, 1) := by decide +kernel
theorem d1_177 : decode prog_39_method_9_code 177 = .ok (.bipush 63, 2) := by decide +kernel
theorem d1_179 : decode prog_39_method_9_code 179 = .ok (.iand, 1) := by decide +kernel
theorem d1_180 : decode prog_39_method_9_code 180 = .ok (.ior, 1) := by decide +kernel
theorem d1_181 : decode prog_39_method_9_code 181 = .ok (.i2b, 1) := by decide +kernel
theorem d1_182 : decode prog_39_method_9_code 182 = .ok (.bastore, 1) := by decide +kernel
theorem d1_183 : decode prog_39_method_9_code 183 = .ok (.iload_n 3, 1) := by decide +kernel
theorem d1_184 : decode prog_39_method_9_code 184 = .ok (.ireturn, 1) := by decide +kernel
theorem d2_0 : decode method_3_code 0 = .ok (.iload_n 1, 1) := by decide +kernel
theorem d2_1 : decode method_3_code 1 = .ok (.iload_n 2, 1) := by decide +kernel
theorem d2_2 : decode method_3_code 2 = .ok (.if_icmp .lt 19, 3) := by decide +kernel
theorem d2_5 : decode method_3_code 5 = .ok (.iload_n 1, 1) := by decide +kernel
theorem d2_6 : decode method_3_code 6 = .ok (.iload_n 2, 1) := by decide +kernel
theorem d2_7 : decode method_3_code 7 = .ok (.iload_n 3, 1) := by decide +kernel
theorem d2_8 : decode method_3_code 8 = .ok (.iadd, 1) := by decide +kernel
theorem d2_9 : decode method_3_code 9 = .ok (.if_icmp .ge 12, 3) := by decide +kernel
theorem d2_12 : decode method_3_code 12 = .ok (.aload 4, 2) := by decide +kernel
theorem d2_14 : decode method_3_code 14 = .ok (.iload_n 1, 1) := by decide +kernel
theorem d2_15 : decode method_3_code 15 = .ok (.iload_n 2, 1) := by decide +kernel
theorem d2_16 : decode method_3_code 16 = .ok (.isub, 1) := by decide +kernel
theorem d2_17 : decode method_3_code 17 = .ok (.iaload, 1) := by decide +kernel
theorem d2_18 : decode method_3_code 18 = .ok (.goto 9, 3) := by decide +kernel
theorem d2_21 : decode method_3_code 21 = .ok (.iload 5, 2) := by decide +kernel
theorem d2_23 : decode method_3_code 23 = .ok (.sipush 255, 3) := by decide +kernel
theorem d2_26 : decode method_3_code 26 = .ok (.iand, 1) := by decide +kernel
theorem d2_27 : decode method_3_code 27 = .ok (.istore 6, 2) := by decide +kernel
theorem d2_29 : decode method_3_code 29 = .ok (.aload_n 0, 1) := by decide +kernel
theorem d2_30 : decode method_3_code 30 = .ok (.iload_n 1, 1) := by decide +kernel
theorem d2_31 : decode method_3_code 31 = .ok (.baload, 1) := by decide +kernel
theorem d2_32 : decode method_3_code 32 = .ok (.sipush 255, 3) := by decide +kernel
theorem d2_35 : decode method_3_code 35 = .ok (.iand, 1) := by decide +kernel
theorem d2_36 : decode method_3_code 36 = .ok (.iload 6, 2) := by decide +kernel
theorem d2_38 : decode method_3_code 38 = .ok (.if_icmp .ne 7, 3) := by decide +kernel
theorem d2_41 : decode method_3_code 41 = .ok (.iconst 1, 1) := by decide +kernel
theorem d2_42 : decode method_3_code 42 = .ok (.goto 4, 3) := by decide +kernel
theorem d2_45 : decode method_3_code 45 = .ok (.iconst 0, 1) := by decide +kernel
theorem d2_46 : decode method_3_code 46 = .ok (.ireturn, 1) := by decide +kernel
theorem pn_0 : plainName "org/bindloom/internal/Utf8" = true := by first | (simp [plainName, overriddenIn]; done) | decide +kernel
theorem pn_1 : plainName "org/bindloom/internal/Utf8EncodePinLaw" = true := by first | (simp [plainName, overriddenIn]; done) | decide +kernel
theorem pd_1 : parseMethodDescriptor "(I[BI)I" = some ⟨[.int, (.array .byte), .int], (some .int)⟩ := by decide +kernel
theorem pd_2 : parseMethodDescriptor "([BIII[II)Z" = some ⟨[(.array .byte), .int, .int, .int, (.array .int), .int], (some .boolean)⟩ := by decide +kernel
theorem u_add (a y : Int32) (d : Int) (ha : a.toInt = d) (h1 : -2147483648 ≤ d + y.toInt) (h2 : d + y.toInt < 2147483648) : (a + y).toInt = d + y.toInt := by
  subst ha; exact Jvm.Kit.i32_add h1 h2
theorem u_dr (x y : Int32) (d : Int) (hy : y.toInt = d) (hd : y ≠ -1) (h : 0 ≤ x.toInt) : (x / y).toInt = x.toInt / d ∧ (x % y).toInt = x.toInt % d := ⟨(c_idiv x y d hy hd).1 h, (c_irem x y d hy).1 h⟩
theorem u_b (w : Int32) (h0 : 0 ≤ w.toInt) (h1 : w.toInt ≤ 255) : Int8.toInt32 (Int32.toInt8 w) &&& 255 = w := by
  have a := Jvm.Kit.i32_mask (Int8.toInt32 (Int32.toInt8 w)) 255 (k := 8) (by decide) (by decide)
  have b := c_i2b w
  apply Int32.toInt_inj.mp; rw [a]; omega
theorem u_b63 (w : Int32) : (Int8.toInt32 (Int32.toInt8 w) &&& 63).toInt = w.toInt % 64 := by
  have a := Jvm.Kit.i32_mask (Int8.toInt32 (Int32.toInt8 w)) 63 (k := 6) (by decide) (by decide)
  have b := c_i2b w
  rw [a]; omega
theorem u_b255 (w : Int32) : (Int8.toInt32 (Int32.toInt8 w) &&& 255).toInt = w.toInt % 256 := by
  have a := Jvm.Kit.i32_mask (Int8.toInt32 (Int32.toInt8 w)) 255 (k := 8) (by decide) (by decide)
  have b := c_i2b w
  rw [a]; omega
theorem u_shl (x q : Int32) (k : Nat) (P : Int) (hk : q.toBitVec.toNat % 32 = k) (hP : P = (2 ^ k : Nat)) (h0 : 0 ≤ x.toInt) (h1 : x.toInt * P < 2147483648) : (x <<< (q &&& 31)).toInt = x.toInt * P := by
  have a := c_ishl x q k hk
  rw [← hP] at a
  have b1 := Int32.toInt_lt (x <<< (q &&& 31)); have b2 := Int32.le_toInt (x <<< (q &&& 31))
  have : 0 ≤ x.toInt * P := Int.mul_nonneg h0 (by rw [hP]; exact Int.natCast_nonneg _)
  generalize x.toInt * P = z at *
  omega
theorem u_or (a b : Int32) (k : Nat) (P : Int) (hk : k ≤ 31) (hP : P = (2 ^ k : Nat)) (h1 : a.toInt % P = 0) (h2 : 0 ≤ b.toInt) (h3 : b.toInt < P) (h4 : 0 ≤ a.toInt) : (a ||| b).toInt = a.toInt + b.toInt := by
  have q := c_or a b k hk P hP h1 h2 h3
  have b1 := Int32.toInt_lt (a ||| b); have b2 := Int32.le_toInt (a ||| b)
  have b3 := (c_orS a b).1 h4 h2
  have b4 := Int32.toInt_lt a
  have b5 := Int32.toInt_lt b
  omega

theorem v_lead (L q D cp : Int32) (k : Nat) (Pd Ld : Int) (hq : q.toBitVec.toNat % 32 = k) (hk : (q &&& 31).toBitVec.smod 32 = BitVec.ofNat 32 k) (hk2 : k < 32) (hP : Pd = (2 ^ k : Nat)) (hL : L.toInt = Ld) (hD : D.toInt = Pd) (hD1 : D ≠ -1) (kk : Nat) (Q : Int) (hkk : kk ≤ 31) (hQ : Q = (2 ^ kk : Nat)) (hLm : Ld % Q = 0) (hL0 : 0 ≤ Ld) (h0 : 0 ≤ cp.toInt) (hlt : cp.toInt / Pd < Q) (h255 : Ld + cp.toInt / Pd ≤ 255) :
    Int8.toInt32 (Int32.toInt8 (L ||| (cp >>> (q &&& 31)))) &&& 255 = L + cp / D := by
  have s := Jvm.Kit.i32_shr cp (q &&& 31) (k := k) (by rw [hk]; simp; omega)
  have hP' : ((2 : Int) ^ k) = Pd := by rw [hP]; simp
  rw [hP'] at s
  have hpos : 0 < Pd := by rw [hP]; exact_mod_cast Nat.two_pow_pos k
  have hge : 0 ≤ cp.toInt / Pd := Int.ediv_nonneg h0 (by omega)
  have o := u_or L (cp >>> (q &&& 31)) kk Q hkk hQ (by rw [hL]; exact hLm) (by omega) (by omega) (by omega)
  obtain ⟨d, -⟩ := u_dr cp D Pd hD hD1 h0
  have a := u_add L (cp / D) Ld hL (by omega) (by omega)
  rw [u_b _ (by omega) (by omega)]
  apply Int32.toInt_inj.mp; omega
theorem v_tail (y z : Int32) (hy : 0 ≤ y.toInt) (hz : z.toInt = y.toInt) : Int8.toInt32 (Int32.toInt8 (128 ||| (y &&& 63))) &&& 255 = 128 + z % 64 := by
  have m := Jvm.Kit.i32_mask y 63 (k := 6) (by decide) (by decide)
  have o := u_or 128 (y &&& 63) 6 64 (by decide) (by decide) (by decide) (by omega) (by omega) (by decide)
  obtain ⟨-, r⟩ := u_dr z 64 64 rfl (by decide) (by omega)
  have a := u_add 128 (z % 64) 128 rfl (by omega) (by omega)
  rw [show (128 : Int32).toInt = 128 from rfl] at o
  rw [u_b _ (by omega) (by omega)]
  apply Int32.toInt_inj.mp; omega
theorem v_sh (cp D q : Int32) (k : Nat) (Pd : Int) (hk : (q &&& 31).toBitVec.smod 32 = BitVec.ofNat 32 k) (hk2 : k < 32) (hP : Pd = (2 ^ k : Nat)) (hD : D.toInt = Pd) (hD1 : D ≠ -1) (h0 : 0 ≤ cp.toInt) : (cp / D).toInt = (cp >>> (q &&& 31)).toInt ∧ 0 ≤ (cp >>> (q &&& 31)).toInt := by
  have s := Jvm.Kit.i32_shr cp (q &&& 31) (k := k) (by rw [hk]; simp; omega)
  have hP' : ((2 : Int) ^ k) = Pd := by rw [hP]; simp
  rw [hP'] at s
  have hpos : 0 < Pd := by rw [hP]; exact_mod_cast Nat.two_pow_pos k
  obtain ⟨d, -⟩ := u_dr cp D Pd hD hD1 h0
  have hge : 0 ≤ cp.toInt / Pd := Int.ediv_nonneg h0 (by omega)
  omega

theorem v_fill (x : Int32) : Int8.toInt32 (Int32.toInt8 x) &&& 255 = x &&& 255 := by
  have a := u_b255 x
  have b := Jvm.Kit.i32_mask x 255 (k := 8) (by decide) (by decide)
  apply Int32.toInt_inj.mp; omega
theorem v_ix (x : Int32) : x &&& 3 = 0 ∨ x &&& 3 = 1 ∨ x &&& 3 = 2 ∨ x &&& 3 = 3 := by
  have := Jvm.Kit.i32_mask x 3 (k := 2) (by decide) (by decide)
  simp only [← Int32.toInt_inj, Int32.reduceToInt]; omega
theorem v_cp (x : Int32) : 0 ≤ ((x &&& 2147483647) % 1114112).toInt ∧ ((x &&& 2147483647) % 1114112).toInt ≤ 1114111 := by
  have h := Jvm.Kit.i32_mask x 2147483647 (k := 31) (by decide) (by decide)
  obtain ⟨-, r⟩ := u_dr (x &&& 2147483647) 1114112 1114112 rfl (by decide) (by omega)
  omega
theorem v_i1 (xi : Int32) (i : Nat) (hi : xi.toInt = i) (hb : i < 100) : (xi + 1).toInt = ((i + 1 : Nat) : Int) := by
  rw [Jvm.Kit.i32_add (by rw [show (1 : Int32).toInt = 1 from rfl]; omega) (by rw [show (1 : Int32).toInt = 1 from rfl]; omega), show (1 : Int32).toInt = 1 from rfl]; omega
theorem v_e10 (xcp : Int32) (h1 : 0 ≤ xcp.toInt) (h2 : xcp.toInt ≤ 127) : (Int8.toInt32 (Int32.toInt8 xcp)) &&& 255 = xcp := u_b xcp (by omega) (by omega)
theorem v_e20 (xcp : Int32) (h1 : 128 ≤ xcp.toInt) (h2 : xcp.toInt ≤ 2047) : (Int8.toInt32 (Int32.toInt8 ((192 : Int32) ||| (xcp >>> ((6 : Int32) &&& 31))))) &&& 255 = ((192 : Int32) + (xcp / (64 : Int32))) := v_lead 192 6 64 xcp 6 64 192 (by decide) (by decide) (by decide) (by decide) rfl rfl (by decide) 5 32 (by decide) (by decide) (by decide) (by decide) (by omega) (by omega) (by omega)
theorem v_e21 (xcp : Int32) (h1 : 128 ≤ xcp.toInt) (h2 : xcp.toInt ≤ 2047) : (Int8.toInt32 (Int32.toInt8 ((128 : Int32) ||| (xcp &&& (63 : Int32))))) &&& 255 = ((128 : Int32) + (xcp % (64 : Int32))) := v_tail xcp xcp (by omega) rfl
theorem v_e30 (xcp : Int32) (h1 : 2048 ≤ xcp.toInt) (h2 : xcp.toInt ≤ 65535) : (Int8.toInt32 (Int32.toInt8 ((224 : Int32) ||| (xcp >>> ((12 : Int32) &&& 31))))) &&& 255 = ((224 : Int32) + (xcp / (4096 : Int32))) := v_lead 224 12 4096 xcp 12 4096 224 (by decide) (by decide) (by decide) (by decide) rfl rfl (by decide) 4 16 (by decide) (by decide) (by decide) (by decide) (by omega) (by omega) (by omega)
theorem v_e31 (xcp : Int32) (h1 : 2048 ≤ xcp.toInt) (h2 : xcp.toInt ≤ 65535) : (Int8.toInt32 (Int32.toInt8 ((128 : Int32) ||| ((xcp >>> ((6 : Int32) &&& 31)) &&& (63 : Int32))))) &&& 255 = ((128 : Int32) + ((xcp / (64 : Int32)) % (64 : Int32))) := v_tail _ _ (v_sh xcp 64 6 6 64 (by decide) (by decide) (by decide) rfl (by decide) (by omega)).2 (v_sh xcp 64 6 6 64 (by decide) (by decide) (by decide) rfl (by decide) (by omega)).1
theorem v_e32 (xcp : Int32) (h1 : 2048 ≤ xcp.toInt) (h2 : xcp.toInt ≤ 65535) : (Int8.toInt32 (Int32.toInt8 ((128 : Int32) ||| (xcp &&& (63 : Int32))))) &&& 255 = ((128 : Int32) + (xcp % (64 : Int32))) := v_tail xcp xcp (by omega) rfl
theorem v_e40 (xcp : Int32) (h1 : 65536 ≤ xcp.toInt) (h2 : xcp.toInt ≤ 1114111) : (Int8.toInt32 (Int32.toInt8 ((240 : Int32) ||| (xcp >>> ((18 : Int32) &&& 31))))) &&& 255 = ((240 : Int32) + (xcp / (262144 : Int32))) := v_lead 240 18 262144 xcp 18 262144 240 (by decide) (by decide) (by decide) (by decide) rfl rfl (by decide) 3 8 (by decide) (by decide) (by decide) (by decide) (by omega) (by omega) (by omega)
theorem v_e41 (xcp : Int32) (h1 : 65536 ≤ xcp.toInt) (h2 : xcp.toInt ≤ 1114111) : (Int8.toInt32 (Int32.toInt8 ((128 : Int32) ||| ((xcp >>> ((12 : Int32) &&& 31)) &&& (63 : Int32))))) &&& 255 = ((128 : Int32) + ((xcp / (4096 : Int32)) % (64 : Int32))) := v_tail _ _ (v_sh xcp 4096 12 12 4096 (by decide) (by decide) (by decide) rfl (by decide) (by omega)).2 (v_sh xcp 4096 12 12 4096 (by decide) (by decide) (by decide) rfl (by decide) (by omega)).1
theorem v_e42 (xcp : Int32) (h1 : 65536 ≤ xcp.toInt) (h2 : xcp.toInt ≤ 1114111) : (Int8.toInt32 (Int32.toInt8 ((128 : Int32) ||| ((xcp >>> ((6 : Int32) &&& 31)) &&& (63 : Int32))))) &&& 255 = ((128 : Int32) + ((xcp / (64 : Int32)) % (64 : Int32))) := v_tail _ _ (v_sh xcp 64 6 6 64 (by decide) (by decide) (by decide) rfl (by decide) (by omega)).2 (v_sh xcp 64 6 6 64 (by decide) (by decide) (by decide) rfl (by decide) (by omega)).1
theorem v_e43 (xcp : Int32) (h1 : 65536 ≤ xcp.toInt) (h2 : xcp.toInt ≤ 1114111) : (Int8.toInt32 (Int32.toInt8 ((128 : Int32) ||| (xcp &&& (63 : Int32))))) &&& 255 = ((128 : Int32) + (xcp % (64 : Int32))) := v_tail xcp xcp (by omega) rfl
set_option maxRecDepth 65536 in
set_option maxHeartbeats 40000000 in
theorem c_enc1 (l : Launch) (Z : State) (a0 : Array Value) (hw : ∀ d ∈ tables_1, d.before a0 Z = true) (ws : List Jvm.Cond) (n0 : Nat) (h0 : Heap) (hn0 : n0 ≤ h0.size) (xcp : Int32) (xa : Addr) (xi : Int32) (vs : List Int32) (L' : List (Addr × (Cell → Prop))) (H0 : OL n0 h0 ((xa, OA Z .byte vs) :: L')) (i : Nat) (hi : xi.toInt = i) (hl : i + 1 ≤ vs.length) (hb : i < 50) (h1 : 0 ≤ xcp.toInt) (h2 : xcp.toInt ≤ 127) :
    OC l Z (⟨"org/bindloom/internal/Utf8", "encode", "(I[BI)I"⟩ : MethodName) prog_39_method_9_code 4 (some .int) ws ({ frames := 0, cells := 0, slots := 0, locals := 0 } : Room) n0 #[(.int xcp), (.ref xa), (.int xi)] h0 (fun r h => r = some (.int (xi + (1 : Int32))) ∧ OL n0 h ((xa, OA Z .byte (List.set vs i (Int8.toInt32 (Int32.toInt8 xcp)))) :: L')) := by
  refine OC.of (plainFor_of_name pn_0) hn0 #[.val (.int xcp), .val (.ref xa), .val (.int xi), .unset] (fun m => by first | (simp [entryFrame, mkF, argsToLocals, Value.category, maxLocals]; done) | rfl) ?_
  intro p e s m below meth cd0 T0 X0 Q' hQ
  refine o_iloadN X0 d1_0 rfl 1 rfl ?_
  refine o_istoreN X0 d1_1 #[.val (.int xcp), .val (.ref xa), .val (.int xi), .val (.int xi)] rfl 2 rfl ?_
  refine o_iloadN X0 d1_2 rfl 3 rfl ?_
  refine o_sipush (v := (128 : Int32)) X0 d1_3 rfl 6 rfl ?_
  refine o_icmpGe X0 d1_6 20 9 (by decide) (by decide) rfl (fun q => by exfalso; exact q (by rw [Int32.lt_iff_toInt_lt, show (128 : Int32).toInt = 128 from rfl]; omega)) ?_
  intro hc6
  refine o_aloadN X0 d1_9 rfl rfl 10 rfl ?_
  refine o_iloadN X0 d1_10 rfl 11 rfl ?_
  refine o_iinc (v := xi) (w := (xi + (1 : Int32))) X0 d1_11 rfl rfl #[.val (.int xcp), .val (.ref xa), .val (.int xi), .val (.int (xi + (1 : Int32)))] rfl 14 rfl ?_
  refine o_iloadN X0 d1_14 rfl 15 rfl ?_
  refine o_i2b X0 d1_15 16 rfl ?_
  refine o_bastoreB X0 H0 0 rfl d1_16 i hi (by first | omega | (simp; omega)) (Int8.toInt32 (Int32.toInt8 xcp)) (o_b8 _) 17 rfl ?_
  intro T1 h1 X1 H1
  replace H1 : OL n0 h1 ((xa, OA Z .byte (List.set vs i (Int8.toInt32 (Int32.toInt8 xcp)))) :: L') := H1
  refine o_goto X1 d1_17 183 (by decide) (by decide) ?_
  refine o_iloadN X1 d1_183 rfl 184 rfl ?_
  exact o_retI X1 d1_184 (by decide) (by decide) (hQ _ _ ⟨rfl, H1⟩)
set_option maxRecDepth 65536 in
set_option maxHeartbeats 40000000 in
theorem c_enc2 (l : Launch) (Z : State) (a0 : Array Value) (hw : ∀ d ∈ tables_1, d.before a0 Z = true) (ws : List Jvm.Cond) (n0 : Nat) (h0 : Heap) (hn0 : n0 ≤ h0.size) (xcp : Int32) (xa : Addr) (xi : Int32) (vs : List Int32) (L' : List (Addr × (Cell → Prop))) (H0 : OL n0 h0 ((xa, OA Z .byte vs) :: L')) (i : Nat) (hi : xi.toInt = i) (hl : i + 2 ≤ vs.length) (hb : i < 50) (h1 : 128 ≤ xcp.toInt) (h2 : xcp.toInt ≤ 2047) :
    OC l Z (⟨"org/bindloom/internal/Utf8", "encode", "(I[BI)I"⟩ : MethodName) prog_39_method_9_code 4 (some .int) ws ({ frames := 0, cells := 0, slots := 0, locals := 0 } : Room) n0 #[(.int xcp), (.ref xa), (.int xi)] h0 (fun r h => r = some (.int ((xi + (1 : Int32)) + (1 : Int32))) ∧ OL n0 h ((xa, OA Z .byte (List.set (List.set vs i (Int8.toInt32 (Int32.toInt8 ((192 : Int32) ||| (xcp >>> ((6 : Int32) &&& 31)))))) (i + 1) (Int8.toInt32 (Int32.toInt8 ((128 : Int32) ||| (xcp &&& (63 : Int32))))))) :: L')) := by
  refine OC.of (plainFor_of_name pn_0) hn0 #[.val (.int xcp), .val (.ref xa), .val (.int xi), .unset] (fun m => by first | (simp [entryFrame, mkF, argsToLocals, Value.category, maxLocals]; done) | rfl) ?_
  intro p e s m below meth cd0 T0 X0 Q' hQ
  refine o_iloadN X0 d1_0 rfl 1 rfl ?_
  refine o_istoreN X0 d1_1 #[.val (.int xcp), .val (.ref xa), .val (.int xi), .val (.int xi)] rfl 2 rfl ?_
  refine o_iloadN X0 d1_2 rfl 3 rfl ?_
  refine o_sipush (v := (128 : Int32)) X0 d1_3 rfl 6 rfl ?_
  refine o_icmpGe X0 d1_6 20 9 (by decide) (by decide) rfl ?_ (fun q => by exfalso; exact absurd q (by rw [Int32.lt_iff_toInt_lt, show (128 : Int32).toInt = 128 from rfl]; omega))
  intro hc6
  refine o_iloadN X0 d1_20 rfl 21 rfl ?_
  refine o_sipush (v := (2048 : Int32)) X0 d1_21 rfl 24 rfl ?_
  refine o_icmpGe X0 d1_24 60 27 (by decide) (by decide) rfl (fun q => by exfalso; exact q (by rw [Int32.lt_iff_toInt_lt, show (2048 : Int32).toInt = 2048 from rfl]; omega)) ?_
  intro hc24
  refine o_aloadN X0 d1_27 rfl rfl 28 rfl ?_
  refine o_iloadN X0 d1_28 rfl 29 rfl ?_
  refine o_iinc (v := xi) (w := (xi + (1 : Int32))) X0 d1_29 rfl rfl #[.val (.int xcp), .val (.ref xa), .val (.int xi), .val (.int (xi + (1 : Int32)))] rfl 32 rfl ?_
  refine o_sipush (v := (192 : Int32)) X0 d1_32 rfl 35 rfl ?_
  refine o_iloadN X0 d1_35 rfl 36 rfl ?_
  refine o_bipush (v := (6 : Int32)) X0 d1_36 rfl 38 rfl ?_
  refine o_ishr X0 d1_38 39 rfl ?_
  refine o_ior X0 d1_39 40 rfl ?_
  refine o_i2b X0 d1_40 41 rfl ?_
  refine o_bastoreB X0 H0 0 rfl d1_41 i hi (by first | omega | (simp; omega)) (Int8.toInt32 (Int32.toInt8 ((192 : Int32) ||| (xcp >>> ((6 : Int32) &&& 31))))) (o_b8 _) 42 rfl ?_
  intro T1 h1 X1 H1
  replace H1 : OL n0 h1 ((xa, OA Z .byte (List.set vs i (Int8.toInt32 (Int32.toInt8 ((192 : Int32) ||| (xcp >>> ((6 : Int32) &&& 31))))))) :: L') := H1
  refine o_aloadN X1 d1_42 rfl rfl 43 rfl ?_
  refine o_iloadN X1 d1_43 rfl 44 rfl ?_
  refine o_iinc (v := (xi + (1 : Int32))) (w := ((xi + (1 : Int32)) + (1 : Int32))) X1 d1_44 rfl rfl #[.val (.int xcp), .val (.ref xa), .val (.int xi), .val (.int ((xi + (1 : Int32)) + (1 : Int32)))] rfl 47 rfl ?_
  refine o_sipush (v := (128 : Int32)) X1 d1_47 rfl 50 rfl ?_
  refine o_iloadN X1 d1_50 rfl 51 rfl ?_
  refine o_bipush (v := (63 : Int32)) X1 d1_51 rfl 53 rfl ?_
  refine o_iand X1 d1_53 54 rfl ?_
  refine o_ior X1 d1_54 55 rfl ?_
  refine o_i2b X1 d1_55 56 rfl ?_
  refine o_bastoreB X1 H1 0 rfl d1_56 (i + 1) (v_i1 _ _ hi (by omega)) (by first | omega | (simp; omega)) (Int8.toInt32 (Int32.toInt8 ((128 : Int32) ||| (xcp &&& (63 : Int32))))) (o_b8 _) 57 rfl ?_
  intro T2 h2 X2 H2
  replace H2 : OL n0 h2 ((xa, OA Z .byte (List.set (List.set vs i (Int8.toInt32 (Int32.toInt8 ((192 : Int32) ||| (xcp >>> ((6 : Int32) &&& 31)))))) (i + 1) (Int8.toInt32 (Int32.toInt8 ((128 : Int32) ||| (xcp &&& (63 : Int32))))))) :: L') := H2
  refine o_goto X2 d1_57 183 (by decide) (by decide) ?_
  refine o_iloadN X2 d1_183 rfl 184 rfl ?_
  exact o_retI X2 d1_184 (by decide) (by decide) (hQ _ _ ⟨rfl, H2⟩)
set_option maxRecDepth 65536 in
set_option maxHeartbeats 40000000 in
theorem c_enc3 (l : Launch) (Z : State) (a0 : Array Value) (hw : ∀ d ∈ tables_1, d.before a0 Z = true) (ws : List Jvm.Cond) (n0 : Nat) (h0 : Heap) (hn0 : n0 ≤ h0.size) (xcp : Int32) (xa : Addr) (xi : Int32) (vs : List Int32) (L' : List (Addr × (Cell → Prop))) (H0 : OL n0 h0 ((xa, OA Z .byte vs) :: L')) (i : Nat) (hi : xi.toInt = i) (hl : i + 3 ≤ vs.length) (hb : i < 50) (h1 : 2048 ≤ xcp.toInt) (h2 : xcp.toInt ≤ 65535) :
    OC l Z (⟨"org/bindloom/internal/Utf8", "encode", "(I[BI)I"⟩ : MethodName) prog_39_method_9_code 4 (some .int) ws ({ frames := 0, cells := 0, slots := 0, locals := 0 } : Room) n0 #[(.int xcp), (.ref xa), (.int xi)] h0 (fun r h => r = some (.int (((xi + (1 : Int32)) + (1 : Int32)) + (1 : Int32))) ∧ OL n0 h ((xa, OA Z .byte (List.set (List.set (List.set vs i (Int8.toInt32 (Int32.toInt8 ((224 : Int32) ||| (xcp >>> ((12 : Int32) &&& 31)))))) (i + 1) (Int8.toInt32 (Int32.toInt8 ((128 : Int32) ||| ((xcp >>> ((6 : Int32) &&& 31)) &&& (63 : Int32)))))) (i + 1 + 1) (Int8.toInt32 (Int32.toInt8 ((128 : Int32) ||| (xcp &&& (63 : Int32))))))) :: L')) := by
  refine OC.of (plainFor_of_name pn_0) hn0 #[.val (.int xcp), .val (.ref xa), .val (.int xi), .unset] (fun m => by first | (simp [entryFrame, mkF, argsToLocals, Value.category, maxLocals]; done) | rfl) ?_
  intro p e s m below meth cd0 T0 X0 Q' hQ
  refine o_iloadN X0 d1_0 rfl 1 rfl ?_
  refine o_istoreN X0 d1_1 #[.val (.int xcp), .val (.ref xa), .val (.int xi), .val (.int xi)] rfl 2 rfl ?_
  refine o_iloadN X0 d1_2 rfl 3 rfl ?_
  refine o_sipush (v := (128 : Int32)) X0 d1_3 rfl 6 rfl ?_
  refine o_icmpGe X0 d1_6 20 9 (by decide) (by decide) rfl ?_ (fun q => by exfalso; exact absurd q (by rw [Int32.lt_iff_toInt_lt, show (128 : Int32).toInt = 128 from rfl]; omega))
  intro hc6
  refine o_iloadN X0 d1_20 rfl 21 rfl ?_
  refine o_sipush (v := (2048 : Int32)) X0 d1_21 rfl 24 rfl ?_
  refine o_icmpGe X0 d1_24 60 27 (by decide) (by decide) rfl ?_ (fun q => by exfalso; exact absurd q (by rw [Int32.lt_iff_toInt_lt, show (2048 : Int32).toInt = 2048 from rfl]; omega))
  intro hc24
  refine o_iloadN X0 d1_60 rfl 61 rfl ?_
  refine o_ldc (v := (65536 : Int32)) X0 d1_61 (hw _ (List.mem_of_getElem? (i := 16) rfl)) 63 rfl ?_
  refine o_icmpGe X0 d1_63 117 66 (by decide) (by decide) rfl (fun q => by exfalso; exact q (by rw [Int32.lt_iff_toInt_lt, show (65536 : Int32).toInt = 65536 from rfl]; omega)) ?_
  intro hc63
  refine o_aloadN X0 d1_66 rfl rfl 67 rfl ?_
  refine o_iloadN X0 d1_67 rfl 68 rfl ?_
  refine o_iinc (v := xi) (w := (xi + (1 : Int32))) X0 d1_68 rfl rfl #[.val (.int xcp), .val (.ref xa), .val (.int xi), .val (.int (xi + (1 : Int32)))] rfl 71 rfl ?_
  refine o_sipush (v := (224 : Int32)) X0 d1_71 rfl 74 rfl ?_
  refine o_iloadN X0 d1_74 rfl 75 rfl ?_
  refine o_bipush (v := (12 : Int32)) X0 d1_75 rfl 77 rfl ?_
  refine o_ishr X0 d1_77 78 rfl ?_
  refine o_ior X0 d1_78 79 rfl ?_
  refine o_i2b X0 d1_79 80 rfl ?_
  refine o_bastoreB X0 H0 0 rfl d1_80 i hi (by first | omega | (simp; omega)) (Int8.toInt32 (Int32.toInt8 ((224 : Int32) ||| (xcp >>> ((12 : Int32) &&& 31))))) (o_b8 _) 81 rfl ?_
  intro T1 h1 X1 H1
  replace H1 : OL n0 h1 ((xa, OA Z .byte (List.set vs i (Int8.toInt32 (Int32.toInt8 ((224 : Int32) ||| (xcp >>> ((12 : Int32) &&& 31))))))) :: L') := H1
  refine o_aloadN X1 d1_81 rfl rfl 82 rfl ?_
  refine o_iloadN X1 d1_82 rfl 83 rfl ?_
  refine o_iinc (v := (xi + (1 : Int32))) (w := ((xi + (1 : Int32)) + (1 : Int32))) X1 d1_83 rfl rfl #[.val (.int xcp), .val (.ref xa), .val (.int xi), .val (.int ((xi + (1 : Int32)) + (1 : Int32)))] rfl 86 rfl ?_
  refine o_sipush (v := (128 : Int32)) X1 d1_86 rfl 89 rfl ?_
  refine o_iloadN X1 d1_89 rfl 90 rfl ?_
  refine o_bipush (v := (6 : Int32)) X1 d1_90 rfl 92 rfl ?_
  refine o_ishr X1 d1_92 93 rfl ?_
  refine o_bipush (v := (63 : Int32)) X1 d1_93 rfl 95 rfl ?_
  refine o_iand X1 d1_95 96 rfl ?_
  refine o_ior X1 d1_96 97 rfl ?_
  refine o_i2b X1 d1_97 98 rfl ?_
  refine o_bastoreB X1 H1 0 rfl d1_98 (i + 1) (v_i1 _ _ hi (by omega)) (by first | omega | (simp; omega)) (Int8.toInt32 (Int32.toInt8 ((128 : Int32) ||| ((xcp >>> ((6 : Int32) &&& 31)) &&& (63 : Int32))))) (o_b8 _) 99 rfl ?_
  intro T2 h2 X2 H2
  replace H2 : OL n0 h2 ((xa, OA Z .byte (List.set (List.set vs i (Int8.toInt32 (Int32.toInt8 ((224 : Int32) ||| (xcp >>> ((12 : Int32) &&& 31)))))) (i + 1) (Int8.toInt32 (Int32.toInt8 ((128 : Int32) ||| ((xcp >>> ((6 : Int32) &&& 31)) &&& (63 : Int32))))))) :: L') := H2
  refine o_aloadN X2 d1_99 rfl rfl 100 rfl ?_
  refine o_iloadN X2 d1_100 rfl 101 rfl ?_
  refine o_iinc (v := ((xi + (1 : Int32)) + (1 : Int32))) (w := (((xi + (1 : Int32)) + (1 : Int32)) + (1 : Int32))) X2 d1_101 rfl rfl #[.val (.int xcp), .val (.ref xa), .val (.int xi), .val (.int (((xi + (1 : Int32)) + (1 : Int32)) + (1 : Int32)))] rfl 104 rfl ?_
  refine o_sipush (v := (128 : Int32)) X2 d1_104 rfl 107 rfl ?_
  refine o_iloadN X2 d1_107 rfl 108 rfl ?_
  refine o_bipush (v := (63 : Int32)) X2 d1_108 rfl 110 rfl ?_
  refine o_iand X2 d1_110 111 rfl ?_
  refine o_ior X2 d1_111 112 rfl ?_
  refine o_i2b X2 d1_112 113 rfl ?_
  refine o_bastoreB X2 H2 0 rfl d1_113 (i + 1 + 1) (v_i1 _ _ (v_i1 _ _ hi (by omega)) (by omega)) (by first | omega | (simp; omega)) (Int8.toInt32 (Int32.toInt8 ((128 : Int32) ||| (xcp &&& (63 : Int32))))) (o_b8 _) 114 rfl ?_
  intro T3 h3 X3 H3
  replace H3 : OL n0 h3 ((xa, OA Z .byte (List.set (List.set (List.set vs i (Int8.toInt32 (Int32.toInt8 ((224 : Int32) ||| (xcp >>> ((12 : Int32) &&& 31)))))) (i + 1) (Int8.toInt32 (Int32.toInt8 ((128 : Int32) ||| ((xcp >>> ((6 : Int32) &&& 31)) &&& (63 : Int32)))))) (i + 1 + 1) (Int8.toInt32 (Int32.toInt8 ((128 : Int32) ||| (xcp &&& (63 : Int32))))))) :: L') := H3
  refine o_goto X3 d1_114 183 (by decide) (by decide) ?_
  refine o_iloadN X3 d1_183 rfl 184 rfl ?_
  exact o_retI X3 d1_184 (by decide) (by decide) (hQ _ _ ⟨rfl, H3⟩)
set_option maxRecDepth 65536 in
set_option maxHeartbeats 40000000 in
theorem c_enc4 (l : Launch) (Z : State) (a0 : Array Value) (hw : ∀ d ∈ tables_1, d.before a0 Z = true) (ws : List Jvm.Cond) (n0 : Nat) (h0 : Heap) (hn0 : n0 ≤ h0.size) (xcp : Int32) (xa : Addr) (xi : Int32) (vs : List Int32) (L' : List (Addr × (Cell → Prop))) (H0 : OL n0 h0 ((xa, OA Z .byte vs) :: L')) (i : Nat) (hi : xi.toInt = i) (hl : i + 4 ≤ vs.length) (hb : i < 50) (h1 : 65536 ≤ xcp.toInt) (h2 : xcp.toInt ≤ 1114111) :
    OC l Z (⟨"org/bindloom/internal/Utf8", "encode", "(I[BI)I"⟩ : MethodName) prog_39_method_9_code 4 (some .int) ws ({ frames := 0, cells := 0, slots := 0, locals := 0 } : Room) n0 #[(.int xcp), (.ref xa), (.int xi)] h0 (fun r h => r = some (.int ((((xi + (1 : Int32)) + (1 : Int32)) + (1 : Int32)) + (1 : Int32))) ∧ OL n0 h ((xa, OA Z .byte (List.set (List.set (List.set (List.set vs i (Int8.toInt32 (Int32.toInt8 ((240 : Int32) ||| (xcp >>> ((18 : Int32) &&& 31)))))) (i + 1) (Int8.toInt32 (Int32.toInt8 ((128 : Int32) ||| ((xcp >>> ((12 : Int32) &&& 31)) &&& (63 : Int32)))))) (i + 1 + 1) (Int8.toInt32 (Int32.toInt8 ((128 : Int32) ||| ((xcp >>> ((6 : Int32) &&& 31)) &&& (63 : Int32)))))) (i + 1 + 1 + 1) (Int8.toInt32 (Int32.toInt8 ((128 : Int32) ||| (xcp &&& (63 : Int32))))))) :: L')) := by
  refine OC.of (plainFor_of_name pn_0) hn0 #[.val (.int xcp), .val (.ref xa), .val (.int xi), .unset] (fun m => by first | (simp [entryFrame, mkF, argsToLocals, Value.category, maxLocals]; done) | rfl) ?_
  intro p e s m below meth cd0 T0 X0 Q' hQ
  refine o_iloadN X0 d1_0 rfl 1 rfl ?_
  refine o_istoreN X0 d1_1 #[.val (.int xcp), .val (.ref xa), .val (.int xi), .val (.int xi)] rfl 2 rfl ?_
  refine o_iloadN X0 d1_2 rfl 3 rfl ?_
  refine o_sipush (v := (128 : Int32)) X0 d1_3 rfl 6 rfl ?_
  refine o_icmpGe X0 d1_6 20 9 (by decide) (by decide) rfl ?_ (fun q => by exfalso; exact absurd q (by rw [Int32.lt_iff_toInt_lt, show (128 : Int32).toInt = 128 from rfl]; omega))
  intro hc6
  refine o_iloadN X0 d1_20 rfl 21 rfl ?_
  refine o_sipush (v := (2048 : Int32)) X0 d1_21 rfl 24 rfl ?_
  refine o_icmpGe X0 d1_24 60 27 (by decide) (by decide) rfl ?_ (fun q => by exfalso; exact absurd q (by rw [Int32.lt_iff_toInt_lt, show (2048 : Int32).toInt = 2048 from rfl]; omega))
  intro hc24
  refine o_iloadN X0 d1_60 rfl 61 rfl ?_
  refine o_ldc (v := (65536 : Int32)) X0 d1_61 (hw _ (List.mem_of_getElem? (i := 16) rfl)) 63 rfl ?_
  refine o_icmpGe X0 d1_63 117 66 (by decide) (by decide) rfl ?_ (fun q => by exfalso; exact absurd q (by rw [Int32.lt_iff_toInt_lt, show (65536 : Int32).toInt = 65536 from rfl]; omega))
  intro hc63
  refine o_aloadN X0 d1_117 rfl rfl 118 rfl ?_
  refine o_iloadN X0 d1_118 rfl 119 rfl ?_
  refine o_iinc (v := xi) (w := (xi + (1 : Int32))) X0 d1_119 rfl rfl #[.val (.int xcp), .val (.ref xa), .val (.int xi), .val (.int (xi + (1 : Int32)))] rfl 122 rfl ?_
  refine o_sipush (v := (240 : Int32)) X0 d1_122 rfl 125 rfl ?_
  refine o_iloadN X0 d1_125 rfl 126 rfl ?_
  refine o_bipush (v := (18 : Int32)) X0 d1_126 rfl 128 rfl ?_
  refine o_ishr X0 d1_128 129 rfl ?_
  refine o_ior X0 d1_129 130 rfl ?_
  refine o_i2b X0 d1_130 131 rfl ?_
  refine o_bastoreB X0 H0 0 rfl d1_131 i hi (by first | omega | (simp; omega)) (Int8.toInt32 (Int32.toInt8 ((240 : Int32) ||| (xcp >>> ((18 : Int32) &&& 31))))) (o_b8 _) 132 rfl ?_
  intro T1 h1 X1 H1
  replace H1 : OL n0 h1 ((xa, OA Z .byte (List.set vs i (Int8.toInt32 (Int32.toInt8 ((240 : Int32) ||| (xcp >>> ((18 : Int32) &&& 31))))))) :: L') := H1
  refine o_aloadN X1 d1_132 rfl rfl 133 rfl ?_
  refine o_iloadN X1 d1_133 rfl 134 rfl ?_
  refine o_iinc (v := (xi + (1 : Int32))) (w := ((xi + (1 : Int32)) + (1 : Int32))) X1 d1_134 rfl rfl #[.val (.int xcp), .val (.ref xa), .val (.int xi), .val (.int ((xi + (1 : Int32)) + (1 : Int32)))] rfl 137 rfl ?_
  refine o_sipush (v := (128 : Int32)) X1 d1_137 rfl 140 rfl ?_
  refine o_iloadN X1 d1_140 rfl 141 rfl ?_
  refine o_bipush (v := (12 : Int32)) X1 d1_141 rfl 143 rfl ?_
  refine o_ishr X1 d1_143 144 rfl ?_
  refine o_bipush (v := (63 : Int32)) X1 d1_144 rfl 146 rfl ?_
  refine o_iand X1 d1_146 147 rfl ?_
  refine o_ior X1 d1_147 148 rfl ?_
  refine o_i2b X1 d1_148 149 rfl ?_
  refine o_bastoreB X1 H1 0 rfl d1_149 (i + 1) (v_i1 _ _ hi (by omega)) (by first | omega | (simp; omega)) (Int8.toInt32 (Int32.toInt8 ((128 : Int32) ||| ((xcp >>> ((12 : Int32) &&& 31)) &&& (63 : Int32))))) (o_b8 _) 150 rfl ?_
  intro T2 h2 X2 H2
  replace H2 : OL n0 h2 ((xa, OA Z .byte (List.set (List.set vs i (Int8.toInt32 (Int32.toInt8 ((240 : Int32) ||| (xcp >>> ((18 : Int32) &&& 31)))))) (i + 1) (Int8.toInt32 (Int32.toInt8 ((128 : Int32) ||| ((xcp >>> ((12 : Int32) &&& 31)) &&& (63 : Int32))))))) :: L') := H2
  refine o_aloadN X2 d1_150 rfl rfl 151 rfl ?_
  refine o_iloadN X2 d1_151 rfl 152 rfl ?_
  refine o_iinc (v := ((xi + (1 : Int32)) + (1 : Int32))) (w := (((xi + (1 : Int32)) + (1 : Int32)) + (1 : Int32))) X2 d1_152 rfl rfl #[.val (.int xcp), .val (.ref xa), .val (.int xi), .val (.int (((xi + (1 : Int32)) + (1 : Int32)) + (1 : Int32)))] rfl 155 rfl ?_
  refine o_sipush (v := (128 : Int32)) X2 d1_155 rfl 158 rfl ?_
  refine o_iloadN X2 d1_158 rfl 159 rfl ?_
  refine o_bipush (v := (6 : Int32)) X2 d1_159 rfl 161 rfl ?_
  refine o_ishr X2 d1_161 162 rfl ?_
  refine o_bipush (v := (63 : Int32)) X2 d1_162 rfl 164 rfl ?_
  refine o_iand X2 d1_164 165 rfl ?_
  refine o_ior X2 d1_165 166 rfl ?_
  refine o_i2b X2 d1_166 167 rfl ?_
  refine o_bastoreB X2 H2 0 rfl d1_167 (i + 1 + 1) (v_i1 _ _ (v_i1 _ _ hi (by omega)) (by omega)) (by first | omega | (simp; omega)) (Int8.toInt32 (Int32.toInt8 ((128 : Int32) ||| ((xcp >>> ((6 : Int32) &&& 31)) &&& (63 : Int32))))) (o_b8 _) 168 rfl ?_
  intro T3 h3 X3 H3
  replace H3 : OL n0 h3 ((xa, OA Z .byte (List.set (List.set (List.set vs i (Int8.toInt32 (Int32.toInt8 ((240 : Int32) ||| (xcp >>> ((18 : Int32) &&& 31)))))) (i + 1) (Int8.toInt32 (Int32.toInt8 ((128 : Int32) ||| ((xcp >>> ((12 : Int32) &&& 31)) &&& (63 : Int32)))))) (i + 1 + 1) (Int8.toInt32 (Int32.toInt8 ((128 : Int32) ||| ((xcp >>> ((6 : Int32) &&& 31)) &&& (63 : Int32))))))) :: L') := H3
  refine o_aloadN X3 d1_168 rfl rfl 169 rfl ?_
  refine o_iloadN X3 d1_169 rfl 170 rfl ?_
  refine o_iinc (v := (((xi + (1 : Int32)) + (1 : Int32)) + (1 : Int32))) (w := ((((xi + (1 : Int32)) + (1 : Int32)) + (1 : Int32)) + (1 : Int32))) X3 d1_170 rfl rfl #[.val (.int xcp), .val (.ref xa), .val (.int xi), .val (.int ((((xi + (1 : Int32)) + (1 : Int32)) + (1 : Int32)) + (1 : Int32)))] rfl 173 rfl ?_
  refine o_sipush (v := (128 : Int32)) X3 d1_173 rfl 176 rfl ?_
  refine o_iloadN X3 d1_176 rfl 177 rfl ?_
  refine o_bipush (v := (63 : Int32)) X3 d1_177 rfl 179 rfl ?_
  refine o_iand X3 d1_179 180 rfl ?_
  refine o_ior X3 d1_180 181 rfl ?_
  refine o_i2b X3 d1_181 182 rfl ?_
  refine o_bastoreB X3 H3 0 rfl d1_182 (i + 1 + 1 + 1) (v_i1 _ _ (v_i1 _ _ (v_i1 _ _ hi (by omega)) (by omega)) (by omega)) (by first | omega | (simp; omega)) (Int8.toInt32 (Int32.toInt8 ((128 : Int32) ||| (xcp &&& (63 : Int32))))) (o_b8 _) 183 rfl ?_
  intro T4 h4 X4 H4
  replace H4 : OL n0 h4 ((xa, OA Z .byte (List.set (List.set (List.set (List.set vs i (Int8.toInt32 (Int32.toInt8 ((240 : Int32) ||| (xcp >>> ((18 : Int32) &&& 31)))))) (i + 1) (Int8.toInt32 (Int32.toInt8 ((128 : Int32) ||| ((xcp >>> ((12 : Int32) &&& 31)) &&& (63 : Int32)))))) (i + 1 + 1) (Int8.toInt32 (Int32.toInt8 ((128 : Int32) ||| ((xcp >>> ((6 : Int32) &&& 31)) &&& (63 : Int32)))))) (i + 1 + 1 + 1) (Int8.toInt32 (Int32.toInt8 ((128 : Int32) ||| (xcp &&& (63 : Int32))))))) :: L') := H4
  refine o_iloadN X4 d1_183 rfl 184 rfl ?_
  exact o_retI X4 d1_184 (by decide) (by decide) (hQ _ _ ⟨rfl, H4⟩)
set_option maxRecDepth 65536 in
set_option maxHeartbeats 40000000 in
theorem c_atI (l : Launch) (Z : State) (a0 : Array Value) (hw : ∀ d ∈ tables_1, d.before a0 Z = true) (ws : List Jvm.Cond) (n0 : Nat) (h0 : Heap) (hn0 : n0 ≤ h0.size) (xa : Addr) (xp xi xn : Int32) (xe : Addr) (xf : Int32) (vs es : List Int32) (L' : List (Addr × (Cell → Prop))) (H0 : OL n0 h0 ((xa, OA Z .byte vs) :: (xe, OA Z .int es) :: L')) (jp : Nat) (hp : xp.toInt = jp) (vb : Int32) (hvb : vs[jp]? = some vb) (je : Nat) (hje : (xp - xi).toInt = je) (ve : Int32) (hve : es[je]? = some ve) (h1 : ¬ xp < xi) (h2 : xp < xi + xn) (heq : vb &&& 255 = ve) :
    OC l Z (⟨"org/bindloom/internal/Utf8EncodePinLaw", "at", "([BIII[II)Z"⟩ : MethodName) method_3_code 7 (some .boolean) ws ({ frames := 0, cells := 0, slots := 0, locals := 0 } : Room) n0 #[(.ref xa), (.int xp), (.int xi), (.int xn), (.ref xe), (.int xf)] h0 (fun r h => r = some (.int 1) ∧ h0 = h) := by
  refine OC.of (plainFor_of_name pn_1) hn0 #[.val (.ref xa), .val (.int xp), .val (.int xi), .val (.int xn), .val (.ref xe), .val (.int xf), .unset] (fun m => by first | (simp [entryFrame, mkF, argsToLocals, Value.category, maxLocals]; done) | rfl) ?_
  intro p e s m below meth cd0 T0 X0 Q' hQ
  refine o_iloadN X0 d2_0 rfl 1 rfl ?_
  refine o_iloadN X0 d2_1 rfl 2 rfl ?_
  refine o_icmpLt X0 d2_2 21 5 (by decide) (by decide) rfl (fun q => by exfalso; exact h1 q) ?_
  intro hc2
  refine o_iloadN X0 d2_5 rfl 6 rfl ?_
  refine o_iloadN X0 d2_6 rfl 7 rfl ?_
  refine o_iloadN X0 d2_7 rfl 8 rfl ?_
  refine o_iadd X0 d2_8 9 rfl ?_
  refine o_icmpGe X0 d2_9 21 12 (by decide) (by decide) rfl (fun q => by exfalso; exact q h2) ?_
  intro hc9
  refine o_aload X0 d2_12 rfl rfl 14 rfl ?_
  refine o_iloadN X0 d2_14 rfl 15 rfl ?_
  refine o_iloadN X0 d2_15 rfl 16 rfl ?_
  refine o_isub X0 d2_16 17 rfl ?_
  refine o_iaload X0 H0 1 rfl d2_17 je hje ve hve 18 rfl ?_
  refine o_goto X0 d2_18 27 (by decide) (by decide) ?_
  refine o_istore X0 d2_27 #[.val (.ref xa), .val (.int xp), .val (.int xi), .val (.int xn), .val (.ref xe), .val (.int xf), .val (.int ve)] rfl 29 rfl ?_
  refine o_aloadN X0 d2_29 rfl rfl 30 rfl ?_
  refine o_iloadN X0 d2_30 rfl 31 rfl ?_
  refine o_baloadB X0 H0 0 rfl d2_31 jp hp vb hvb 32 rfl ?_
  refine o_sipush (v := (255 : Int32)) X0 d2_32 rfl 35 rfl ?_
  refine o_iand X0 d2_35 36 rfl ?_
  refine o_iload X0 d2_36 rfl 38 rfl ?_
  refine o_icmpNe X0 d2_38 45 41 (by decide) (by decide) rfl (fun q => by exfalso; exact q heq) ?_
  intro hc38
  refine o_iconst (v := (1 : Int32)) X0 d2_41 rfl 42 rfl ?_
  refine o_goto X0 d2_42 46 (by decide) (by decide) ?_
  exact o_retZ X0 d2_46 (by decide) (by decide) (hQ _ _ ⟨rfl, rfl⟩)
set_option maxRecDepth 65536 in
set_option maxHeartbeats 40000000 in
theorem c_atO (l : Launch) (Z : State) (a0 : Array Value) (hw : ∀ d ∈ tables_1, d.before a0 Z = true) (ws : List Jvm.Cond) (n0 : Nat) (h0 : Heap) (hn0 : n0 ≤ h0.size) (xa : Addr) (xp xi xn : Int32) (xe : Addr) (xf : Int32) (vs es : List Int32) (L' : List (Addr × (Cell → Prop))) (H0 : OL n0 h0 ((xa, OA Z .byte vs) :: (xe, OA Z .int es) :: L')) (jp : Nat) (hp : xp.toInt = jp) (vb : Int32) (hvb : vs[jp]? = some vb) (h1 : xp < xi ∨ ¬ xp < xi + xn) (heq : vb &&& 255 = xf &&& 255) :
    OC l Z (⟨"org/bindloom/internal/Utf8EncodePinLaw", "at", "([BIII[II)Z"⟩ : MethodName) method_3_code 7 (some .boolean) ws ({ frames := 0, cells := 0, slots := 0, locals := 0 } : Room) n0 #[(.ref xa), (.int xp), (.int xi), (.int xn), (.ref xe), (.int xf)] h0 (fun r h => r = some (.int 1) ∧ h0 = h) := by
  refine OC.of (plainFor_of_name pn_1) hn0 #[.val (.ref xa), .val (.int xp), .val (.int xi), .val (.int xn), .val (.ref xe), .val (.int xf), .unset] (fun m => by first | (simp [entryFrame, mkF, argsToLocals, Value.category, maxLocals]; done) | rfl) ?_
  intro p e s m below meth cd0 T0 X0 Q' hQ
  refine o_iloadN X0 d2_0 rfl 1 rfl ?_
  refine o_iloadN X0 d2_1 rfl 2 rfl ?_
  refine o_icmpLt X0 d2_2 21 5 (by decide) (by decide) rfl ?_ ?_
  · intro hc2
    refine o_iload X0 d2_21 rfl 23 rfl ?_
    refine o_sipush (v := (255 : Int32)) X0 d2_23 rfl 26 rfl ?_
    refine o_iand X0 d2_26 27 rfl ?_
    refine o_istore X0 d2_27 #[.val (.ref xa), .val (.int xp), .val (.int xi), .val (.int xn), .val (.ref xe), .val (.int xf), .val (.int (xf &&& (255 : Int32)))] rfl 29 rfl ?_
    refine o_aloadN X0 d2_29 rfl rfl 30 rfl ?_
    refine o_iloadN X0 d2_30 rfl 31 rfl ?_
    refine o_baloadB X0 H0 0 rfl d2_31 jp hp vb hvb 32 rfl ?_
    refine o_sipush (v := (255 : Int32)) X0 d2_32 rfl 35 rfl ?_
    refine o_iand X0 d2_35 36 rfl ?_
    refine o_iload X0 d2_36 rfl 38 rfl ?_
    refine o_icmpNe X0 d2_38 45 41 (by decide) (by decide) rfl (fun q => by exfalso; exact q heq) ?_
    intro hc38
    refine o_iconst (v := (1 : Int32)) X0 d2_41 rfl 42 rfl ?_
    refine o_goto X0 d2_42 46 (by decide) (by decide) ?_
    exact o_retZ X0 d2_46 (by decide) (by decide) (hQ _ _ ⟨rfl, rfl⟩)
  · intro hc2
    refine o_iloadN X0 d2_5 rfl 6 rfl ?_
    refine o_iloadN X0 d2_6 rfl 7 rfl ?_
    refine o_iloadN X0 d2_7 rfl 8 rfl ?_
    refine o_iadd X0 d2_8 9 rfl ?_
    refine o_icmpGe X0 d2_9 21 12 (by decide) (by decide) rfl ?_ (fun q => by exfalso; exact h1.elim hc2 (fun z => z q))
    intro hc9
    refine o_iload X0 d2_21 rfl 23 rfl ?_
    refine o_sipush (v := (255 : Int32)) X0 d2_23 rfl 26 rfl ?_
    refine o_iand X0 d2_26 27 rfl ?_
    refine o_istore X0 d2_27 #[.val (.ref xa), .val (.int xp), .val (.int xi), .val (.int xn), .val (.ref xe), .val (.int xf), .val (.int (xf &&& (255 : Int32)))] rfl 29 rfl ?_
    refine o_aloadN X0 d2_29 rfl rfl 30 rfl ?_
    refine o_iloadN X0 d2_30 rfl 31 rfl ?_
    refine o_baloadB X0 H0 0 rfl d2_31 jp hp vb hvb 32 rfl ?_
    refine o_sipush (v := (255 : Int32)) X0 d2_32 rfl 35 rfl ?_
    refine o_iand X0 d2_35 36 rfl ?_
    refine o_iload X0 d2_36 rfl 38 rfl ?_
    refine o_icmpNe X0 d2_38 45 41 (by decide) (by decide) rfl (fun q => by exfalso; exact q heq) ?_
    intro hc38
    refine o_iconst (v := (1 : Int32)) X0 d2_41 rfl 42 rfl ?_
    refine o_goto X0 d2_42 46 (by decide) (by decide) ?_
    exact o_retZ X0 d2_46 (by decide) (by decide) (hQ _ _ ⟨rfl, rfl⟩)
set_option maxRecDepth 65536 in
set_option maxHeartbeats 40000000 in
theorem c_law (l : Launch) (Z : State) (a0 : Array Value) (hw : ∀ d ∈ tables_1, d.before a0 Z = true) (ws : List Jvm.Cond) (n0 : Nat) (h0 : Heap) (hn0 : n0 ≤ h0.size) (xc : Int32) (xi : Int32) (xf : Int32) :
    OC l Z x code maxLocals ret ws room_1 n0 #[(.int xc), (.int xi), (.int xf)] h0 (fun r h => r = some (.int 1)) := by
  refine OC.of (plainFor_of_name pn_1) hn0 #[.val (.int xc), .val (.int xi), .val (.int xf), .unset, .unset, .unset, .unset, .unset, .unset, .unset] (fun m => by first | (simp [entryFrame, mkF, argsToLocals, Value.category, maxLocals]; done) | rfl) ?_
  intro p e s m below meth cd0 T0 X0 Q' hQ
  have J248 : ∀ (T : State) (h : Heap) (xcp xx xn : Int32) (xbb xee : Addr) (e0 e1 e2 e3 : Int32), OW p l e room_1 s m #[(.int xc), (.int xi), (.int xf)] below meth cd0 Z x code maxLocals ret n0 T h 2 12 → OL n0 h ((xee, OA Z .int [e0, e1, e2, e3]) :: (xbb, OA Z .byte [(Int8.toInt32 (Int32.toInt8 xf)), (Int8.toInt32 (Int32.toInt8 xf)), (Int8.toInt32 (Int32.toInt8 xf)), (Int8.toInt32 (Int32.toInt8 xf)), (Int8.toInt32 (Int32.toInt8 xf)), (Int8.toInt32 (Int32.toInt8 xf)), (Int8.toInt32 (Int32.toInt8 xf)), (Int8.toInt32 (Int32.toInt8 xf))]) :: []) → ((xn = 1 ∧ 0 ≤ xcp.toInt ∧ xcp.toInt ≤ 127 ∧ xcp = e0) ∨ (xn = 2 ∧ 128 ≤ xcp.toInt ∧ xcp.toInt ≤ 2047 ∧ e0 = ((192 : Int32) + (xcp / (64 : Int32))) ∧ e1 = ((128 : Int32) + (xcp % (64 : Int32)))) ∨ (xn = 3 ∧ 2048 ≤ xcp.toInt ∧ xcp.toInt ≤ 65535 ∧ e0 = ((224 : Int32) + (xcp / (4096 : Int32))) ∧ e1 = ((128 : Int32) + ((xcp / (64 : Int32)) % (64 : Int32))) ∧ e2 = ((128 : Int32) + (xcp % (64 : Int32)))) ∨ (xn = 4 ∧ 65536 ≤ xcp.toInt ∧ xcp.toInt ≤ 1114111 ∧ e0 = ((240 : Int32) + (xcp / (262144 : Int32))) ∧ e1 = ((128 : Int32) + ((xcp / (4096 : Int32)) % (64 : Int32))) ∧ e2 = ((128 : Int32) + ((xcp / (64 : Int32)) % (64 : Int32))) ∧ e3 = ((128 : Int32) + (xcp % (64 : Int32))))) → (xx = 0 ∨ xx = 1 ∨ xx = 2 ∨ xx = 3) → OE p e room_1 below s n0 Q' T (mkF m 248 #[.val (.int xc), .val (.int xi), .val (.int xf), .val (.int xcp), .val (.int xx), .val (.int (Int8.toInt32 (Int32.toInt8 xf))), .val (.ref xbb), .val (.ref xee), .val (.int xn), .unset] []) := by
    intro T h xcp xx xn xbb xee e0 e1 e2 e3 X_J248 H_J248 hD hI
    rcases hD with ⟨rfl, hlo, hhi, rfl⟩ | ⟨rfl, hlo, hhi, rfl, rfl⟩ | ⟨rfl, hlo, hhi, rfl, rfl, rfl⟩ | ⟨rfl, hlo, hhi, rfl, rfl, rfl, rfl⟩ <;> rcases hI with rfl | rfl | rfl | rfl
    · skip
      refine o_iloadN X_J248 at_248 rfl 249 rfl ?_
      refine o_aload X_J248 at_249 rfl rfl 251 rfl ?_
      refine o_iload X_J248 at_251 rfl 253 rfl ?_
      have H2 : OL n0 h ((xbb, OA Z .byte [(Int8.toInt32 (Int32.toInt8 xf)), (Int8.toInt32 (Int32.toInt8 xf)), (Int8.toInt32 (Int32.toInt8 xf)), (Int8.toInt32 (Int32.toInt8 xf)), (Int8.toInt32 (Int32.toInt8 xf)), (Int8.toInt32 (Int32.toInt8 xf)), (Int8.toInt32 (Int32.toInt8 xf)), (Int8.toInt32 (Int32.toInt8 xf))]) :: (xee, OA Z .int [xcp, e1, e2, e3]) :: []) := H_J248.front 1 rfl
      refine o_callS X_J248 at_253 (rest := []) (c_enc1 l Z a0 hw [] n0 _ X_J248.size xcp xbb (0 : Int32) [(Int8.toInt32 (Int32.toInt8 xf)), (Int8.toInt32 (Int32.toInt8 xf)), (Int8.toInt32 (Int32.toInt8 xf)), (Int8.toInt32 (Int32.toInt8 xf)), (Int8.toInt32 (Int32.toInt8 xf)), (Int8.toInt32 (Int32.toInt8 xf)), (Int8.toInt32 (Int32.toInt8 xf)), (Int8.toInt32 (Int32.toInt8 xf))] ((xee, OA Z .int [xcp, e1, e2, e3]) :: []) H2 0 rfl (by show 1 ≤ 8; decide) (by decide) hlo hhi) (hw _ (List.mem_of_getElem? (i := 5) rfl)) (hw _ (List.mem_of_getElem? (i := 6) rfl)) (hw _ (List.mem_of_getElem? (i := 7) rfl)) (hw _ (List.mem_of_getElem? (i := 8) rfl)) (by decide) 0 (by decide) (by decide) rfl [(.int xcp), (.ref xbb), (.int (0 : Int32))] rfl pd_1 rfl rfl (Nat.le_of_eq rfl) 2 12 rfl rfl (by decide) (by decide) 256 rfl ?_
      rintro _ T1 h1 X1 ⟨rfl, H1⟩
      replace H1 : OL n0 h1 ((xbb, OA Z .byte [(Int8.toInt32 (Int32.toInt8 xcp)), (Int8.toInt32 (Int32.toInt8 xf)), (Int8.toInt32 (Int32.toInt8 xf)), (Int8.toInt32 (Int32.toInt8 xf)), (Int8.toInt32 (Int32.toInt8 xf)), (Int8.toInt32 (Int32.toInt8 xf)), (Int8.toInt32 (Int32.toInt8 xf)), (Int8.toInt32 (Int32.toInt8 xf))]) :: (xee, OA Z .int [xcp, e1, e2, e3]) :: []) := H1
      show OE p e room_1 below s n0 Q' T1 (mkF m 256 #[.val (.int xc), .val (.int xi), .val (.int xf), .val (.int xcp), .val (.int (0 : Int32)), .val (.int (Int8.toInt32 (Int32.toInt8 xf))), .val (.ref xbb), .val (.ref xee), .val (.int (1 : Int32)), .unset] [(.int ((0 : Int32) + (1 : Int32)))])
      refine o_istore X1 at_256 #[.val (.int xc), .val (.int xi), .val (.int xf), .val (.int xcp), .val (.int (0 : Int32)), .val (.int (Int8.toInt32 (Int32.toInt8 xf))), .val (.ref xbb), .val (.ref xee), .val (.int (1 : Int32)), .val (.int ((0 : Int32) + (1 : Int32)))] rfl 258 rfl ?_
      rw [show ((0 : Int32) + (1 : Int32)) = (1 : Int32) from rfl]
      refine o_iload X1 at_258 rfl 260 rfl ?_
      refine o_iload X1 at_260 rfl 262 rfl ?_
      refine o_iload X1 at_262 rfl 264 rfl ?_
      refine o_iadd X1 at_264 265 rfl ?_
      refine o_icmpNe X1 at_265 402 268 (by decide) (by decide) rfl (fun q => by exfalso; exact q rfl) ?_
      intro hc265
      refine o_aload X1 at_268 rfl rfl 270 rfl ?_
      refine o_iconst (v := (0 : Int32)) X1 at_270 rfl 271 rfl ?_
      refine o_iload X1 at_271 rfl 273 rfl ?_
      refine o_iload X1 at_273 rfl 275 rfl ?_
      refine o_aload X1 at_275 rfl rfl 277 rfl ?_
      refine o_iloadN X1 at_277 rfl 278 rfl ?_
      have H4 : OL n0 h1 ((xee, OA Z .int [xcp, e1, e2, e3]) :: (xbb, OA Z .byte [(Int8.toInt32 (Int32.toInt8 xcp)), (Int8.toInt32 (Int32.toInt8 xf)), (Int8.toInt32 (Int32.toInt8 xf)), (Int8.toInt32 (Int32.toInt8 xf)), (Int8.toInt32 (Int32.toInt8 xf)), (Int8.toInt32 (Int32.toInt8 xf)), (Int8.toInt32 (Int32.toInt8 xf)), (Int8.toInt32 (Int32.toInt8 xf))]) :: []) := H1.front 1 rfl
      have H5 : OL n0 h1 ((xbb, OA Z .byte [(Int8.toInt32 (Int32.toInt8 xcp)), (Int8.toInt32 (Int32.toInt8 xf)), (Int8.toInt32 (Int32.toInt8 xf)), (Int8.toInt32 (Int32.toInt8 xf)), (Int8.toInt32 (Int32.toInt8 xf)), (Int8.toInt32 (Int32.toInt8 xf)), (Int8.toInt32 (Int32.toInt8 xf)), (Int8.toInt32 (Int32.toInt8 xf))]) :: (xee, OA Z .int [xcp, e1, e2, e3]) :: []) := H4.front 1 rfl
      refine o_callS X1 at_278 (rest := []) (c_atI l Z a0 hw [] n0 _ X1.size xbb (0 : Int32) (0 : Int32) (1 : Int32) xee xf [(Int8.toInt32 (Int32.toInt8 xcp)), (Int8.toInt32 (Int32.toInt8 xf)), (Int8.toInt32 (Int32.toInt8 xf)), (Int8.toInt32 (Int32.toInt8 xf)), (Int8.toInt32 (Int32.toInt8 xf)), (Int8.toInt32 (Int32.toInt8 xf)), (Int8.toInt32 (Int32.toInt8 xf)), (Int8.toInt32 (Int32.toInt8 xf))] [xcp, e1, e2, e3] [] H5 0 rfl (Int8.toInt32 (Int32.toInt8 xcp)) rfl 0 rfl xcp rfl (by decide) (by decide) (v_e10 xcp hlo hhi)) (hw _ (List.mem_of_getElem? (i := 9) rfl)) (hw _ (List.mem_of_getElem? (i := 10) rfl)) (hw _ (List.mem_of_getElem? (i := 11) rfl)) (hw _ (List.mem_of_getElem? (i := 12) rfl)) (by decide) 0 (by decide) (by decide) rfl [(.ref xbb), (.int (0 : Int32)), (.int (0 : Int32)), (.int (1 : Int32)), (.ref xee), (.int xf)] rfl pd_2 rfl rfl (Nat.le_of_eq rfl) 2 12 rfl rfl (by decide) (by decide) 281 rfl ?_
      rintro _ T3 _ X3 ⟨rfl, rfl⟩
      show OE p e room_1 below s n0 Q' T3 (mkF m 281 #[.val (.int xc), .val (.int xi), .val (.int xf), .val (.int xcp), .val (.int (0 : Int32)), .val (.int (Int8.toInt32 (Int32.toInt8 xf))), .val (.ref xbb), .val (.ref xee), .val (.int (1 : Int32)), .val (.int (1 : Int32))] [(.int (1 : Int32))])
      refine o_ifEq X3 at_281 402 284 (by decide) (by decide) rfl (fun q => by exfalso; exact absurd q (by decide)) ?_
      intro hc281
      refine o_aload X3 at_284 rfl rfl 286 rfl ?_
      refine o_iconst (v := (1 : Int32)) X3 at_286 rfl 287 rfl ?_
      refine o_iload X3 at_287 rfl 289 rfl ?_
      refine o_iload X3 at_289 rfl 291 rfl ?_
      refine o_aload X3 at_291 rfl rfl 293 rfl ?_
      refine o_iloadN X3 at_293 rfl 294 rfl ?_
      have H7 : OL n0 h1 ((xee, OA Z .int [xcp, e1, e2, e3]) :: (xbb, OA Z .byte [(Int8.toInt32 (Int32.toInt8 xcp)), (Int8.toInt32 (Int32.toInt8 xf)), (Int8.toInt32 (Int32.toInt8 xf)), (Int8.toInt32 (Int32.toInt8 xf)), (Int8.toInt32 (Int32.toInt8 xf)), (Int8.toInt32 (Int32.toInt8 xf)), (Int8.toInt32 (Int32.toInt8 xf)), (Int8.toInt32 (Int32.toInt8 xf))]) :: []) := H5.front 1 rfl
      have H8 : OL n0 h1 ((xbb, OA Z .byte [(Int8.toInt32 (Int32.toInt8 xcp)), (Int8.toInt32 (Int32.toInt8 xf)), (Int8.toInt32 (Int32.toInt8 xf)), (Int8.toInt32 (Int32.toInt8 xf)), (Int8.toInt32 (Int32.toInt8 xf)), (Int8.toInt32 (Int32.toInt8 xf)), (Int8.toInt32 (Int32.toInt8 xf)), (Int8.toInt32 (Int32.toInt8 xf))]) :: (xee, OA Z .int [xcp, e1, e2, e3]) :: []) := H7.front 1 rfl
      refine o_callS X3 at_294 (rest := []) (c_atO l Z a0 hw [] n0 _ X3.size xbb (1 : Int32) (0 : Int32) (1 : Int32) xee xf [(Int8.toInt32 (Int32.toInt8 xcp)), (Int8.toInt32 (Int32.toInt8 xf)), (Int8.toInt32 (Int32.toInt8 xf)), (Int8.toInt32 (Int32.toInt8 xf)), (Int8.toInt32 (Int32.toInt8 xf)), (Int8.toInt32 (Int32.toInt8 xf)), (Int8.toInt32 (Int32.toInt8 xf)), (Int8.toInt32 (Int32.toInt8 xf))] [xcp, e1, e2, e3] [] H8 1 rfl (Int8.toInt32 (Int32.toInt8 xf)) rfl (by decide) (v_fill _)) (hw _ (List.mem_of_getElem? (i := 9) rfl)) (hw _ (List.mem_of_getElem? (i := 10) rfl)) (hw _ (List.mem_of_getElem? (i := 11) rfl)) (hw _ (List.mem_of_getElem? (i := 12) rfl)) (by decide) 0 (by decide) (by decide) rfl [(.ref xbb), (.int (1 : Int32)), (.int (0 : Int32)), (.int (1 : Int32)), (.ref xee), (.int xf)] rfl pd_2 rfl rfl (Nat.le_of_eq rfl) 2 12 rfl rfl (by decide) (by decide) 297 rfl ?_
      rintro _ T6 _ X6 ⟨rfl, rfl⟩
      show OE p e room_1 below s n0 Q' T6 (mkF m 297 #[.val (.int xc), .val (.int xi), .val (.int xf), .val (.int xcp), .val (.int (0 : Int32)), .val (.int (Int8.toInt32 (Int32.toInt8 xf))), .val (.ref xbb), .val (.ref xee), .val (.int (1 : Int32)), .val (.int (1 : Int32))] [(.int (1 : Int32))])
      refine o_ifEq X6 at_297 402 300 (by decide) (by decide) rfl (fun q => by exfalso; exact absurd q (by decide)) ?_
      intro hc297
      refine o_aload X6 at_300 rfl rfl 302 rfl ?_
      refine o_iconst (v := (2 : Int32)) X6 at_302 rfl 303 rfl ?_
      refine o_iload X6 at_303 rfl 305 rfl ?_
      refine o_iload X6 at_305 rfl 307 rfl ?_
      refine o_aload X6 at_307 rfl rfl 309 rfl ?_
      refine o_iloadN X6 at_309 rfl 310 rfl ?_
      have H10 : OL n0 h1 ((xee, OA Z .int [xcp, e1, e2, e3]) :: (xbb, OA Z .byte [(Int8.toInt32 (Int32.toInt8 xcp)), (Int8.toInt32 (Int32.toInt8 xf)), (Int8.toInt32 (Int32.toInt8 xf)), (Int8.toInt32 (Int32.toInt8 xf)), (Int8.toInt32 (Int32.toInt8 xf)), (Int8.toInt32 (Int32.toInt8 xf)), (Int8.toInt32 (Int32.toInt8 xf)), (Int8.toInt32 (Int32.toInt8 xf))]) :: []) := H8.front 1 rfl
      have H11 : OL n0 h1 ((xbb, OA Z .byte [(Int8.toInt32 (Int32.toInt8 xcp)), (Int8.toInt32 (Int32.toInt8 xf)), (Int8.toInt32 (Int32.toInt8 xf)), (Int8.toInt32 (Int32.toInt8 xf)), (Int8.toInt32 (Int32.toInt8 xf)), (Int8.toInt32 (Int32.toInt8 xf)), (Int8.toInt32 (Int32.toInt8 xf)), (Int8.toInt32 (Int32.toInt8 xf))]) :: (xee, OA Z .int [xcp, e1, e2, e3]) :: []) := H10.front 1 rfl
      refine o_callS X6 at_310 (rest := []) (c_atO l Z a0 hw [] n0 _ X6.size xbb (2 : Int32) (0 : Int32) (1 : Int32) xee xf [(Int8.toInt32 (Int32.toInt8 xcp)), (Int8.toInt32 (Int32.toInt8 xf)), (Int8.toInt32 (Int32.toInt8 xf)), (Int8.toInt32 (Int32.toInt8 xf)), (Int8.toInt32 (Int32.toInt8 xf)), (Int8.toInt32 (Int32.toInt8 xf)), (Int8.toInt32 (Int32.toInt8 xf)), (Int8.toInt32 (Int32.toInt8 xf))] [xcp, e1, e2, e3] [] H11 2 rfl (Int8.toInt32 (Int32.toInt8 xf)) rfl (by decide) (v_fill _)) (hw _ (List.mem_of_getElem? (i := 9) rfl)) (hw _ (List.mem_of_getElem? (i := 10) rfl)) (hw _ (List.mem_of_getElem? (i := 11) rfl)) (hw _ (List.mem_of_getElem? (i := 12) rfl)) (by decide) 0 (by decide) (by decide) rfl [(.ref xbb), (.int (2 : Int32)), (.int (0 : Int32)), (.int (1 : Int32)), (.ref xee), (.int xf)] rfl pd_2 rfl rfl (Nat.le_of_eq rfl) 2 12 rfl rfl (by decide) (by decide) 313 rfl ?_
      rintro _ T9 _ X9 ⟨rfl, rfl⟩
      show OE p e room_1 below s n0 Q' T9 (mkF m 313 #[.val (.int xc), .val (.int xi), .val (.int xf), .val (.int xcp), .val (.int (0 : Int32)), .val (.int (Int8.toInt32 (Int32.toInt8 xf))), .val (.ref xbb), .val (.ref xee), .val (.int (1 : Int32)), .val (.int (1 : Int32))] [(.int (1 : Int32))])
      refine o_ifEq X9 at_313 402 316 (by decide) (by decide) rfl (fun q => by exfalso; exact absurd q (by decide)) ?_
      intro hc313
      refine o_aload X9 at_316 rfl rfl 318 rfl ?_
      refine o_iconst (v := (3 : Int32)) X9 at_318 rfl 319 rfl ?_
      refine o_iload X9 at_319 rfl 321 rfl ?_
      refine o_iload X9 at_321 rfl 323 rfl ?_
      refine o_aload X9 at_323 rfl rfl 325 rfl ?_
      refine o_iloadN X9 at_325 rfl 326 rfl ?_
      have H13 : OL n0 h1 ((xee, OA Z .int [xcp, e1, e2, e3]) :: (xbb, OA Z .byte [(Int8.toInt32 (Int32.toInt8 xcp)), (Int8.toInt32 (Int32.toInt8 xf)), (Int8.toInt32 (Int32.toInt8 xf)), (Int8.toInt32 (Int32.toInt8 xf)), (Int8.toInt32 (Int32.toInt8 xf)), (Int8.toInt32 (Int32.toInt8 xf)), (Int8.toInt32 (Int32.toInt8 xf)), (Int8.toInt32 (Int32.toInt8 xf))]) :: []) := H11.front 1 rfl
      have H14 : OL n0 h1 ((xbb, OA Z .byte [(Int8.toInt32 (Int32.toInt8 xcp)), (Int8.toInt32 (Int32.toInt8 xf)), (Int8.toInt32 (Int32.toInt8 xf)), (Int8.toInt32 (Int32.toInt8 xf)), (Int8.toInt32 (Int32.toInt8 xf)), (Int8.toInt32 (Int32.toInt8 xf)), (Int8.toInt32 (Int32.toInt8 xf)), (Int8.toInt32 (Int32.toInt8 xf))]) :: (xee, OA Z .int [xcp, e1, e2, e3]) :: []) := H13.front 1 rfl
      refine o_callS X9 at_326 (rest := []) (c_atO l Z a0 hw [] n0 _ X9.size xbb (3 : Int32) (0 : Int32) (1 : Int32) xee xf [(Int8.toInt32 (Int32.toInt8 xcp)), (Int8.toInt32 (Int32.toInt8 xf)), (Int8.toInt32 (Int32.toInt8 xf)), (Int8.toInt32 (Int32.toInt8 xf)), (Int8.toInt32 (Int32.toInt8 xf)), (Int8.toInt32 (Int32.toInt8 xf)), (Int8.toInt32 (Int32.toInt8 xf)), (Int8.toInt32 (Int32.toInt8 xf))] [xcp, e1, e2, e3] [] H14 3 rfl (Int8.toInt32 (Int32.toInt8 xf)) rfl (by decide) (v_fill _)) (hw _ (List.mem_of_getElem? (i := 9) rfl)) (hw _ (List.mem_of_getElem? (i := 10) rfl)) (hw _ (List.mem_of_getElem? (i := 11) rfl)) (hw _ (List.mem_of_getElem? (i := 12) rfl)) (by decide) 0 (by decide) (by decide) rfl [(.ref xbb), (.int (3 : Int32)), (.int (0 : Int32)), (.int (1 : Int32)), (.ref xee), (.int xf)] rfl pd_2 rfl rfl (Nat.le_of_eq rfl) 2 12 rfl rfl (by decide) (by decide) 329 rfl ?_
      rintro _ T12 _ X12 ⟨rfl, rfl⟩
      show OE p e room_1 below s n0 Q' T12 (mkF m 329 #[.val (.int xc), .val (.int xi), .val (.int xf), .val (.int xcp), .val (.int (0 : Int32)), .val (.int (Int8.toInt32 (Int32.toInt8 xf))), .val (.ref xbb), .val (.ref xee), .val (.int (1 : Int32)), .val (.int (1 : Int32))] [(.int (1 : Int32))])
      refine o_ifEq X12 at_329 402 332 (by decide) (by decide) rfl (fun q => by exfalso; exact absurd q (by decide)) ?_
      intro hc329
      refine o_aload X12 at_332 rfl rfl 334 rfl ?_
      refine o_iconst (v := (4 : Int32)) X12 at_334 rfl 335 rfl ?_
      refine o_iload X12 at_335 rfl 337 rfl ?_
      refine o_iload X12 at_337 rfl 339 rfl ?_
      refine o_aload X12 at_339 rfl rfl 341 rfl ?_
      refine o_iloadN X12 at_341 rfl 342 rfl ?_
      have H16 : OL n0 h1 ((xee, OA Z .int [xcp, e1, e2, e3]) :: (xbb, OA Z .byte [(Int8.toInt32 (Int32.toInt8 xcp)), (Int8.toInt32 (Int32.toInt8 xf)), (Int8.toInt32 (Int32.toInt8 xf)), (Int8.toInt32 (Int32.toInt8 xf)), (Int8.toInt32 (Int32.toInt8 xf)), (Int8.toInt32 (Int32.toInt8 xf)), (Int8.toInt32 (Int32.toInt8 xf)), (Int8.toInt32 (Int32.toInt8 xf))]) :: []) := H14.front 1 rfl
      have H17 : OL n0 h1 ((xbb, OA Z .byte [(Int8.toInt32 (Int32.toInt8 xcp)), (Int8.toInt32 (Int32.toInt8 xf)), (Int8.toInt32 (Int32.toInt8 xf)), (Int8.toInt32 (Int32.toInt8 xf)), (Int8.toInt32 (Int32.toInt8 xf)), (Int8.toInt32 (Int32.toInt8 xf)), (Int8.toInt32 (Int32.toInt8 xf)), (Int8.toInt32 (Int32.toInt8 xf))]) :: (xee, OA Z .int [xcp, e1, e2, e3]) :: []) := H16.front 1 rfl
      refine o_callS X12 at_342 (rest := []) (c_atO l Z a0 hw [] n0 _ X12.size xbb (4 : Int32) (0 : Int32) (1 : Int32) xee xf [(Int8.toInt32 (Int32.toInt8 xcp)), (Int8.toInt32 (Int32.toInt8 xf)), (Int8.toInt32 (Int32.toInt8 xf)), (Int8.toInt32 (Int32.toInt8 xf)), (Int8.toInt32 (Int32.toInt8 xf)), (Int8.toInt32 (Int32.toInt8 xf)), (Int8.toInt32 (Int32.toInt8 xf)), (Int8.toInt32 (Int32.toInt8 xf))] [xcp, e1, e2, e3] [] H17 4 rfl (Int8.toInt32 (Int32.toInt8 xf)) rfl (by decide) (v_fill _)) (hw _ (List.mem_of_getElem? (i := 9) rfl)) (hw _ (List.mem_of_getElem? (i := 10) rfl)) (hw _ (List.mem_of_getElem? (i := 11) rfl)) (hw _ (List.mem_of_getElem? (i := 12) rfl)) (by decide) 0 (by decide) (by decide) rfl [(.ref xbb), (.int (4 : Int32)), (.int (0 : Int32)), (.int (1 : Int32)), (.ref xee), (.int xf)] rfl pd_2 rfl rfl (Nat.le_of_eq rfl) 2 12 rfl rfl (by decide) (by decide) 345 rfl ?_
      rintro _ T15 _ X15 ⟨rfl, rfl⟩
      show OE p e room_1 below s n0 Q' T15 (mkF m 345 #[.val (.int xc), .val (.int xi), .val (.int xf), .val (.int xcp), .val (.int (0 : Int32)), .val (.int (Int8.toInt32 (Int32.toInt8 xf))), .val (.ref xbb), .val (.ref xee), .val (.int (1 : Int32)), .val (.int (1 : Int32))] [(.int (1 : Int32))])
      refine o_ifEq X15 at_345 402 348 (by decide) (by decide) rfl (fun q => by exfalso; exact absurd q (by decide)) ?_
      intro hc345
      refine o_aload X15 at_348 rfl rfl 350 rfl ?_
      refine o_iconst (v := (5 : Int32)) X15 at_350 rfl 351 rfl ?_
      refine o_iload X15 at_351 rfl 353 rfl ?_
      refine o_iload X15 at_353 rfl 355 rfl ?_
      refine o_aload X15 at_355 rfl rfl 357 rfl ?_
      refine o_iloadN X15 at_357 rfl 358 rfl ?_
      have H19 : OL n0 h1 ((xee, OA Z .int [xcp, e1, e2, e3]) :: (xbb, OA Z .byte [(Int8.toInt32 (Int32.toInt8 xcp)), (Int8.toInt32 (Int32.toInt8 xf)), (Int8.toInt32 (Int32.toInt8 xf)), (Int8.toInt32 (Int32.toInt8 xf)), (Int8.toInt32 (Int32.toInt8 xf)), (Int8.toInt32 (Int32.toInt8 xf)), (Int8.toInt32 (Int32.toInt8 xf)), (Int8.toInt32 (Int32.toInt8 xf))]) :: []) := H17.front 1 rfl
      have H20 : OL n0 h1 ((xbb, OA Z .byte [(Int8.toInt32 (Int32.toInt8 xcp)), (Int8.toInt32 (Int32.toInt8 xf)), (Int8.toInt32 (Int32.toInt8 xf)), (Int8.toInt32 (Int32.toInt8 xf)), (Int8.toInt32 (Int32.toInt8 xf)), (Int8.toInt32 (Int32.toInt8 xf)), (Int8.toInt32 (Int32.toInt8 xf)), (Int8.toInt32 (Int32.toInt8 xf))]) :: (xee, OA Z .int [xcp, e1, e2, e3]) :: []) := H19.front 1 rfl
      refine o_callS X15 at_358 (rest := []) (c_atO l Z a0 hw [] n0 _ X15.size xbb (5 : Int32) (0 : Int32) (1 : Int32) xee xf [(Int8.toInt32 (Int32.toInt8 xcp)), (Int8.toInt32 (Int32.toInt8 xf)), (Int8.toInt32 (Int32.toInt8 xf)), (Int8.toInt32 (Int32.toInt8 xf)), (Int8.toInt32 (Int32.toInt8 xf)), (Int8.toInt32 (Int32.toInt8 xf)), (Int8.toInt32 (Int32.toInt8 xf)), (Int8.toInt32 (Int32.toInt8 xf))] [xcp, e1, e2, e3] [] H20 5 rfl (Int8.toInt32 (Int32.toInt8 xf)) rfl (by decide) (v_fill _)) (hw _ (List.mem_of_getElem? (i := 9) rfl)) (hw _ (List.mem_of_getElem? (i := 10) rfl)) (hw _ (List.mem_of_getElem? (i := 11) rfl)) (hw _ (List.mem_of_getElem? (i := 12) rfl)) (by decide) 0 (by decide) (by decide) rfl [(.ref xbb), (.int (5 : Int32)), (.int (0 : Int32)), (.int (1 : Int32)), (.ref xee), (.int xf)] rfl pd_2 rfl rfl (Nat.le_of_eq rfl) 2 12 rfl rfl (by decide) (by decide) 361 rfl ?_
      rintro _ T18 _ X18 ⟨rfl, rfl⟩
      show OE p e room_1 below s n0 Q' T18 (mkF m 361 #[.val (.int xc), .val (.int xi), .val (.int xf), .val (.int xcp), .val (.int (0 : Int32)), .val (.int (Int8.toInt32 (Int32.toInt8 xf))), .val (.ref xbb), .val (.ref xee), .val (.int (1 : Int32)), .val (.int (1 : Int32))] [(.int (1 : Int32))])
      refine o_ifEq X18 at_361 402 364 (by decide) (by decide) rfl (fun q => by exfalso; exact absurd q (by decide)) ?_
      intro hc361
      refine o_aload X18 at_364 rfl rfl 366 rfl ?_
      refine o_bipush (v := (6 : Int32)) X18 at_366 rfl 368 rfl ?_
      refine o_iload X18 at_368 rfl 370 rfl ?_
      refine o_iload X18 at_370 rfl 372 rfl ?_
      refine o_aload X18 at_372 rfl rfl 374 rfl ?_
      refine o_iloadN X18 at_374 rfl 375 rfl ?_
      have H22 : OL n0 h1 ((xee, OA Z .int [xcp, e1, e2, e3]) :: (xbb, OA Z .byte [(Int8.toInt32 (Int32.toInt8 xcp)), (Int8.toInt32 (Int32.toInt8 xf)), (Int8.toInt32 (Int32.toInt8 xf)), (Int8.toInt32 (Int32.toInt8 xf)), (Int8.toInt32 (Int32.toInt8 xf)), (Int8.toInt32 (Int32.toInt8 xf)), (Int8.toInt32 (Int32.toInt8 xf)), (Int8.toInt32 (Int32.toInt8 xf))]) :: []) := H20.front 1 rfl
      have H23 : OL n0 h1 ((xbb, OA Z .byte [(Int8.toInt32 (Int32.toInt8 xcp)), (Int8.toInt32 (Int32.toInt8 xf)), (Int8.toInt32 (Int32.toInt8 xf)), (Int8.toInt32 (Int32.toInt8 xf)), (Int8.toInt32 (Int32.toInt8 xf)), (Int8.toInt32 (Int32.toInt8 xf)), (Int8.toInt32 (Int32.toInt8 xf)), (Int8.toInt32 (Int32.toInt8 xf))]) :: (xee, OA Z .int [xcp, e1, e2, e3]) :: []) := H22.front 1 rfl
      refine o_callS X18 at_375 (rest := []) (c_atO l Z a0 hw [] n0 _ X18.size xbb (6 : Int32) (0 : Int32) (1 : Int32) xee xf [(Int8.toInt32 (Int32.toInt8 xcp)), (Int8.toInt32 (Int32.toInt8 xf)), (Int8.toInt32 (Int32.toInt8 xf)), (Int8.toInt32 (Int32.toInt8 xf)), (Int8.toInt32 (Int32.toInt8 xf)), (Int8.toInt32 (Int32.toInt8 xf)), (Int8.toInt32 (Int32.toInt8 xf)), (Int8.toInt32 (Int32.toInt8 xf))] [xcp, e1, e2, e3] [] H23 6 rfl (Int8.toInt32 (Int32.toInt8 xf)) rfl (by decide) (v_fill _)) (hw _ (List.mem_of_getElem? (i := 9) rfl)) (hw _ (List.mem_of_getElem? (i := 10) rfl)) (hw _ (List.mem_of_getElem? (i := 11) rfl)) (hw _ (List.mem_of_getElem? (i := 12) rfl)) (by decide) 0 (by decide) (by decide) rfl [(.ref xbb), (.int (6 : Int32)), (.int (0 : Int32)), (.int (1 : Int32)), (.ref xee), (.int xf)] rfl pd_2 rfl rfl (Nat.le_of_eq rfl) 2 12 rfl rfl (by decide) (by decide) 378 rfl ?_
      rintro _ T21 _ X21 ⟨rfl, rfl⟩
      show OE p e room_1 below s n0 Q' T21 (mkF m 378 #[.val (.int xc), .val (.int xi), .val (.int xf), .val (.int xcp), .val (.int (0 : Int32)), .val (.int (Int8.toInt32 (Int32.toInt8 xf))), .val (.ref xbb), .val (.ref xee), .val (.int (1 : Int32)), .val (.int (1 : Int32))] [(.int (1 : Int32))])
      refine o_ifEq X21 at_378 402 381 (by decide) (by decide) rfl (fun q => by exfalso; exact absurd q (by decide)) ?_
      intro hc378
      refine o_aload X21 at_381 rfl rfl 383 rfl ?_
      refine o_bipush (v := (7 : Int32)) X21 at_383 rfl 385 rfl ?_
      refine o_iload X21 at_385 rfl 387 rfl ?_
      refine o_iload X21 at_387 rfl 389 rfl ?_
      refine o_aload X21 at_389 rfl rfl 391 rfl ?_
      refine o_iloadN X21 at_391 rfl 392 rfl ?_
      have H25 : OL n0 h1 ((xee, OA Z .int [xcp, e1, e2, e3]) :: (xbb, OA Z .byte [(Int8.toInt32 (Int32.toInt8 xcp)), (Int8.toInt32 (Int32.toInt8 xf)), (Int8.toInt32 (Int32.toInt8 xf)), (Int8.toInt32 (Int32.toInt8 xf)), (Int8.toInt32 (Int32.toInt8 xf)), (Int8.toInt32 (Int32.toInt8 xf)), (Int8.toInt32 (Int32.toInt8 xf)), (Int8.toInt32 (Int32.toInt8 xf))]) :: []) := H23.front 1 rfl
      have H26 : OL n0 h1 ((xbb, OA Z .byte [(Int8.toInt32 (Int32.toInt8 xcp)), (Int8.toInt32 (Int32.toInt8 xf)), (Int8.toInt32 (Int32.toInt8 xf)), (Int8.toInt32 (Int32.toInt8 xf)), (Int8.toInt32 (Int32.toInt8 xf)), (Int8.toInt32 (Int32.toInt8 xf)), (Int8.toInt32 (Int32.toInt8 xf)), (Int8.toInt32 (Int32.toInt8 xf))]) :: (xee, OA Z .int [xcp, e1, e2, e3]) :: []) := H25.front 1 rfl
      refine o_callS X21 at_392 (rest := []) (c_atO l Z a0 hw [] n0 _ X21.size xbb (7 : Int32) (0 : Int32) (1 : Int32) xee xf [(Int8.toInt32 (Int32.toInt8 xcp)), (Int8.toInt32 (Int32.toInt8 xf)), (Int8.toInt32 (Int32.toInt8 xf)), (Int8.toInt32 (Int32.toInt8 xf)), (Int8.toInt32 (Int32.toInt8 xf)), (Int8.toInt32 (Int32.toInt8 xf)), (Int8.toInt32 (Int32.toInt8 xf)), (Int8.toInt32 (Int32.toInt8 xf))] [xcp, e1, e2, e3] [] H26 7 rfl (Int8.toInt32 (Int32.toInt8 xf)) rfl (by decide) (v_fill _)) (hw _ (List.mem_of_getElem? (i := 9) rfl)) (hw _ (List.mem_of_getElem? (i := 10) rfl)) (hw _ (List.mem_of_getElem? (i := 11) rfl)) (hw _ (List.mem_of_getElem? (i := 12) rfl)) (by decide) 0 (by decide) (by decide) rfl [(.ref xbb), (.int (7 : Int32)), (.int (0 : Int32)), (.int (1 : Int32)), (.ref xee), (.int xf)] rfl pd_2 rfl rfl (Nat.le_of_eq rfl) 2 12 rfl rfl (by decide) (by decide) 395 rfl ?_
      rintro _ T24 _ X24 ⟨rfl, rfl⟩
      show OE p e room_1 below s n0 Q' T24 (mkF m 395 #[.val (.int xc), .val (.int xi), .val (.int xf), .val (.int xcp), .val (.int (0 : Int32)), .val (.int (Int8.toInt32 (Int32.toInt8 xf))), .val (.ref xbb), .val (.ref xee), .val (.int (1 : Int32)), .val (.int (1 : Int32))] [(.int (1 : Int32))])
      refine o_ifEq X24 at_395 402 398 (by decide) (by decide) rfl (fun q => by exfalso; exact absurd q (by decide)) ?_
      intro hc395
      refine o_iconst (v := (1 : Int32)) X24 at_398 rfl 399 rfl ?_
      refine o_goto X24 at_399 403 (by decide) (by decide) ?_
      exact o_retZ X24 at_403 (by decide) (by decide) (hQ _ _ rfl)
    · skip
      refine o_iloadN X_J248 at_248 rfl 249 rfl ?_
      refine o_aload X_J248 at_249 rfl rfl 251 rfl ?_
      refine o_iload X_J248 at_251 rfl 253 rfl ?_
      have H28 : OL n0 h ((xbb, OA Z .byte [(Int8.toInt32 (Int32.toInt8 xf)), (Int8.toInt32 (Int32.toInt8 xf)), (Int8.toInt32 (Int32.toInt8 xf)), (Int8.toInt32 (Int32.toInt8 xf)), (Int8.toInt32 (Int32.toInt8 xf)), (Int8.toInt32 (Int32.toInt8 xf)), (Int8.toInt32 (Int32.toInt8 xf)), (Int8.toInt32 (Int32.toInt8 xf))]) :: (xee, OA Z .int [xcp, e1, e2, e3]) :: []) := H_J248.front 1 rfl
      refine o_callS X_J248 at_253 (rest := []) (c_enc1 l Z a0 hw [] n0 _ X_J248.size xcp xbb (1 : Int32) [(Int8.toInt32 (Int32.toInt8 xf)), (Int8.toInt32 (Int32.toInt8 xf)), (Int8.toInt32 (Int32.toInt8 xf)), (Int8.toInt32 (Int32.toInt8 xf)), (Int8.toInt32 (Int32.toInt8 xf)), (Int8.toInt32 (Int32.toInt8 xf)), (Int8.toInt32 (Int32.toInt8 xf)), (Int8.toInt32 (Int32.toInt8 xf))] ((xee, OA Z .int [xcp, e1, e2, e3]) :: []) H28 1 rfl (by show 2 ≤ 8; decide) (by decide) hlo hhi) (hw _ (List.mem_of_getElem? (i := 5) rfl)) (hw _ (List.mem_of_getElem? (i := 6) rfl)) (hw _ (List.mem_of_getElem? (i := 7) rfl)) (hw _ (List.mem_of_getElem? (i := 8) rfl)) (by decide) 0 (by decide) (by decide) rfl [(.int xcp), (.ref xbb), (.int (1 : Int32))] rfl pd_1 rfl rfl (Nat.le_of_eq rfl) 2 12 rfl rfl (by decide) (by decide) 256 rfl ?_
      rintro _ T27 h27 X27 ⟨rfl, H27⟩
      replace H27 : OL n0 h27 ((xbb, OA Z .byte [(Int8.toInt32 (Int32.toInt8 xf)), (Int8.toInt32 (Int32.toInt8 xcp)), (Int8.toInt32 (Int32.toInt8 xf)), (Int8.toInt32 (Int32.toInt8 xf)), (Int8.toInt32 (Int32.toInt8 xf)), (Int8.toInt32 (Int32.toInt8 xf)), (Int8.toInt32 (Int32.toInt8 xf)), (Int8.toInt32 (Int32.toInt8 xf))]) :: (xee, OA Z .int [xcp, e1, e2, e3]) :: []) := H27
      show OE p e room_1 below s n0 Q' T27 (mkF m 256 #[.val (.int xc), .val (.int xi), .val (.int xf), .val (.int xcp), .val (.int (1 : Int32)), .val (.int (Int8.toInt32 (Int32.toInt8 xf))), .val (.ref xbb), .val (.ref xee), .val (.int (1 : Int32)), .unset] [(.int ((1 : Int32) + (1 : Int32)))])
      refine o_istore X27 at_256 #[.val (.int xc), .val (.int xi), .val (.int xf), .val (.int xcp), .val (.int (1 : Int32)), .val (.int (Int8.toInt32 (Int32.toInt8 xf))), .val (.ref xbb), .val (.ref xee), .val (.int (1 : Int32)), .val (.int ((1 : Int32) + (1 : Int32)))] rfl 258 rfl ?_
      rw [show ((1 : Int32) + (1 : Int32)) = (2 : Int32) from rfl]
      refine o_iload X27 at_258 rfl 260 rfl ?_
      refine o_iload X27 at_260 rfl 262 rfl ?_
      refine o_iload X27 at_262 rfl 264 rfl ?_
      refine o_iadd X27 at_264 265 rfl ?_
      refine o_icmpNe X27 at_265 402 268 (by decide) (by decide) rfl (fun q => by exfalso; exact q rfl) ?_
      intro hc265
      refine o_aload X27 at_268 rfl rfl 270 rfl ?_
      refine o_iconst (v := (0 : Int32)) X27 at_270 rfl 271 rfl ?_
      refine o_iload X27 at_271 rfl 273 rfl ?_
      refine o_iload X27 at_273 rfl 275 rfl ?_
      refine o_aload X27 at_275 rfl rfl 277 rfl ?_
      refine o_iloadN X27 at_277 rfl 278 rfl ?_
      have H30 : OL n0 h27 ((xee, OA Z .int [xcp, e1, e2, e3]) :: (xbb, OA Z .byte [(Int8.toInt32 (Int32.toInt8 xf)), (Int8.toInt32 (Int32.toInt8 xcp)), (Int8.toInt32 (Int32.toInt8 xf)), (Int8.toInt32 (Int32.toInt8 xf)), (Int8.toInt32 (Int32.toInt8 xf)), (Int8.toInt32 (Int32.toInt8 xf)), (Int8.toInt32 (Int32.toInt8 xf)), (Int8.toInt32 (Int32.toInt8 xf))]) :: []) := H27.front 1 rfl
      have H31 : OL n0 h27 ((xbb, OA Z .byte [(Int8.toInt32 (Int32.toInt8 xf)), (Int8.toInt32 (Int32.toInt8 xcp)), (Int8.toInt32 (Int32.toInt8 xf)), (Int8.toInt32 (Int32.toInt8 xf)), (Int8.toInt32 (Int32.toInt8 xf)), (Int8.toInt32 (Int32.toInt8 xf)), (Int8.toInt32 (Int32.toInt8 xf)), (Int8.toInt32 (Int32.toInt8 xf))]) :: (xee, OA Z .int [xcp, e1, e2, e3]) :: []) := H30.front 1 rfl
      refine o_callS X27 at_278 (rest := []) (c_atO l Z a0 hw [] n0 _ X27.size xbb (0 : Int32) (1 : Int32) (1 : Int32) xee xf [(Int8.toInt32 (Int32.toInt8 xf)), (Int8.toInt32 (Int32.toInt8 xcp)), (Int8.toInt32 (Int32.toInt8 xf)), (Int8.toInt32 (Int32.toInt8 xf)), (Int8.toInt32 (Int32.toInt8 xf)), (Int8.toInt32 (Int32.toInt8 xf)), (Int8.toInt32 (Int32.toInt8 xf)), (Int8.toInt32 (Int32.toInt8 xf))] [xcp, e1, e2, e3] [] H31 0 rfl (Int8.toInt32 (Int32.toInt8 xf)) rfl (by decide) (v_fill _)) (hw _ (List.mem_of_getElem? (i := 9) rfl)) (hw _ (List.mem_of_getElem? (i := 10) rfl)) (hw _ (List.mem_of_getElem? (i := 11) rfl)) (hw _ (List.mem_of_getElem? (i := 12) rfl)) (by decide) 0 (by decide) (by decide) rfl [(.ref xbb), (.int (0 : Int32)), (.int (1 : Int32)), (.int (1 : Int32)), (.ref xee), (.int xf)] rfl pd_2 rfl rfl (Nat.le_of_eq rfl) 2 12 rfl rfl (by decide) (by decide) 281 rfl ?_
      rintro _ T29 _ X29 ⟨rfl, rfl⟩
      show OE p e room_1 below s n0 Q' T29 (mkF m 281 #[.val (.int xc), .val (.int xi), .val (.int xf), .val (.int xcp), .val (.int (1 : Int32)), .val (.int (Int8.toInt32 (Int32.toInt8 xf))), .val (.ref xbb), .val (.ref xee), .val (.int (1 : Int32)), .val (.int (2 : Int32))] [(.int (1 : Int32))])
      refine o_ifEq X29 at_281 402 284 (by decide) (by decide) rfl (fun q => by exfalso; exact absurd q (by decide)) ?_
      intro hc281
      refine o_aload X29 at_284 rfl rfl 286 rfl ?_
      refine o_iconst (v := (1 : Int32)) X29 at_286 rfl 287 rfl ?_
      refine o_iload X29 at_287 rfl 289 rfl ?_
      refine o_iload X29 at_289 rfl 291 rfl ?_
      refine o_aload X29 at_291 rfl rfl 293 rfl ?_
      refine o_iloadN X29 at_293 rfl 294 rfl ?_
      have H33 : OL n0 h27 ((xee, OA Z .int [xcp, e1, e2, e3]) :: (xbb, OA Z .byte [(Int8.toInt32 (Int32.toInt8 xf)), (Int8.toInt32 (Int32.toInt8 xcp)), (Int8.toInt32 (Int32.toInt8 xf)), (Int8.toInt32 (Int32.toInt8 xf)), (Int8.toInt32 (Int32.toInt8 xf)), (Int8.toInt32 (Int32.toInt8 xf)), (Int8.toInt32 (Int32.toInt8 xf)), (Int8.toInt32 (Int32.toInt8 xf))]) :: []) := H31.front 1 rfl
      have H34 : OL n0 h27 ((xbb, OA Z .byte [(Int8.toInt32 (Int32.toInt8 xf)), (Int8.toInt32 (Int32.toInt8 xcp)), (Int8.toInt32 (Int32.toInt8 xf)), (Int8.toInt32 (Int32.toInt8 xf)), (Int8.toInt32 (Int32.toInt8 xf)), (Int8.toInt32 (Int32.toInt8 xf)), (Int8.toInt32 (Int32.toInt8 xf)), (Int8.toInt32 (Int32.toInt8 xf))]) :: (xee, OA Z .int [xcp, e1, e2, e3]) :: []) := H33.front 1 rfl
      refine o_callS X29 at_294 (rest := []) (c_atI l Z a0 hw [] n0 _ X29.size xbb (1 : Int32) (1 : Int32) (1 : Int32) xee xf [(Int8.toInt32 (Int32.toInt8 xf)), (Int8.toInt32 (Int32.toInt8 xcp)), (Int8.toInt32 (Int32.toInt8 xf)), (Int8.toInt32 (Int32.toInt8 xf)), (Int8.toInt32 (Int32.toInt8 xf)), (Int8.toInt32 (Int32.toInt8 xf)), (Int8.toInt32 (Int32.toInt8 xf)), (Int8.toInt32 (Int32.toInt8 xf))] [xcp, e1, e2, e3] [] H34 1 rfl (Int8.toInt32 (Int32.toInt8 xcp)) rfl 0 rfl xcp rfl (by decide) (by decide) (v_e10 xcp hlo hhi)) (hw _ (List.mem_of_getElem? (i := 9) rfl)) (hw _ (List.mem_of_getElem? (i := 10) rfl)) (hw _ (List.mem_of_getElem? (i := 11) rfl)) (hw _ (List.mem_of_getElem? (i := 12) rfl)) (by decide) 0 (by decide) (by decide) rfl [(.ref xbb), (.int (1 : Int32)), (.int (1 : Int32)), (.int (1 : Int32)), (.ref xee), (.int xf)] rfl pd_2 rfl rfl (Nat.le_of_eq rfl) 2 12 rfl rfl (by decide) (by decide) 297 rfl ?_
      rintro _ T32 _ X32 ⟨rfl, rfl⟩
      show OE p e room_1 below s n0 Q' T32 (mkF m 297 #[.val (.int xc), .val (.int xi), .val (.int xf), .val (.int xcp), .val (.int (1 : Int32)), .val (.int (Int8.toInt32 (Int32.toInt8 xf))), .val (.ref xbb), .val (.ref xee), .val (.int (1 : Int32)), .val (.int (2 : Int32))] [(.int (1 : Int32))])
      refine o_ifEq X32 at_297 402 300 (by decide) (by decide) rfl (fun q => by exfalso; exact absurd q (by decide)) ?_
      intro hc297
      refine o_aload X32 at_300 rfl rfl 302 rfl ?_
      refine o_iconst (v := (2 : Int32)) X32 at_302 rfl 303 rfl ?_
      refine o_iload X32 at_303 rfl 305 rfl ?_
      refine o_iload X32 at_305 rfl 307 rfl ?_
      refine o_aload X32 at_307 rfl rfl 309 rfl ?_
      refine o_iloadN X32 at_309 rfl 310 rfl ?_
      have H36 : OL n0 h27 ((xee, OA Z .int [xcp, e1, e2, e3]) :: (xbb, OA Z .byte [(Int8.toInt32 (Int32.toInt8 xf)), (Int8.toInt32 (Int32.toInt8 xcp)), (Int8.toInt32 (Int32.toInt8 xf)), (Int8.toInt32 (Int32.toInt8 xf)), (Int8.toInt32 (Int32.toInt8 xf)), (Int8.toInt32 (Int32.toInt8 xf)), (Int8.toInt32 (Int32.toInt8 xf)), (Int8.toInt32 (Int32.toInt8 xf))]) :: []) := H34.front 1 rfl
      have H37 : OL n0 h27 ((xbb, OA Z .byte [(Int8.toInt32 (Int32.toInt8 xf)), (Int8.toInt32 (Int32.toInt8 xcp)), (Int8.toInt32 (Int32.toInt8 xf)), (Int8.toInt32 (Int32.toInt8 xf)), (Int8.toInt32 (Int32.toInt8 xf)), (Int8.toInt32 (Int32.toInt8 xf)), (Int8.toInt32 (Int32.toInt8 xf)), (Int8.toInt32 (Int32.toInt8 xf))]) :: (xee, OA Z .int [xcp, e1, e2, e3]) :: []) := H36.front 1 rfl
      refine o_callS X32 at_310 (rest := []) (c_atO l Z a0 hw [] n0 _ X32.size xbb (2 : Int32) (1 : Int32) (1 : Int32) xee xf [(Int8.toInt32 (Int32.toInt8 xf)), (Int8.toInt32 (Int32.toInt8 xcp)), (Int8.toInt32 (Int32.toInt8 xf)), (Int8.toInt32 (Int32.toInt8 xf)), (Int8.toInt32 (Int32.toInt8 xf)), (Int8.toInt32 (Int32.toInt8 xf)), (Int8.toInt32 (Int32.toInt8 xf)), (Int8.toInt32 (Int32.toInt8 xf))] [xcp, e1, e2, e3] [] H37 2 rfl (Int8.toInt32 (Int32.toInt8 xf)) rfl (by decide) (v_fill _)) (hw _ (List.mem_of_getElem? (i := 9) rfl)) (hw _ (List.mem_of_getElem? (i := 10) rfl)) (hw _ (List.mem_of_getElem? (i := 11) rfl)) (hw _ (List.mem_of_getElem? (i := 12) rfl)) (by decide) 0 (by decide) (by decide) rfl [(.ref xbb), (.int (2 : Int32)), (.int (1 : Int32)), (.int (1 : Int32)), (.ref xee), (.int xf)] rfl pd_2 rfl rfl (Nat.le_of_eq rfl) 2 12 rfl rfl (by decide) (by decide) 313 rfl ?_
      rintro _ T35 _ X35 ⟨rfl, rfl⟩
      show OE p e room_1 below s n0 Q' T35 (mkF m 313 #[.val (.int xc), .val (.int xi), .val (.int xf), .val (.int xcp), .val (.int (1 : Int32)), .val (.int (Int8.toInt32 (Int32.toInt8 xf))), .val (.ref xbb), .val (.ref xee), .val (.int (1 : Int32)), .val (.int (2 : Int32))] [(.int (1 : Int32))])
      refine o_ifEq X35 at_313 402 316 (by decide) (by decide) rfl (fun q => by exfalso; exact absurd q (by decide)) ?_
      intro hc313
      refine o_aload X35 at_316 rfl rfl 318 rfl ?_
      refine o_iconst (v := (3 : Int32)) X35 at_318 rfl 319 rfl ?_
      refine o_iload X35 at_319 rfl 321 rfl ?_
      refine o_iload X35 at_321 rfl 323 rfl ?_
      refine o_aload X35 at_323 rfl rfl 325 rfl ?_
      refine o_iloadN X35 at_325 rfl 326 rfl ?_
      have H39 : OL n0 h27 ((xee, OA Z .int [xcp, e1, e2, e3]) :: (xbb, OA Z .byte [(Int8.toInt32 (Int32.toInt8 xf)), (Int8.toInt32 (Int32.toInt8 xcp)), (Int8.toInt32 (Int32.toInt8 xf)), (Int8.toInt32 (Int32.toInt8 xf)), (Int8.toInt32 (Int32.toInt8 xf)), (Int8.toInt32 (Int32.toInt8 xf)), (Int8.toInt32 (Int32.toInt8 xf)), (Int8.toInt32 (Int32.toInt8 xf))]) :: []) := H37.front 1 rfl
      have H40 : OL n0 h27 ((xbb, OA Z .byte [(Int8.toInt32 (Int32.toInt8 xf)), (Int8.toInt32 (Int32.toInt8 xcp)), (Int8.toInt32 (Int32.toInt8 xf)), (Int8.toInt32 (Int32.toInt8 xf)), (Int8.toInt32 (Int32.toInt8 xf)), (Int8.toInt32 (Int32.toInt8 xf)), (Int8.toInt32 (Int32.toInt8 xf)), (Int8.toInt32 (Int32.toInt8 xf))]) :: (xee, OA Z .int [xcp, e1, e2, e3]) :: []) := H39.front 1 rfl
      refine o_callS X35 at_326 (rest := []) (c_atO l Z a0 hw [] n0 _ X35.size xbb (3 : Int32) (1 : Int32) (1 : Int32) xee xf [(Int8.toInt32 (Int32.toInt8 xf)), (Int8.toInt32 (Int32.toInt8 xcp)), (Int8.toInt32 (Int32.toInt8 xf)), (Int8.toInt32 (Int32.toInt8 xf)), (Int8.toInt32 (Int32.toInt8 xf)), (Int8.toInt32 (Int32.toInt8 xf)), (Int8.toInt32 (Int32.toInt8 xf)), (Int8.toInt32 (Int32.toInt8 xf))] [xcp, e1, e2, e3] [] H40 3 rfl (Int8.toInt32 (Int32.toInt8 xf)) rfl (by decide) (v_fill _)) (hw _ (List.mem_of_getElem? (i := 9) rfl)) (hw _ (List.mem_of_getElem? (i := 10) rfl)) (hw _ (List.mem_of_getElem? (i := 11) rfl)) (hw _ (List.mem_of_getElem? (i := 12) rfl)) (by decide) 0 (by decide) (by decide) rfl [(.ref xbb), (.int (3 : Int32)), (.int (1 : Int32)), (.int (1 : Int32)), (.ref xee), (.int xf)] rfl pd_2 rfl rfl (Nat.le_of_eq rfl) 2 12 rfl rfl (by decide) (by decide) 329 rfl ?_
      rintro _ T38 _ X38 ⟨rfl, rfl⟩
      show OE p e room_1 below s n0 Q' T38 (mkF m 329 #[.val (.int xc), .val (.int xi), .val (.int xf), .val (.int xcp), .val (.int (1 : Int32)), .val (.int (Int8.toInt32 (Int32.toInt8 xf))), .val (.ref xbb), .val (.ref xee), .val (.int (1 : Int32)), .val (.int (2 : Int32))] [(.int (1 : Int32))])
      refine o_ifEq X38 at_329 402 332 (by decide) (by decide) rfl (fun q => by exfalso; exact absurd q (by decide)) ?_
      intro hc329
      refine o_aload X38 at_332 rfl rfl 334 rfl ?_
      refine o_iconst (v := (4 : Int32)) X38 at_334 rfl 335 rfl ?_
      refine o_iload X38 at_335 rfl 337 rfl ?_
      refine o_iload X38 at_337 rfl 339 rfl ?_
      refine o_aload X38 at_339 rfl rfl 341 rfl ?_
      refine o_iloadN X38 at_341 rfl 342 rfl ?_
      have H42 : OL n0 h27 ((xee, OA Z .int [xcp, e1, e2, e3]) :: (xbb, OA Z .byte [(Int8.toInt32 (Int32.toInt8 xf)), (Int8.toInt32 (Int32.toInt8 xcp)), (Int8.toInt32 (Int32.toInt8 xf)), (Int8.toInt32 (Int32.toInt8 xf)), (Int8.toInt32 (Int32.toInt8 xf)), (Int8.toInt32 (Int32.toInt8 xf)), (Int8.toInt32 (Int32.toInt8 xf)), (Int8.toInt32 (Int32.toInt8 xf))]) :: []) := H40.front 1 rfl
      have H43 : OL n0 h27 ((xbb, OA Z .byte [(Int8.toInt32 (Int32.toInt8 xf)), (Int8.toInt32 (Int32.toInt8 xcp)), (Int8.toInt32 (Int32.toInt8 xf)), (Int8.toInt32 (Int32.toInt8 xf)), (Int8.toInt32 (Int32.toInt8 xf)), (Int8.toInt32 (Int32.toInt8 xf)), (Int8.toInt32 (Int32.toInt8 xf)), (Int8.toInt32 (Int32.toInt8 xf))]) :: (xee, OA Z .int [xcp, e1, e2, e3]) :: []) := H42.front 1 rfl
      refine o_callS X38 at_342 (rest := []) (c_atO l Z a0 hw [] n0 _ X38.size xbb (4 : Int32) (1 : Int32) (1 : Int32) xee xf [(Int8.toInt32 (Int32.toInt8 xf)), (Int8.toInt32 (Int32.toInt8 xcp)), (Int8.toInt32 (Int32.toInt8 xf)), (Int8.toInt32 (Int32.toInt8 xf)), (Int8.toInt32 (Int32.toInt8 xf)), (Int8.toInt32 (Int32.toInt8 xf)), (Int8.toInt32 (Int32.toInt8 xf)), (Int8.toInt32 (Int32.toInt8 xf))] [xcp, e1, e2, e3] [] H43 4 rfl (Int8.toInt32 (Int32.toInt8 xf)) rfl (by decide) (v_fill _)) (hw _ (List.mem_of_getElem? (i := 9) rfl)) (hw _ (List.mem_of_getElem? (i := 10) rfl)) (hw _ (List.mem_of_getElem? (i := 11) rfl)) (hw _ (List.mem_of_getElem? (i := 12) rfl)) (by decide) 0 (by decide) (by decide) rfl [(.ref xbb), (.int (4 : Int32)), (.int (1 : Int32)), (.int (1 : Int32)), (.ref xee), (.int xf)] rfl pd_2 rfl rfl (Nat.le_of_eq rfl) 2 12 rfl rfl (by decide) (by decide) 345 rfl ?_
      rintro _ T41 _ X41 ⟨rfl, rfl⟩
      show OE p e room_1 below s n0 Q' T41 (mkF m 345 #[.val (.int xc), .val (.int xi), .val (.int xf), .val (.int xcp), .val (.int (1 : Int32)), .val (.int (Int8.toInt32 (Int32.toInt8 xf))), .val (.ref xbb), .val (.ref xee), .val (.int (1 : Int32)), .val (.int (2 : Int32))] [(.int (1 : Int32))])
      refine o_ifEq X41 at_345 402 348 (by decide) (by decide) rfl (fun q => by exfalso; exact absurd q (by decide)) ?_
      intro hc345
      refine o_aload X41 at_348 rfl rfl 350 rfl ?_
      refine o_iconst (v := (5 : Int32)) X41 at_350 rfl 351 rfl ?_
      refine o_iload X41 at_351 rfl 353 rfl ?_
      refine o_iload X41 at_353 rfl 355 rfl ?_
      refine o_aload X41 at_355 rfl rfl 357 rfl ?_
      refine o_iloadN X41 at_357 rfl 358 rfl ?_
      have H45 : OL n0 h27 ((xee, OA Z .int [xcp, e1, e2, e3]) :: (xbb, OA Z .byte [(Int8.toInt32 (Int32.toInt8 xf)), (Int8.toInt32 (Int32.toInt8 xcp)), (Int8.toInt32 (Int32.toInt8 xf)), (Int8.toInt32 (Int32.toInt8 xf)), (Int8.toInt32 (Int32.toInt8 xf)), (Int8.toInt32 (Int32.toInt8 xf)), (Int8.toInt32 (Int32.toInt8 xf)), (Int8.toInt32 (Int32.toInt8 xf))]) :: []) := H43.front 1 rfl
      have H46 : OL n0 h27 ((xbb, OA Z .byte [(Int8.toInt32 (Int32.toInt8 xf)), (Int8.toInt32 (Int32.toInt8 xcp)), (Int8.toInt32 (Int32.toInt8 xf)), (Int8.toInt32 (Int32.toInt8 xf)), (Int8.toInt32 (Int32.toInt8 xf)), (Int8.toInt32 (Int32.toInt8 xf)), (Int8.toInt32 (Int32.toInt8 xf)), (Int8.toInt32 (Int32.toInt8 xf))]) :: (xee, OA Z .int [xcp, e1, e2, e3]) :: []) := H45.front 1 rfl
      refine o_callS X41 at_358 (rest := []) (c_atO l Z a0 hw [] n0 _ X41.size xbb (5 : Int32) (1 : Int32) (1 : Int32) xee xf [(Int8.toInt32 (Int32.toInt8 xf)), (Int8.toInt32 (Int32.toInt8 xcp)), (Int8.toInt32 (Int32.toInt8 xf)), (Int8.toInt32 (Int32.toInt8 xf)), (Int8.toInt32 (Int32.toInt8 xf)), (Int8.toInt32 (Int32.toInt8 xf)), (Int8.toInt32 (Int32.toInt8 xf)), (Int8.toInt32 (Int32.toInt8 xf))] [xcp, e1, e2, e3] [] H46 5 rfl (Int8.toInt32 (Int32.toInt8 xf)) rfl (by decide) (v_fill _)) (hw _ (List.mem_of_getElem? (i := 9) rfl)) (hw _ (List.mem_of_getElem? (i := 10) rfl)) (hw _ (List.mem_of_getElem? (i := 11) rfl)) (hw _ (List.mem_of_getElem? (i := 12) rfl)) (by decide) 0 (by decide) (by decide) rfl [(.ref xbb), (.int (5 : Int32)), (.int (1 : Int32)), (.int (1 : Int32)), (.ref xee), (.int xf)] rfl pd_2 rfl rfl (Nat.le_of_eq rfl) 2 12 rfl rfl (by decide) (by decide) 361 rfl ?_
      rintro _ T44 _ X44 ⟨rfl, rfl⟩
      show OE p e room_1 below s n0 Q' T44 (mkF m 361 #[.val (.int xc), .val (.int xi), .val (.int xf), .val (.int xcp), .val (.int (1 : Int32)), .val (.int (Int8.toInt32 (Int32.toInt8 xf))), .val (.ref xbb), .val (.ref xee), .val (.int (1 : Int32)), .val (.int (2 : Int32))] [(.int (1 : Int32))])
      refine o_ifEq X44 at_361 402 364 (by decide) (by decide) rfl (fun q => by exfalso; exact absurd q (by decide)) ?_
      intro hc361
      refine o_aload X44 at_364 rfl rfl 366 rfl ?_
      refine o_bipush (v := (6 : Int32)) X44 at_366 rfl 368 rfl ?_
      refine o_iload X44 at_368 rfl 370 rfl ?_
      refine o_iload X44 at_370 rfl 372 rfl ?_
      refine o_aload X44 at_372 rfl rfl 374 rfl ?_
      refine o_iloadN X44 at_374 rfl 375 rfl ?_
      have H48 : OL n0 h27 ((xee, OA Z .int [xcp, e1, e2, e3]) :: (xbb, OA Z .byte [(Int8.toInt32 (Int32.toInt8 xf)), (Int8.toInt32 (Int32.toInt8 xcp)), (Int8.toInt32 (Int32.toInt8 xf)), (Int8.toInt32 (Int32.toInt8 xf)), (Int8.toInt32 (Int32.toInt8 xf)), (Int8.toInt32 (Int32.toInt8 xf)), (Int8.toInt32 (Int32.toInt8 xf)), (Int8.toInt32 (Int32.toInt8 xf))]) :: []) := H46.front 1 rfl
      have H49 : OL n0 h27 ((xbb, OA Z .byte [(Int8.toInt32 (Int32.toInt8 xf)), (Int8.toInt32 (Int32.toInt8 xcp)), (Int8.toInt32 (Int32.toInt8 xf)), (Int8.toInt32 (Int32.toInt8 xf)), (Int8.toInt32 (Int32.toInt8 xf)), (Int8.toInt32 (Int32.toInt8 xf)), (Int8.toInt32 (Int32.toInt8 xf)), (Int8.toInt32 (Int32.toInt8 xf))]) :: (xee, OA Z .int [xcp, e1, e2, e3]) :: []) := H48.front 1 rfl
      refine o_callS X44 at_375 (rest := []) (c_atO l Z a0 hw [] n0 _ X44.size xbb (6 : Int32) (1 : Int32) (1 : Int32) xee xf [(Int8.toInt32 (Int32.toInt8 xf)), (Int8.toInt32 (Int32.toInt8 xcp)), (Int8.toInt32 (Int32.toInt8 xf)), (Int8.toInt32 (Int32.toInt8 xf)), (Int8.toInt32 (Int32.toInt8 xf)), (Int8.toInt32 (Int32.toInt8 xf)), (Int8.toInt32 (Int32.toInt8 xf)), (Int8.toInt32 (Int32.toInt8 xf))] [xcp, e1, e2, e3] [] H49 6 rfl (Int8.toInt32 (Int32.toInt8 xf)) rfl (by decide) (v_fill _)) (hw _ (List.mem_of_getElem? (i := 9) rfl)) (hw _ (List.mem_of_getElem? (i := 10) rfl)) (hw _ (List.mem_of_getElem? (i := 11) rfl)) (hw _ (List.mem_of_getElem? (i := 12) rfl)) (by decide) 0 (by decide) (by decide) rfl [(.ref xbb), (.int (6 : Int32)), (.int (1 : Int32)), (.int (1 : Int32)), (.ref xee), (.int xf)] rfl pd_2 rfl rfl (Nat.le_of_eq rfl) 2 12 rfl rfl (by decide) (by decide) 378 rfl ?_
      rintro _ T47 _ X47 ⟨rfl, rfl⟩
      show OE p e room_1 below s n0 Q' T47 (mkF m 378 #[.val (.int xc), .val (.int xi), .val (.int xf), .val (.int xcp), .val (.int (1 : Int32)), .val (.int (Int8.toInt32 (Int32.toInt8 xf))), .val (.ref xbb), .val (.ref xee), .val (.int (1 : Int32)), .val (.int (2 : Int32))] [(.int (1 : Int32))])
      refine o_ifEq X47 at_378 402 381 (by decide) (by decide) rfl (fun q => by exfalso; exact absurd q (by decide)) ?_
      intro hc378
      refine o_aload X47 at_381 rfl rfl 383 rfl ?_
      refine o_bipush (v := (7 : Int32)) X47 at_383 rfl 385 rfl ?_
      refine o_iload X47 at_385 rfl 387 rfl ?_
      refine o_iload X47 at_387 rfl 389 rfl ?_
      refine o_aload X47 at_389 rfl rfl 391 rfl ?_
      refine o_iloadN X47 at_391 rfl 392 rfl ?_
      have H51 : OL n0 h27 ((xee, OA Z .int [xcp, e1, e2, e3]) :: (xbb, OA Z .byte [(Int8.toInt32 (Int32.toInt8 xf)), (Int8.toInt32 (Int32.toInt8 xcp)), (Int8.toInt32 (Int32.toInt8 xf)), (Int8.toInt32 (Int32.toInt8 xf)), (Int8.toInt32 (Int32.toInt8 xf)), (Int8.toInt32 (Int32.toInt8 xf)), (Int8.toInt32 (Int32.toInt8 xf)), (Int8.toInt32 (Int32.toInt8 xf))]) :: []) := H49.front 1 rfl
      have H52 : OL n0 h27 ((xbb, OA Z .byte [(Int8.toInt32 (Int32.toInt8 xf)), (Int8.toInt32 (Int32.toInt8 xcp)), (Int8.toInt32 (Int32.toInt8 xf)), (Int8.toInt32 (Int32.toInt8 xf)), (Int8.toInt32 (Int32.toInt8 xf)), (Int8.toInt32 (Int32.toInt8 xf)), (Int8.toInt32 (Int32.toInt8 xf)), (Int8.toInt32 (Int32.toInt8 xf))]) :: (xee, OA Z .int [xcp, e1, e2, e3]) :: []) := H51.front 1 rfl
      refine o_callS X47 at_392 (rest := []) (c_atO l Z a0 hw [] n0 _ X47.size xbb (7 : Int32) (1 : Int32) (1 : Int32) xee xf [(Int8.toInt32 (Int32.toInt8 xf)), (Int8.toInt32 (Int32.toInt8 xcp)), (Int8.toInt32 (Int32.toInt8 xf)), (Int8.toInt32 (Int32.toInt8 xf)), (Int8.toInt32 (Int32.toInt8 xf)), (Int8.toInt32 (Int32.toInt8 xf)), (Int8.toInt32 (Int32.toInt8 xf)), (Int8.toInt32 (Int32.toInt8 xf))] [xcp, e1, e2, e3] [] H52 7 rfl (Int8.toInt32 (Int32.toInt8 xf)) rfl (by decide) (v_fill _)) (hw _ (List.mem_of_getElem? (i := 9) rfl)) (hw _ (List.mem_of_getElem? (i := 10) rfl)) (hw _ (List.mem_of_getElem? (i := 11) rfl)) (hw _ (List.mem_of_getElem? (i := 12) rfl)) (by decide) 0 (by decide) (by decide) rfl [(.ref xbb), (.int (7 : Int32)), (.int (1 : Int32)), (.int (1 : Int32)), (.ref xee), (.int xf)] rfl pd_2 rfl rfl (Nat.le_of_eq rfl) 2 12 rfl rfl (by decide) (by decide) 395 rfl ?_
      rintro _ T50 _ X50 ⟨rfl, rfl⟩
      show OE p e room_1 below s n0 Q' T50 (mkF m 395 #[.val (.int xc), .val (.int xi), .val (.int xf), .val (.int xcp), .val (.int (1 : Int32)), .val (.int (Int8.toInt32 (Int32.toInt8 xf))), .val (.ref xbb), .val (.ref xee), .val (.int (1 : Int32)), .val (.int (2 : Int32))] [(.int (1 : Int32))])
      refine o_ifEq X50 at_395 402 398 (by decide) (by decide) rfl (fun q => by exfalso; exact absurd q (by decide)) ?_
      intro hc395
      refine o_iconst (v := (1 : Int32)) X50 at_398 rfl 399 rfl ?_
      refine o_goto X50 at_399 403 (by decide) (by decide) ?_
      exact o_retZ X50 at_403 (by decide) (by decide) (hQ _ _ rfl)
    · skip
      refine o_iloadN X_J248 at_248 rfl 249 rfl ?_
      refine o_aload X_J248 at_249 rfl rfl 251 rfl ?_
      refine o_iload X_J248 at_251 rfl 253 rfl ?_
      have H54 : OL n0 h ((xbb, OA Z .byte [(Int8.toInt32 (Int32.toInt8 xf)), (Int8.toInt32 (Int32.toInt8 xf)), (Int8.toInt32 (Int32.toInt8 xf)), (Int8.toInt32 (Int32.toInt8 xf)), (Int8.toInt32 (Int32.toInt8 xf)), (Int8.toInt32 (Int32.toInt8 xf)), (Int8.toInt32 (Int32.toInt8 xf)), (Int8.toInt32 (Int32.toInt8 xf))]) :: (xee, OA Z .int [xcp, e1, e2, e3]) :: []) := H_J248.front 1 rfl
      refine o_callS X_J248 at_253 (rest := []) (c_enc1 l Z a0 hw [] n0 _ X_J248.size xcp xbb (2 : Int32) [(Int8.toInt32 (Int32.toInt8 xf)), (Int8.toInt32 (Int32.toInt8 xf)), (Int8.toInt32 (Int32.toInt8 xf)), (Int8.toInt32 (Int32.toInt8 xf)), (Int8.toInt32 (Int32.toInt8 xf)), (Int8.toInt32 (Int32.toInt8 xf)), (Int8.toInt32 (Int32.toInt8 xf)), (Int8.toInt32 (Int32.toInt8 xf))] ((xee, OA Z .int [xcp, e1, e2, e3]) :: []) H54 2 rfl (by show 3 ≤ 8; decide) (by decide) hlo hhi) (hw _ (List.mem_of_getElem? (i := 5) rfl)) (hw _ (List.mem_of_getElem? (i := 6) rfl)) (hw _ (List.mem_of_getElem? (i := 7) rfl)) (hw _ (List.mem_of_getElem? (i := 8) rfl)) (by decide) 0 (by decide) (by decide) rfl [(.int xcp), (.ref xbb), (.int (2 : Int32))] rfl pd_1 rfl rfl (Nat.le_of_eq rfl) 2 12 rfl rfl (by decide) (by decide) 256 rfl ?_
      rintro _ T53 h53 X53 ⟨rfl, H53⟩
      replace H53 : OL n0 h53 ((xbb, OA Z .byte [(Int8.toInt32 (Int32.toInt8 xf)), (Int8.toInt32 (Int32.toInt8 xf)), (Int8.toInt32 (Int32.toInt8 xcp)), (Int8.toInt32 (Int32.toInt8 xf)), (Int8.toInt32 (Int32.toInt8 xf)), (Int8.toInt32 (Int32.toInt8 xf)), (Int8.toInt32 (Int32.toInt8 xf)), (Int8.toInt32 (Int32.toInt8 xf))]) :: (xee, OA Z .int [xcp, e1, e2, e3]) :: []) := H53
      show OE p e room_1 below s n0 Q' T53 (mkF m 256 #[.val (.int xc), .val (.int xi), .val (.int xf), .val (.int xcp), .val (.int (2 : Int32)), .val (.int (Int8.toInt32 (Int32.toInt8 xf))), .val (.ref xbb), .val (.ref xee), .val (.int (1 : Int32)), .unset] [(.int ((2 : Int32) + (1 : Int32)))])
      refine o_istore X53 at_256 #[.val (.int xc), .val (.int xi), .val (.int xf), .val (.int xcp), .val (.int (2 : Int32)), .val (.int (Int8.toInt32 (Int32.toInt8 xf))), .val (.ref xbb), .val (.ref xee), .val (.int (1 : Int32)), .val (.int ((2 : Int32) + (1 : Int32)))] rfl 258 rfl ?_
      rw [show ((2 : Int32) + (1 : Int32)) = (3 : Int32) from rfl]
      refine o_iload X53 at_258 rfl 260 rfl ?_
      refine o_iload X53 at_260 rfl 262 rfl ?_
      refine o_iload X53 at_262 rfl 264 rfl ?_
      refine o_iadd X53 at_264 265 rfl ?_
      refine o_icmpNe X53 at_265 402 268 (by decide) (by decide) rfl (fun q => by exfalso; exact q rfl) ?_
      intro hc265
      refine o_aload X53 at_268 rfl rfl 270 rfl ?_
      refine o_iconst (v := (0 : Int32)) X53 at_270 rfl 271 rfl ?_
      refine o_iload X53 at_271 rfl 273 rfl ?_
      refine o_iload X53 at_273 rfl 275 rfl ?_
      refine o_aload X53 at_275 rfl rfl 277 rfl ?_
      refine o_iloadN X53 at_277 rfl 278 rfl ?_
      have H56 : OL n0 h53 ((xee, OA Z .int [xcp, e1, e2, e3]) :: (xbb, OA Z .byte [(Int8.toInt32 (Int32.toInt8 xf)), (Int8.toInt32 (Int32.toInt8 xf)), (Int8.toInt32 (Int32.toInt8 xcp)), (Int8.toInt32 (Int32.toInt8 xf)), (Int8.toInt32 (Int32.toInt8 xf)), (Int8.toInt32 (Int32.toInt8 xf)), (Int8.toInt32 (Int32.toInt8 xf)), (Int8.toInt32 (Int32.toInt8 xf))]) :: []) := H53.front 1 rfl
      have H57 : OL n0 h53 ((xbb, OA Z .byte [(Int8.toInt32 (Int32.toInt8 xf)), (Int8.toInt32 (Int32.toInt8 xf)), (Int8.toInt32 (Int32.toInt8 xcp)), (Int8.toInt32 (Int32.toInt8 xf)), (Int8.toInt32 (Int32.toInt8 xf)), (Int8.toInt32 (Int32.toInt8 xf)), (Int8.toInt32 (Int32.toInt8 xf)), (Int8.toInt32 (Int32.toInt8 xf))]) :: (xee, OA Z .int [xcp, e1, e2, e3]) :: []) := H56.front 1 rfl
      refine o_callS X53 at_278 (rest := []) (c_atO l Z a0 hw [] n0 _ X53.size xbb (0 : Int32) (2 : Int32) (1 : Int32) xee xf [(Int8.toInt32 (Int32.toInt8 xf)), (Int8.toInt32 (Int32.toInt8 xf)), (Int8.toInt32 (Int32.toInt8 xcp)), (Int8.toInt32 (Int32.toInt8 xf)), (Int8.toInt32 (Int32.toInt8 xf)), (Int8.toInt32 (Int32.toInt8 xf)), (Int8.toInt32 (Int32.toInt8 xf)), (Int8.toInt32 (Int32.toInt8 xf))] [xcp, e1, e2, e3] [] H57 0 rfl (Int8.toInt32 (Int32.toInt8 xf)) rfl (by decide) (v_fill _)) (hw _ (List.mem_of_getElem? (i := 9) rfl)) (hw _ (List.mem_of_getElem? (i := 10) rfl)) (hw _ (List.mem_of_getElem? (i := 11) rfl)) (hw _ (List.mem_of_getElem? (i := 12) rfl)) (by decide) 0 (by decide) (by decide) rfl [(.ref xbb), (.int (0 : Int32)), (.int (2 : Int32)), (.int (1 : Int32)), (.ref xee), (.int xf)] rfl pd_2 rfl rfl (Nat.le_of_eq rfl) 2 12 rfl rfl (by decide) (by decide) 281 rfl ?_
      rintro _ T55 _ X55 ⟨rfl, rfl⟩
      show OE p e room_1 below s n0 Q' T55 (mkF m 281 #[.val (.int xc), .val (.int xi), .val (.int xf), .val (.int xcp), .val (.int (2 : Int32)), .val (.int (Int8.toInt32 (Int32.toInt8 xf))), .val (.ref xbb), .val (.ref xee), .val (.int (1 : Int32)), .val (.int (3 : Int32))] [(.int (1 : Int32))])
      refine o_ifEq X55 at_281 402 284 (by decide) (by decide) rfl (fun q => by exfalso; exact absurd q (by decide)) ?_
      intro hc281
      refine o_aload X55 at_284 rfl rfl 286 rfl ?_
      refine o_iconst (v := (1 : Int32)) X55 at_286 rfl 287 rfl ?_
      refine o_iload X55 at_287 rfl 289 rfl ?_
      refine o_iload X55 at_289 rfl 291 rfl ?_
      refine o_aload X55 at_291 rfl rfl 293 rfl ?_
      refine o_iloadN X55 at_293 rfl 294 rfl ?_
      have H59 : OL n0 h53 ((xee, OA Z .int [xcp, e1, e2, e3]) :: (xbb, OA Z .byte [(Int8.toInt32 (Int32.toInt8 xf)), (Int8.toInt32 (Int32.toInt8 xf)), (Int8.toInt32 (Int32.toInt8 xcp)), (Int8.toInt32 (Int32.toInt8 xf)), (Int8.toInt32 (Int32.toInt8 xf)), (Int8.toInt32 (Int32.toInt8 xf)), (Int8.toInt32 (Int32.toInt8 xf)), (Int8.toInt32 (Int32.toInt8 xf))]) :: []) := H57.front 1 rfl
      have H60 : OL n0 h53 ((xbb, OA Z .byte [(Int8.toInt32 (Int32.toInt8 xf)), (Int8.toInt32 (Int32.toInt8 xf)), (Int8.toInt32 (Int32.toInt8 xcp)), (Int8.toInt32 (Int32.toInt8 xf)), (Int8.toInt32 (Int32.toInt8 xf)), (Int8.toInt32 (Int32.toInt8 xf)), (Int8.toInt32 (Int32.toInt8 xf)), (Int8.toInt32 (Int32.toInt8 xf))]) :: (xee, OA Z .int [xcp, e1, e2, e3]) :: []) := H59.front 1 rfl
      refine o_callS X55 at_294 (rest := []) (c_atO l Z a0 hw [] n0 _ X55.size xbb (1 : Int32) (2 : Int32) (1 : Int32) xee xf [(Int8.toInt32 (Int32.toInt8 xf)), (Int8.toInt32 (Int32.toInt8 xf)), (Int8.toInt32 (Int32.toInt8 xcp)), (Int8.toInt32 (Int32.toInt8 xf)), (Int8.toInt32 (Int32.toInt8 xf)), (Int8.toInt32 (Int32.toInt8 xf)), (Int8.toInt32 (Int32.toInt8 xf)), (Int8.toInt32 (Int32.toInt8 xf))] [xcp, e1, e2, e3] [] H60 1 rfl (Int8.toInt32 (Int32.toInt8 xf)) rfl (by decide) (v_fill _)) (hw _ (List.mem_of_getElem? (i := 9) rfl)) (hw _ (List.mem_of_getElem? (i := 10) rfl)) (hw _ (List.mem_of_getElem? (i := 11) rfl)) (hw _ (List.mem_of_getElem? (i := 12) rfl)) (by decide) 0 (by decide) (by decide) rfl [(.ref xbb), (.int (1 : Int32)), (.int (2 : Int32)), (.int (1 : Int32)), (.ref xee), (.int xf)] rfl pd_2 rfl rfl (Nat.le_of_eq rfl) 2 12 rfl rfl (by decide) (by decide) 297 rfl ?_
      rintro _ T58 _ X58 ⟨rfl, rfl⟩
      show OE p e room_1 below s n0 Q' T58 (mkF m 297 #[.val (.int xc), .val (.int xi), .val (.int xf), .val (.int xcp), .val (.int (2 : Int32)), .val (.int (Int8.toInt32 (Int32.toInt8 xf))), .val (.ref xbb), .val (.ref xee), .val (.int (1 : Int32)), .val (.int (3 : Int32))] [(.int (1 : Int32))])
      refine o_ifEq X58 at_297 402 300 (by decide) (by decide) rfl (fun q => by exfalso; exact absurd q (by decide)) ?_
      intro hc297
      refine o_aload X58 at_300 rfl rfl 302 rfl ?_
      refine o_iconst (v := (2 : Int32)) X58 at_302 rfl 303 rfl ?_
      refine o_iload X58 at_303 rfl 305 rfl ?_
      refine o_iload X58 at_305 rfl 307 rfl ?_
      refine o_aload X58 at_307 rfl rfl 309 rfl ?_
      refine o_iloadN X58 at_309 rfl 310 rfl ?_
      have H62 : OL n0 h53 ((xee, OA Z .int [xcp, e1, e2, e3]) :: (xbb, OA Z .byte [(Int8.toInt32 (Int32.toInt8 xf)), (Int8.toInt32 (Int32.toInt8 xf)), (Int8.toInt32 (Int32.toInt8 xcp)), (Int8.toInt32 (Int32.toInt8 xf)), (Int8.toInt32 (Int32.toInt8 xf)), (Int8.toInt32 (Int32.toInt8 xf)), (Int8.toInt32 (Int32.toInt8 xf)), (Int8.toInt32 (Int32.toInt8 xf))]) :: []) := H60.front 1 rfl
      have H63 : OL n0 h53 ((xbb, OA Z .byte [(Int8.toInt32 (Int32.toInt8 xf)), (Int8.toInt32 (Int32.toInt8 xf)), (Int8.toInt32 (Int32.toInt8 xcp)), (Int8.toInt32 (Int32.toInt8 xf)), (Int8.toInt32 (Int32.toInt8 xf)), (Int8.toInt32 (Int32.toInt8 xf)), (Int8.toInt32 (Int32.toInt8 xf)), (Int8.toInt32 (Int32.toInt8 xf))]) :: (xee, OA Z .int [xcp, e1, e2, e3]) :: []) := H62.front 1 rfl
      refine o_callS X58 at_310 (rest := []) (c_atI l Z a0 hw [] n0 _ X58.size xbb (2 : Int32) (2 : Int32) (1 : Int32) xee xf [(Int8.toInt32 (Int32.toInt8 xf)), (Int8.toInt32 (Int32.toInt8 xf)), (Int8.toInt32 (Int32.toInt8 xcp)), (Int8.toInt32 (Int32.toInt8 xf)), (Int8.toInt32 (Int32.toInt8 xf)), (Int8.toInt32 (Int32.toInt8 xf)), (Int8.toInt32 (Int32.toInt8 xf)), (Int8.toInt32 (Int32.toInt8 xf))] [xcp, e1, e2, e3] [] H63 2 rfl (Int8.toInt32 (Int32.toInt8 xcp)) rfl 0 rfl xcp rfl (by decide) (by decide) (v_e10 xcp hlo hhi)) (hw _ (List.mem_of_getElem? (i := 9) rfl)) (hw _ (List.mem_of_getElem? (i := 10) rfl)) (hw _ (List.mem_of_getElem? (i := 11) rfl)) (hw _ (List.mem_of_getElem? (i := 12) rfl)) (by decide) 0 (by decide) (by decide) rfl [(.ref xbb), (.int (2 : Int32)), (.int (2 : Int32)), (.int (1 : Int32)), (.ref xee), (.int xf)] rfl pd_2 rfl rfl (Nat.le_of_eq rfl) 2 12 rfl rfl (by decide) (by decide) 313 rfl ?_
      rintro _ T61 _ X61 ⟨rfl, rfl⟩
      show OE p e room_1 below s n0 Q' T61 (mkF m 313 #[.val (.int xc), .val (.int xi), .val (.int xf), .val (.int xcp), .val (.int (2 : Int32)), .val (.int (Int8.toInt32 (Int32.toInt8 xf))), .val (.ref xbb), .val (.ref xee), .val (.int (1 : Int32)), .val (.int (3 : Int32))] [(.int (1 : Int32))])
      refine o_ifEq X61 at_313 402 316 (by decide) (by decide) rfl (fun q => by exfalso; exact absurd q (by decide)) ?_
      intro hc313
      refine o_aload X61 at_316 rfl rfl 318 rfl ?_
      refine o_iconst (v := (3 : Int32)) X61 at_318 rfl 319 rfl ?_
      refine o_iload X61 at_319 rfl 321 rfl ?_
      refine o_iload X61 at_321 rfl 323 rfl ?_
      refine o_aload X61 at_323 rfl rfl 325 rfl ?_
      refine o_iloadN X61 at_325 rfl 326 rfl ?_
      have H65 : OL n0 h53 ((xee, OA Z .int [xcp, e1, e2, e3]) :: (xbb, OA Z .byte [(Int8.toInt32 (Int32.toInt8 xf)), (Int8.toInt32 (Int32.toInt8 xf)), (Int8.toInt32 (Int32.toInt8 xcp)), (Int8.toInt32 (Int32.toInt8 xf)), (Int8.toInt32 (Int32.toInt8 xf)), (Int8.toInt32 (Int32.toInt8 xf)), (Int8.toInt32 (Int32.toInt8 xf)), (Int8.toInt32 (Int32.toInt8 xf))]) :: []) := H63.front 1 rfl
      have H66 : OL n0 h53 ((xbb, OA Z .byte [(Int8.toInt32 (Int32.toInt8 xf)), (Int8.toInt32 (Int32.toInt8 xf)), (Int8.toInt32 (Int32.toInt8 xcp)), (Int8.toInt32 (Int32.toInt8 xf)), (Int8.toInt32 (Int32.toInt8 xf)), (Int8.toInt32 (Int32.toInt8 xf)), (Int8.toInt32 (Int32.toInt8 xf)), (Int8.toInt32 (Int32.toInt8 xf))]) :: (xee, OA Z .int [xcp, e1, e2, e3]) :: []) := H65.front 1 rfl
      refine o_callS X61 at_326 (rest := []) (c_atO l Z a0 hw [] n0 _ X61.size xbb (3 : Int32) (2 : Int32) (1 : Int32) xee xf [(Int8.toInt32 (Int32.toInt8 xf)), (Int8.toInt32 (Int32.toInt8 xf)), (Int8.toInt32 (Int32.toInt8 xcp)), (Int8.toInt32 (Int32.toInt8 xf)), (Int8.toInt32 (Int32.toInt8 xf)), (Int8.toInt32 (Int32.toInt8 xf)), (Int8.toInt32 (Int32.toInt8 xf)), (Int8.toInt32 (Int32.toInt8 xf))] [xcp, e1, e2, e3] [] H66 3 rfl (Int8.toInt32 (Int32.toInt8 xf)) rfl (by decide) (v_fill _)) (hw _ (List.mem_of_getElem? (i := 9) rfl)) (hw _ (List.mem_of_getElem? (i := 10) rfl)) (hw _ (List.mem_of_getElem? (i := 11) rfl)) (hw _ (List.mem_of_getElem? (i := 12) rfl)) (by decide) 0 (by decide) (by decide) rfl [(.ref xbb), (.int (3 : Int32)), (.int (2 : Int32)), (.int (1 : Int32)), (.ref xee), (.int xf)] rfl pd_2 rfl rfl (Nat.le_of_eq rfl) 2 12 rfl rfl (by decide) (by decide) 329 rfl ?_
      rintro _ T64 _ X64 ⟨rfl, rfl⟩
      show OE p e room_1 below s n0 Q' T64 (mkF m 329 #[.val (.int xc), .val (.int xi), .val (.int xf), .val (.int xcp), .val (.int (2 : Int32)), .val (.int (Int8.toInt32 (Int32.toInt8 xf))), .val (.ref xbb), .val (.ref xee), .val (.int (1 : Int32)), .val (.int (3 : Int32))] [(.int (1 : Int32))])
      refine o_ifEq X64 at_329 402 332 (by decide) (by decide) rfl (fun q => by exfalso; exact absurd q (by decide)) ?_
      intro hc329
      refine o_aload X64 at_332 rfl rfl 334 rfl ?_
      refine o_iconst (v := (4 : Int32)) X64 at_334 rfl 335 rfl ?_
      refine o_iload X64 at_335 rfl 337 rfl ?_
      refine o_iload X64 at_337 rfl 339 rfl ?_
      refine o_aload X64 at_339 rfl rfl 341 rfl ?_
      refine o_iloadN X64 at_341 rfl 342 rfl ?_
      have H68 : OL n0 h53 ((xee, OA Z .int [xcp, e1, e2, e3]) :: (xbb, OA Z .byte [(Int8.toInt32 (Int32.toInt8 xf)), (Int8.toInt32 (Int32.toInt8 xf)), (Int8.toInt32 (Int32.toInt8 xcp)), (Int8.toInt32 (Int32.toInt8 xf)), (Int8.toInt32 (Int32.toInt8 xf)), (Int8.toInt32 (Int32.toInt8 xf)), (Int8.toInt32 (Int32.toInt8 xf)), (Int8.toInt32 (Int32.toInt8 xf))]) :: []) := H66.front 1 rfl
      have H69 : OL n0 h53 ((xbb, OA Z .byte [(Int8.toInt32 (Int32.toInt8 xf)), (Int8.toInt32 (Int32.toInt8 xf)), (Int8.toInt32 (Int32.toInt8 xcp)), (Int8.toInt32 (Int32.toInt8 xf)), (Int8.toInt32 (Int32.toInt8 xf)), (Int8.toInt32 (Int32.toInt8 xf)), (Int8.toInt32 (Int32.toInt8 xf)), (Int8.toInt32 (Int32.toInt8 xf))]) :: (xee, OA Z .int [xcp, e1, e2, e3]) :: []) := H68.front 1 rfl
      refine o_callS X64 at_342 (rest := []) (c_atO l Z a0 hw [] n0 _ X64.size xbb (4 : Int32) (2 : Int32) (1 : Int32) xee xf [(Int8.toInt32 (Int32.toInt8 xf)), (Int8.toInt32 (Int32.toInt8 xf)), (Int8.toInt32 (Int32.toInt8 xcp)), (Int8.toInt32 (Int32.toInt8 xf)), (Int8.toInt32 (Int32.toInt8 xf)), (Int8.toInt32 (Int32.toInt8 xf)), (Int8.toInt32 (Int32.toInt8 xf)), (Int8.toInt32 (Int32.toInt8 xf))] [xcp, e1, e2, e3] [] H69 4 rfl (Int8.toInt32 (Int32.toInt8 xf)) rfl (by decide) (v_fill _)) (hw _ (List.mem_of_getElem? (i := 9) rfl)) (hw _ (List.mem_of_getElem? (i := 10) rfl)) (hw _ (List.mem_of_getElem? (i := 11) rfl)) (hw _ (List.mem_of_getElem? (i := 12) rfl)) (by decide) 0 (by decide) (by decide) rfl [(.ref xbb), (.int (4 : Int32)), (.int (2 : Int32)), (.int (1 : Int32)), (.ref xee), (.int xf)] rfl pd_2 rfl rfl (Nat.le_of_eq rfl) 2 12 rfl rfl (by decide) (by decide) 345 rfl ?_
      rintro _ T67 _ X67 ⟨rfl, rfl⟩
      show OE p e room_1 below s n0 Q' T67 (mkF m 345 #[.val (.int xc), .val (.int xi), .val (.int xf), .val (.int xcp), .val (.int (2 : Int32)), .val (.int (Int8.toInt32 (Int32.toInt8 xf))), .val (.ref xbb), .val (.ref xee), .val (.int (1 : Int32)), .val (.int (3 : Int32))] [(.int (1 : Int32))])
      refine o_ifEq X67 at_345 402 348 (by decide) (by decide) rfl (fun q => by exfalso; exact absurd q (by decide)) ?_
      intro hc345
      refine o_aload X67 at_348 rfl rfl 350 rfl ?_
      refine o_iconst (v := (5 : Int32)) X67 at_350 rfl 351 rfl ?_
      refine o_iload X67 at_351 rfl 353 rfl ?_
      refine o_iload X67 at_353 rfl 355 rfl ?_
      refine o_aload X67 at_355 rfl rfl 357 rfl ?_
      refine o_iloadN X67 at_357 rfl 358 rfl ?_
      have H71 : OL n0 h53 ((xee, OA Z .int [xcp, e1, e2, e3]) :: (xbb, OA Z .byte [(Int8.toInt32 (Int32.toInt8 xf)), (Int8.toInt32 (Int32.toInt8 xf)), (Int8.toInt32 (Int32.toInt8 xcp)), (Int8.toInt32 (Int32.toInt8 xf)), (Int8.toInt32 (Int32.toInt8 xf)), (Int8.toInt32 (Int32.toInt8 xf)), (Int8.toInt32 (Int32.toInt8 xf)), (Int8.toInt32 (Int32.toInt8 xf))]) :: []) := H69.front 1 rfl
      have H72 : OL n0 h53 ((xbb, OA Z .byte [(Int8.toInt32 (Int32.toInt8 xf)), (Int8.toInt32 (Int32.toInt8 xf)), (Int8.toInt32 (Int32.toInt8 xcp)), (Int8.toInt32 (Int32.toInt8 xf)), (Int8.toInt32 (Int32.toInt8 xf)), (Int8.toInt32 (Int32.toInt8 xf)), (Int8.toInt32 (Int32.toInt8 xf)), (Int8.toInt32 (Int32.toInt8 xf))]) :: (xee, OA Z .int [xcp, e1, e2, e3]) :: []) := H71.front 1 rfl
      refine o_callS X67 at_358 (rest := []) (c_atO l Z a0 hw [] n0 _ X67.size xbb (5 : Int32) (2 : Int32) (1 : Int32) xee xf [(Int8.toInt32 (Int32.toInt8 xf)), (Int8.toInt32 (Int32.toInt8 xf)), (Int8.toInt32 (Int32.toInt8 xcp)), (Int8.toInt32 (Int32.toInt8 xf)), (Int8.toInt32 (Int32.toInt8 xf)), (Int8.toInt32 (Int32.toInt8 xf)), (Int8.toInt32 (Int32.toInt8 xf)), (Int8.toInt32 (Int32.toInt8 xf))] [xcp, e1, e2, e3] [] H72 5 rfl (Int8.toInt32 (Int32.toInt8 xf)) rfl (by decide) (v_fill _)) (hw _ (List.mem_of_getElem? (i := 9) rfl)) (hw _ (List.mem_of_getElem? (i := 10) rfl)) (hw _ (List.mem_of_getElem? (i := 11) rfl)) (hw _ (List.mem_of_getElem? (i := 12) rfl)) (by decide) 0 (by decide) (by decide) rfl [(.ref xbb), (.int (5 : Int32)), (.int (2 : Int32)), (.int (1 : Int32)), (.ref xee), (.int xf)] rfl pd_2 rfl rfl (Nat.le_of_eq rfl) 2 12 rfl rfl (by decide) (by decide) 361 rfl ?_
      rintro _ T70 _ X70 ⟨rfl, rfl⟩
      show OE p e room_1 below s n0 Q' T70 (mkF m 361 #[.val (.int xc), .val (.int xi), .val (.int xf), .val (.int xcp), .val (.int (2 : Int32)), .val (.int (Int8.toInt32 (Int32.toInt8 xf))), .val (.ref xbb), .val (.ref xee), .val (.int (1 : Int32)), .val (.int (3 : Int32))] [(.int (1 : Int32))])
      refine o_ifEq X70 at_361 402 364 (by decide) (by decide) rfl (fun q => by exfalso; exact absurd q (by decide)) ?_
      intro hc361
      refine o_aload X70 at_364 rfl rfl 366 rfl ?_
      refine o_bipush (v := (6 : Int32)) X70 at_366 rfl 368 rfl ?_
      refine o_iload X70 at_368 rfl 370 rfl ?_
      refine o_iload X70 at_370 rfl 372 rfl ?_
      refine o_aload X70 at_372 rfl rfl 374 rfl ?_
      refine o_iloadN X70 at_374 rfl 375 rfl ?_
      have H74 : OL n0 h53 ((xee, OA Z .int [xcp, e1, e2, e3]) :: (xbb, OA Z .byte [(Int8.toInt32 (Int32.toInt8 xf)), (Int8.toInt32 (Int32.toInt8 xf)), (Int8.toInt32 (Int32.toInt8 xcp)), (Int8.toInt32 (Int32.toInt8 xf)), (Int8.toInt32 (Int32.toInt8 xf)), (Int8.toInt32 (Int32.toInt8 xf)), (Int8.toInt32 (Int32.toInt8 xf)), (Int8.toInt32 (Int32.toInt8 xf))]) :: []) := H72.front 1 rfl
      have H75 : OL n0 h53 ((xbb, OA Z .byte [(Int8.toInt32 (Int32.toInt8 xf)), (Int8.toInt32 (Int32.toInt8 xf)), (Int8.toInt32 (Int32.toInt8 xcp)), (Int8.toInt32 (Int32.toInt8 xf)), (Int8.toInt32 (Int32.toInt8 xf)), (Int8.toInt32 (Int32.toInt8 xf)), (Int8.toInt32 (Int32.toInt8 xf)), (Int8.toInt32 (Int32.toInt8 xf))]) :: (xee, OA Z .int [xcp, e1, e2, e3]) :: []) := H74.front 1 rfl
      refine o_callS X70 at_375 (rest := []) (c_atO l Z a0 hw [] n0 _ X70.size xbb (6 : Int32) (2 : Int32) (1 : Int32) xee xf [(Int8.toInt32 (Int32.toInt8 xf)), (Int8.toInt32 (Int32.toInt8 xf)), (Int8.toInt32 (Int32.toInt8 xcp)), (Int8.toInt32 (Int32.toInt8 xf)), (Int8.toInt32 (Int32.toInt8 xf)), (Int8.toInt32 (Int32.toInt8 xf)), (Int8.toInt32 (Int32.toInt8 xf)), (Int8.toInt32 (Int32.toInt8 xf))] [xcp, e1, e2, e3] [] H75 6 rfl (Int8.toInt32 (Int32.toInt8 xf)) rfl (by decide) (v_fill _)) (hw _ (List.mem_of_getElem? (i := 9) rfl)) (hw _ (List.mem_of_getElem? (i := 10) rfl)) (hw _ (List.mem_of_getElem? (i := 11) rfl)) (hw _ (List.mem_of_getElem? (i := 12) rfl)) (by decide) 0 (by decide) (by decide) rfl [(.ref xbb), (.int (6 : Int32)), (.int (2 : Int32)), (.int (1 : Int32)), (.ref xee), (.int xf)] rfl pd_2 rfl rfl (Nat.le_of_eq rfl) 2 12 rfl rfl (by decide) (by decide) 378 rfl ?_
      rintro _ T73 _ X73 ⟨rfl, rfl⟩
      show OE p e room_1 below s n0 Q' T73 (mkF m 378 #[.val (.int xc), .val (.int xi), .val (.int xf), .val (.int xcp), .val (.int (2 : Int32)), .val (.int (Int8.toInt32 (Int32.toInt8 xf))), .val (.ref xbb), .val (.ref xee), .val (.int (1 : Int32)), .val (.int (3 : Int32))] [(.int (1 : Int32))])
      refine o_ifEq X73 at_378 402 381 (by decide) (by decide) rfl (fun q => by exfalso; exact absurd q (by decide)) ?_
      intro hc378
      refine o_aload X73 at_381 rfl rfl 383 rfl ?_
      refine o_bipush (v := (7 : Int32)) X73 at_383 rfl 385 rfl ?_
      refine o_iload X73 at_385 rfl 387 rfl ?_
      refine o_iload X73 at_387 rfl 389 rfl ?_
      refine o_aload X73 at_389 rfl rfl 391 rfl ?_
      refine o_iloadN X73 at_391 rfl 392 rfl ?_
      have H77 : OL n0 h53 ((xee, OA Z .int [xcp, e1, e2, e3]) :: (xbb, OA Z .byte [(Int8.toInt32 (Int32.toInt8 xf)), (Int8.toInt32 (Int32.toInt8 xf)), (Int8.toInt32 (Int32.toInt8 xcp)), (Int8.toInt32 (Int32.toInt8 xf)), (Int8.toInt32 (Int32.toInt8 xf)), (Int8.toInt32 (Int32.toInt8 xf)), (Int8.toInt32 (Int32.toInt8 xf)), (Int8.toInt32 (Int32.toInt8 xf))]) :: []) := H75.front 1 rfl
      have H78 : OL n0 h53 ((xbb, OA Z .byte [(Int8.toInt32 (Int32.toInt8 xf)), (Int8.toInt32 (Int32.toInt8 xf)), (Int8.toInt32 (Int32.toInt8 xcp)), (Int8.toInt32 (Int32.toInt8 xf)), (Int8.toInt32 (Int32.toInt8 xf)), (Int8.toInt32 (Int32.toInt8 xf)), (Int8.toInt32 (Int32.toInt8 xf)), (Int8.toInt32 (Int32.toInt8 xf))]) :: (xee, OA Z .int [xcp, e1, e2, e3]) :: []) := H77.front 1 rfl
      refine o_callS X73 at_392 (rest := []) (c_atO l Z a0 hw [] n0 _ X73.size xbb (7 : Int32) (2 : Int32) (1 : Int32) xee xf [(Int8.toInt32 (Int32.toInt8 xf)), (Int8.toInt32 (Int32.toInt8 xf)), (Int8.toInt32 (Int32.toInt8 xcp)), (Int8.toInt32 (Int32.toInt8 xf)), (Int8.toInt32 (Int32.toInt8 xf)), (Int8.toInt32 (Int32.toInt8 xf)), (Int8.toInt32 (Int32.toInt8 xf)), (Int8.toInt32 (Int32.toInt8 xf))] [xcp, e1, e2, e3] [] H78 7 rfl (Int8.toInt32 (Int32.toInt8 xf)) rfl (by decide) (v_fill _)) (hw _ (List.mem_of_getElem? (i := 9) rfl)) (hw _ (List.mem_of_getElem? (i := 10) rfl)) (hw _ (List.mem_of_getElem? (i := 11) rfl)) (hw _ (List.mem_of_getElem? (i := 12) rfl)) (by decide) 0 (by decide) (by decide) rfl [(.ref xbb), (.int (7 : Int32)), (.int (2 : Int32)), (.int (1 : Int32)), (.ref xee), (.int xf)] rfl pd_2 rfl rfl (Nat.le_of_eq rfl) 2 12 rfl rfl (by decide) (by decide) 395 rfl ?_
      rintro _ T76 _ X76 ⟨rfl, rfl⟩
      show OE p e room_1 below s n0 Q' T76 (mkF m 395 #[.val (.int xc), .val (.int xi), .val (.int xf), .val (.int xcp), .val (.int (2 : Int32)), .val (.int (Int8.toInt32 (Int32.toInt8 xf))), .val (.ref xbb), .val (.ref xee), .val (.int (1 : Int32)), .val (.int (3 : Int32))] [(.int (1 : Int32))])
      refine o_ifEq X76 at_395 402 398 (by decide) (by decide) rfl (fun q => by exfalso; exact absurd q (by decide)) ?_
      intro hc395
      refine o_iconst (v := (1 : Int32)) X76 at_398 rfl 399 rfl ?_
      refine o_goto X76 at_399 403 (by decide) (by decide) ?_
      exact o_retZ X76 at_403 (by decide) (by decide) (hQ _ _ rfl)
    · skip
      refine o_iloadN X_J248 at_248 rfl 249 rfl ?_
      refine o_aload X_J248 at_249 rfl rfl 251 rfl ?_
      refine o_iload X_J248 at_251 rfl 253 rfl ?_
      have H80 : OL n0 h ((xbb, OA Z .byte [(Int8.toInt32 (Int32.toInt8 xf)), (Int8.toInt32 (Int32.toInt8 xf)), (Int8.toInt32 (Int32.toInt8 xf)), (Int8.toInt32 (Int32.toInt8 xf)), (Int8.toInt32 (Int32.toInt8 xf)), (Int8.toInt32 (Int32.toInt8 xf)), (Int8.toInt32 (Int32.toInt8 xf)), (Int8.toInt32 (Int32.toInt8 xf))]) :: (xee, OA Z .int [xcp, e1, e2, e3]) :: []) := H_J248.front 1 rfl
      refine o_callS X_J248 at_253 (rest := []) (c_enc1 l Z a0 hw [] n0 _ X_J248.size xcp xbb (3 : Int32) [(Int8.toInt32 (Int32.toInt8 xf)), (Int8.toInt32 (Int32.toInt8 xf)), (Int8.toInt32 (Int32.toInt8 xf)), (Int8.toInt32 (Int32.toInt8 xf)), (Int8.toInt32 (Int32.toInt8 xf)), (Int8.toInt32 (Int32.toInt8 xf)), (Int8.toInt32 (Int32.toInt8 xf)), (Int8.toInt32 (Int32.toInt8 xf))] ((xee, OA Z .int [xcp, e1, e2, e3]) :: []) H80 3 rfl (by show 4 ≤ 8; decide) (by decide) hlo hhi) (hw _ (List.mem_of_getElem? (i := 5) rfl)) (hw _ (List.mem_of_getElem? (i := 6) rfl)) (hw _ (List.mem_of_getElem? (i := 7) rfl)) (hw _ (List.mem_of_getElem? (i := 8) rfl)) (by decide) 0 (by decide) (by decide) rfl [(.int xcp), (.ref xbb), (.int (3 : Int32))] rfl pd_1 rfl rfl (Nat.le_of_eq rfl) 2 12 rfl rfl (by decide) (by decide) 256 rfl ?_
      rintro _ T79 h79 X79 ⟨rfl, H79⟩
      replace H79 : OL n0 h79 ((xbb, OA Z .byte [(Int8.toInt32 (Int32.toInt8 xf)), (Int8.toInt32 (Int32.toInt8 xf)), (Int8.toInt32 (Int32.toInt8 xf)), (Int8.toInt32 (Int32.toInt8 xcp)), (Int8.toInt32 (Int32.toInt8 xf)), (Int8.toInt32 (Int32.toInt8 xf)), (Int8.toInt32 (Int32.toInt8 xf)), (Int8.toInt32 (Int32.toInt8 xf))]) :: (xee, OA Z .int [xcp, e1, e2, e3]) :: []) := H79
      show OE p e room_1 below s n0 Q' T79 (mkF m 256 #[.val (.int xc), .val (.int xi), .val (.int xf), .val (.int xcp), .val (.int (3 : Int32)), .val (.int (Int8.toInt32 (Int32.toInt8 xf))), .val (.ref xbb), .val (.ref xee), .val (.int (1 : Int32)), .unset] [(.int ((3 : Int32) + (1 : Int32)))])
      refine o_istore X79 at_256 #[.val (.int xc), .val (.int xi), .val (.int xf), .val (.int xcp), .val (.int (3 : Int32)), .val (.int (Int8.toInt32 (Int32.toInt8 xf))), .val (.ref xbb), .val (.ref xee), .val (.int (1 : Int32)), .val (.int ((3 : Int32) + (1 : Int32)))] rfl 258 rfl ?_
      rw [show ((3 : Int32) + (1 : Int32)) = (4 : Int32) from rfl]
      refine o_iload X79 at_258 rfl 260 rfl ?_
      refine o_iload X79 at_260 rfl 262 rfl ?_
      refine o_iload X79 at_262 rfl 264 rfl ?_
      refine o_iadd X79 at_264 265 rfl ?_
      refine o_icmpNe X79 at_265 402 268 (by decide) (by decide) rfl (fun q => by exfalso; exact q rfl) ?_
      intro hc265
      refine o_aload X79 at_268 rfl rfl 270 rfl ?_
      refine o_iconst (v := (0 : Int32)) X79 at_270 rfl 271 rfl ?_
      refine o_iload X79 at_271 rfl 273 rfl ?_
      refine o_iload X79 at_273 rfl 275 rfl ?_
      refine o_aload X79 at_275 rfl rfl 277 rfl ?_
      refine o_iloadN X79 at_277 rfl 278 rfl ?_
      have H82 : OL n0 h79 ((xee, OA Z .int [xcp, e1, e2, e3]) :: (xbb, OA Z .byte [(Int8.toInt32 (Int32.toInt8 xf)), (Int8.toInt32 (Int32.toInt8 xf)), (Int8.toInt32 (Int32.toInt8 xf)), (Int8.toInt32 (Int32.toInt8 xcp)), (Int8.toInt32 (Int32.toInt8 xf)), (Int8.toInt32 (Int32.toInt8 xf)), (Int8.toInt32 (Int32.toInt8 xf)), (Int8.toInt32 (Int32.toInt8 xf))]) :: []) := H79.front 1 rfl
      have H83 : OL n0 h79 ((xbb, OA Z .byte [(Int8.toInt32 (Int32.toInt8 xf)), (Int8.toInt32 (Int32.toInt8 xf)), (Int8.toInt32 (Int32.toInt8 xf)), (Int8.toInt32 (Int32.toInt8 xcp)), (Int8.toInt32 (Int32.toInt8 xf)), (Int8.toInt32 (Int32.toInt8 xf)), (Int8.toInt32 (Int32.toInt8 xf)), (Int8.toInt32 (Int32.toInt8 xf))]) :: (xee, OA Z .int [xcp, e1, e2, e3]) :: []) := H82.front 1 rfl
      refine o_callS X79 at_278 (rest := []) (c_atO l Z a0 hw [] n0 _ X79.size xbb (0 : Int32) (3 : Int32) (1 : Int32) xee xf [(Int8.toInt32 (Int32.toInt8 xf)), (Int8.toInt32 (Int32.toInt8 xf)), (Int8.toInt32 (Int32.toInt8 xf)), (Int8.toInt32 (Int32.toInt8 xcp)), (Int8.toInt32 (Int32.toInt8 xf)), (Int8.toInt32 (Int32.toInt8 xf)), (Int8.toInt32 (Int32.toInt8 xf)), (Int8.toInt32 (Int32.toInt8 xf))] [xcp, e1, e2, e3] [] H83 0 rfl (Int8.toInt32 (Int32.toInt8 xf)) rfl (by decide) (v_fill _)) (hw _ (List.mem_of_getElem? (i := 9) rfl)) (hw _ (List.mem_of_getElem? (i := 10) rfl)) (hw _ (List.mem_of_getElem? (i := 11) rfl)) (hw _ (List.mem_of_getElem? (i := 12) rfl)) (by decide) 0 (by decide) (by decide) rfl [(.ref xbb), (.int (0 : Int32)), (.int (3 : Int32)), (.int (1 : Int32)), (.ref xee), (.int xf)] rfl pd_2 rfl rfl (Nat.le_of_eq rfl) 2 12 rfl rfl (by decide) (by decide) 281 rfl ?_
      rintro _ T81 _ X81 ⟨rfl, rfl⟩
      show OE p e room_1 below s n0 Q' T81 (mkF m 281 #[.val (.int xc), .val (.int xi), .val (.int xf), .val (.int xcp), .val (.int (3 : Int32)), .val (.int (Int8.toInt32 (Int32.toInt8 xf))), .val (.ref xbb), .val (.ref xee), .val (.int (1 : Int32)), .val (.int (4 : Int32))] [(.int (1 : Int32))])
      refine o_ifEq X81 at_281 402 284 (by decide) (by decide) rfl (fun q => by exfalso; exact absurd q (by decide)) ?_
      intro hc281
      refine o_aload X81 at_284 rfl rfl 286 rfl ?_
      refine o_iconst (v := (1 : Int32)) X81 at_286 rfl 287 rfl ?_
      refine o_iload X81 at_287 rfl 289 rfl ?_
      refine o_iload X81 at_289 rfl 291 rfl ?_
      refine o_aload X81 at_291 rfl rfl 293 rfl ?_
      refine o_iloadN X81 at_293 rfl 294 rfl ?_
      have H85 : OL n0 h79 ((xee, OA Z .int [xcp, e1, e2, e3]) :: (xbb, OA Z .byte [(Int8.toInt32 (Int32.toInt8 xf)), (Int8.toInt32 (Int32.toInt8 xf)), (Int8.toInt32 (Int32.toInt8 xf)), (Int8.toInt32 (Int32.toInt8 xcp)), (Int8.toInt32 (Int32.toInt8 xf)), (Int8.toInt32 (Int32.toInt8 xf)), (Int8.toInt32 (Int32.toInt8 xf)), (Int8.toInt32 (Int32.toInt8 xf))]) :: []) := H83.front 1 rfl
      have H86 : OL n0 h79 ((xbb, OA Z .byte [(Int8.toInt32 (Int32.toInt8 xf)), (Int8.toInt32 (Int32.toInt8 xf)), (Int8.toInt32 (Int32.toInt8 xf)), (Int8.toInt32 (Int32.toInt8 xcp)), (Int8.toInt32 (Int32.toInt8 xf)), (Int8.toInt32 (Int32.toInt8 xf)), (Int8.toInt32 (Int32.toInt8 xf)), (Int8.toInt32 (Int32.toInt8 xf))]) :: (xee, OA Z .int [xcp, e1, e2, e3]) :: []) := H85.front 1 rfl
      refine o_callS X81 at_294 (rest := []) (c_atO l Z a0 hw [] n0 _ X81.size xbb (1 : Int32) (3 : Int32) (1 : Int32) xee xf [(Int8.toInt32 (Int32.toInt8 xf)), (Int8.toInt32 (Int32.toInt8 xf)), (Int8.toInt32 (Int32.toInt8 xf)), (Int8.toInt32 (Int32.toInt8 xcp)), (Int8.toInt32 (Int32.toInt8 xf)), (Int8.toInt32 (Int32.toInt8 xf)), (Int8.toInt32 (Int32.toInt8 xf)), (Int8.toInt32 (Int32.toInt8 xf))] [xcp, e1, e2, e3] [] H86 1 rfl (Int8.toInt32 (Int32.toInt8 xf)) rfl (by decide) (v_fill _)) (hw _ (List.mem_of_getElem? (i := 9) rfl)) (hw _ (List.mem_of_getElem? (i := 10) rfl)) (hw _ (List.mem_of_getElem? (i := 11) rfl)) (hw _ (List.mem_of_getElem? (i := 12) rfl)) (by decide) 0 (by decide) (by decide) rfl [(.ref xbb), (.int (1 : Int32)), (.int (3 : Int32)), (.int (1 : Int32)), (.ref xee), (.int xf)] rfl pd_2 rfl rfl (Nat.le_of_eq rfl) 2 12 rfl rfl (by decide) (by decide) 297 rfl ?_
      rintro _ T84 _ X84 ⟨rfl, rfl⟩
      show OE p e room_1 below s n0 Q' T84 (mkF m 297 #[.val (.int xc), .val (.int xi), .val (.int xf), .val (.int xcp), .val (.int (3 : Int32)), .val (.int (Int8.toInt32 (Int32.toInt8 xf))), .val (.ref xbb), .val (.ref xee), .val (.int (1 : Int32)), .val (.int (4 : Int32))] [(.int (1 : Int32))])
      refine o_ifEq X84 at_297 402 300 (by decide) (by decide) rfl (fun q => by exfalso; exact absurd q (by decide)) ?_
      intro hc297
      refine o_aload X84 at_300 rfl rfl 302 rfl ?_
      refine o_iconst (v := (2 : Int32)) X84 at_302 rfl 303 rfl ?_
      refine o_iload X84 at_303 rfl 305 rfl ?_
      refine o_iload X84 at_305 rfl 307 rfl ?_
      refine o_aload X84 at_307 rfl rfl 309 rfl ?_
      refine o_iloadN X84 at_309 rfl 310 rfl ?_
      have H88 : OL n0 h79 ((xee, OA Z .int [xcp, e1, e2, e3]) :: (xbb, OA Z .byte [(Int8.toInt32 (Int32.toInt8 xf)), (Int8.toInt32 (Int32.toInt8 xf)), (Int8.toInt32 (Int32.toInt8 xf)), (Int8.toInt32 (Int32.toInt8 xcp)), (Int8.toInt32 (Int32.toInt8 xf)), (Int8.toInt32 (Int32.toInt8 xf)), (Int8.toInt32 (Int32.toInt8 xf)), (Int8.toInt32 (Int32.toInt8 xf))]) :: []) := H86.front 1 rfl
      have H89 : OL n0 h79 ((xbb, OA Z .byte [(Int8.toInt32 (Int32.toInt8 xf)), (Int8.toInt32 (Int32.toInt8 xf)), (Int8.toInt32 (Int32.toInt8 xf)), (Int8.toInt32 (Int32.toInt8 xcp)), (Int8.toInt32 (Int32.toInt8 xf)), (Int8.toInt32 (Int32.toInt8 xf)), (Int8.toInt32 (Int32.toInt8 xf)), (Int8.toInt32 (Int32.toInt8 xf))]) :: (xee, OA Z .int [xcp, e1, e2, e3]) :: []) := H88.front 1 rfl
      refine o_callS X84 at_310 (rest := []) (c_atO l Z a0 hw [] n0 _ X84.size xbb (2 : Int32) (3 : Int32) (1 : Int32) xee xf [(Int8.toInt32 (Int32.toInt8 xf)), (Int8.toInt32 (Int32.toInt8 xf)), (Int8.toInt32 (Int32.toInt8 xf)), (Int8.toInt32 (Int32.toInt8 xcp)), (Int8.toInt32 (Int32.toInt8 xf)), (Int8.toInt32 (Int32.toInt8 xf)), (Int8.toInt32 (Int32.toInt8 xf)), (Int8.toInt32 (Int32.toInt8 xf))] [xcp, e1, e2, e3] [] H89 2 rfl (Int8.toInt32 (Int32.toInt8 xf)) rfl (by decide) (v_fill _)) (hw _ (List.mem_of_getElem? (i := 9) rfl)) (hw _ (List.mem_of_getElem? (i := 10) rfl)) (hw _ (List.mem_of_getElem? (i := 11) rfl)) (hw _ (List.mem_of_getElem? (i := 12) rfl)) (by decide) 0 (by decide) (by decide) rfl [(.ref xbb), (.int (2 : Int32)), (.int (3 : Int32)), (.int (1 : Int32)), (.ref xee), (.int xf)] rfl pd_2 rfl rfl (Nat.le_of_eq rfl) 2 12 rfl rfl (by decide) (by decide) 313 rfl ?_
      rintro _ T87 _ X87 ⟨rfl, rfl⟩
      show OE p e room_1 below s n0 Q' T87 (mkF m 313 #[.val (.int xc), .val (.int xi), .val (.int xf), .val (.int xcp), .val (.int (3 : Int32)), .val (.int (Int8.toInt32 (Int32.toInt8 xf))), .val (.ref xbb), .val (.ref xee), .val (.int (1 : Int32)), .val (.int (4 : Int32))] [(.int (1 : Int32))])
      refine o_ifEq X87 at_313 402 316 (by decide) (by decide) rfl (fun q => by exfalso; exact absurd q (by decide)) ?_
      intro hc313
      refine o_aload X87 at_316 rfl rfl 318 rfl ?_
      refine o_iconst (v := (3 : Int32)) X87 at_318 rfl 319 rfl ?_
      refine o_iload X87 at_319 rfl 321 rfl ?_
      refine o_iload X87 at_321 rfl 323 rfl ?_
      refine o_aload X87 at_323 rfl rfl 325 rfl ?_
      refine o_iloadN X87 at_325 rfl 326 rfl ?_
      have H91 : OL n0 h79 ((xee, OA Z .int [xcp, e1, e2, e3]) :: (xbb, OA Z .byte [(Int8.toInt32 (Int32.toInt8 xf)), (Int8.toInt32 (Int32.toInt8 xf)), (Int8.toInt32 (Int32.toInt8 xf)), (Int8.toInt32 (Int32.toInt8 xcp)), (Int8.toInt32 (Int32.toInt8 xf)), (Int8.toInt32 (Int32.toInt8 xf)), (Int8.toInt32 (Int32.toInt8 xf)), (Int8.toInt32 (Int32.toInt8 xf))]) :: []) := H89.front 1 rfl
      have H92 : OL n0 h79 ((xbb, OA Z .byte [(Int8.toInt32 (Int32.toInt8 xf)), (Int8.toInt32 (Int32.toInt8 xf)), (Int8.toInt32 (Int32.toInt8 xf)), (Int8.toInt32 (Int32.toInt8 xcp)), (Int8.toInt32 (Int32.toInt8 xf)), (Int8.toInt32 (Int32.toInt8 xf)), (Int8.toInt32 (Int32.toInt8 xf)), (Int8.toInt32 (Int32.toInt8 xf))]) :: (xee, OA Z .int [xcp, e1, e2, e3]) :: []) := H91.front 1 rfl
      refine o_callS X87 at_326 (rest := []) (c_atI l Z a0 hw [] n0 _ X87.size xbb (3 : Int32) (3 : Int32) (1 : Int32) xee xf [(Int8.toInt32 (Int32.toInt8 xf)), (Int8.toInt32 (Int32.toInt8 xf)), (Int8.toInt32 (Int32.toInt8 xf)), (Int8.toInt32 (Int32.toInt8 xcp)), (Int8.toInt32 (Int32.toInt8 xf)), (Int8.toInt32 (Int32.toInt8 xf)), (Int8.toInt32 (Int32.toInt8 xf)), (Int8.toInt32 (Int32.toInt8 xf))] [xcp, e1, e2, e3] [] H92 3 rfl (Int8.toInt32 (Int32.toInt8 xcp)) rfl 0 rfl xcp rfl (by decide) (by decide) (v_e10 xcp hlo hhi)) (hw _ (List.mem_of_getElem? (i := 9) rfl)) (hw _ (List.mem_of_getElem? (i := 10) rfl)) (hw _ (List.mem_of_getElem? (i := 11) rfl)) (hw _ (List.mem_of_getElem? (i := 12) rfl)) (by decide) 0 (by decide) (by decide) rfl [(.ref xbb), (.int (3 : Int32)), (.int (3 : Int32)), (.int (1 : Int32)), (.ref xee), (.int xf)] rfl pd_2 rfl rfl (Nat.le_of_eq rfl) 2 12 rfl rfl (by decide) (by decide) 329 rfl ?_
      rintro _ T90 _ X90 ⟨rfl, rfl⟩
      show OE p e room_1 below s n0 Q' T90 (mkF m 329 #[.val (.int xc), .val (.int xi), .val (.int xf), .val (.int xcp), .val (.int (3 : Int32)), .val (.int (Int8.toInt32 (Int32.toInt8 xf))), .val (.ref xbb), .val (.ref xee), .val (.int (1 : Int32)), .val (.int (4 : Int32))] [(.int (1 : Int32))])
      refine o_ifEq X90 at_329 402 332 (by decide) (by decide) rfl (fun q => by exfalso; exact absurd q (by decide)) ?_
      intro hc329
      refine o_aload X90 at_332 rfl rfl 334 rfl ?_
      refine o_iconst (v := (4 : Int32)) X90 at_334 rfl 335 rfl ?_
      refine o_iload X90 at_335 rfl 337 rfl ?_
      refine o_iload X90 at_337 rfl 339 rfl ?_
      refine o_aload X90 at_339 rfl rfl 341 rfl ?_
      refine o_iloadN X90 at_341 rfl 342 rfl ?_
      have H94 : OL n0 h79 ((xee, OA Z .int [xcp, e1, e2, e3]) :: (xbb, OA Z .byte [(Int8.toInt32 (Int32.toInt8 xf)), (Int8.toInt32 (Int32.toInt8 xf)), (Int8.toInt32 (Int32.toInt8 xf)), (Int8.toInt32 (Int32.toInt8 xcp)), (Int8.toInt32 (Int32.toInt8 xf)), (Int8.toInt32 (Int32.toInt8 xf)), (Int8.toInt32 (Int32.toInt8 xf)), (Int8.toInt32 (Int32.toInt8 xf))]) :: []) := H92.front 1 rfl
      have H95 : OL n0 h79 ((xbb, OA Z .byte [(Int8.toInt32 (Int32.toInt8 xf)), (Int8.toInt32 (Int32.toInt8 xf)), (Int8.toInt32 (Int32.toInt8 xf)), (Int8.toInt32 (Int32.toInt8 xcp)), (Int8.toInt32 (Int32.toInt8 xf)), (Int8.toInt32 (Int32.toInt8 xf)), (Int8.toInt32 (Int32.toInt8 xf)), (Int8.toInt32 (Int32.toInt8 xf))]) :: (xee, OA Z .int [xcp, e1, e2, e3]) :: []) := H94.front 1 rfl
      refine o_callS X90 at_342 (rest := []) (c_atO l Z a0 hw [] n0 _ X90.size xbb (4 : Int32) (3 : Int32) (1 : Int32) xee xf [(Int8.toInt32 (Int32.toInt8 xf)), (Int8.toInt32 (Int32.toInt8 xf)), (Int8.toInt32 (Int32.toInt8 xf)), (Int8.toInt32 (Int32.toInt8 xcp)), (Int8.toInt32 (Int32.toInt8 xf)), (Int8.toInt32 (Int32.toInt8 xf)), (Int8.toInt32 (Int32.toInt8 xf)), (Int8.toInt32 (Int32.toInt8 xf))] [xcp, e1, e2, e3] [] H95 4 rfl (Int8.toInt32 (Int32.toInt8 xf)) rfl (by decide) (v_fill _)) (hw _ (List.mem_of_getElem? (i := 9) rfl)) (hw _ (List.mem_of_getElem? (i := 10) rfl)) (hw _ (List.mem_of_getElem? (i := 11) rfl)) (hw _ (List.mem_of_getElem? (i := 12) rfl)) (by decide) 0 (by decide) (by decide) rfl [(.ref xbb), (.int (4 : Int32)), (.int (3 : Int32)), (.int (1 : Int32)), (.ref xee), (.int xf)] rfl pd_2 rfl rfl (Nat.le_of_eq rfl) 2 12 rfl rfl (by decide) (by decide) 345 rfl ?_
      rintro _ T93 _ X93 ⟨rfl, rfl⟩
      show OE p e room_1 below s n0 Q' T93 (mkF m 345 #[.val (.int xc), .val (.int xi), .val (.int xf), .val (.int xcp), .val (.int (3 : Int32)), .val (.int (Int8.toInt32 (Int32.toInt8 xf))), .val (.ref xbb), .val (.ref xee), .val (.int (1 : Int32)), .val (.int (4 : Int32))] [(.int (1 : Int32))])
      refine o_ifEq X93 at_345 402 348 (by decide) (by decide) rfl (fun q => by exfalso; exact absurd q (by decide)) ?_
      intro hc345
      refine o_aload X93 at_348 rfl rfl 350 rfl ?_
      refine o_iconst (v := (5 : Int32)) X93 at_350 rfl 351 rfl ?_
      refine o_iload X93 at_351 rfl 353 rfl ?_
      refine o_iload X93 at_353 rfl 355 rfl ?_
      refine o_aload X93 at_355 rfl rfl 357 rfl ?_
      refine o_iloadN X93 at_357 rfl 358 rfl ?_
      have H97 : OL n0 h79 ((xee, OA Z .int [xcp, e1, e2, e3]) :: (xbb, OA Z .byte [(Int8.toInt32 (Int32.toInt8 xf)), (Int8.toInt32 (Int32.toInt8 xf)), (Int8.toInt32 (Int32.toInt8 xf)), (Int8.toInt32 (Int32.toInt8 xcp)), (Int8.toInt32 (Int32.toInt8 xf)), (Int8.toInt32 (Int32.toInt8 xf)), (Int8.toInt32 (Int32.toInt8 xf)), (Int8.toInt32 (Int32.toInt8 xf))]) :: []) := H95.front 1 rfl
      have H98 : OL n0 h79 ((xbb, OA Z .byte [(Int8.toInt32 (Int32.toInt8 xf)), (Int8.toInt32 (Int32.toInt8 xf)), (Int8.toInt32 (Int32.toInt8 xf)), (Int8.toInt32 (Int32.toInt8 xcp)), (Int8.toInt32 (Int32.toInt8 xf)), (Int8.toInt32 (Int32.toInt8 xf)), (Int8.toInt32 (Int32.toInt8 xf)), (Int8.toInt32 (Int32.toInt8 xf))]) :: (xee, OA Z .int [xcp, e1, e2, e3]) :: []) := H97.front 1 rfl
      refine o_callS X93 at_358 (rest := []) (c_atO l Z a0 hw [] n0 _ X93.size xbb (5 : Int32) (3 : Int32) (1 : Int32) xee xf [(Int8.toInt32 (Int32.toInt8 xf)), (Int8.toInt32 (Int32.toInt8 xf)), (Int8.toInt32 (Int32.toInt8 xf)), (Int8.toInt32 (Int32.toInt8 xcp)), (Int8.toInt32 (Int32.toInt8 xf)), (Int8.toInt32 (Int32.toInt8 xf)), (Int8.toInt32 (Int32.toInt8 xf)), (Int8.toInt32 (Int32.toInt8 xf))] [xcp, e1, e2, e3] [] H98 5 rfl (Int8.toInt32 (Int32.toInt8 xf)) rfl (by decide) (v_fill _)) (hw _ (List.mem_of_getElem? (i := 9) rfl)) (hw _ (List.mem_of_getElem? (i := 10) rfl)) (hw _ (List.mem_of_getElem? (i := 11) rfl)) (hw _ (List.mem_of_getElem? (i := 12) rfl)) (by decide) 0 (by decide) (by decide) rfl [(.ref xbb), (.int (5 : Int32)), (.int (3 : Int32)), (.int (1 : Int32)), (.ref xee), (.int xf)] rfl pd_2 rfl rfl (Nat.le_of_eq rfl) 2 12 rfl rfl (by decide) (by decide) 361 rfl ?_
      rintro _ T96 _ X96 ⟨rfl, rfl⟩
      show OE p e room_1 below s n0 Q' T96 (mkF m 361 #[.val (.int xc), .val (.int xi), .val (.int xf), .val (.int xcp), .val (.int (3 : Int32)), .val (.int (Int8.toInt32 (Int32.toInt8 xf))), .val (.ref xbb), .val (.ref xee), .val (.int (1 : Int32)), .val (.int (4 : Int32))] [(.int (1 : Int32))])
      refine o_ifEq X96 at_361 402 364 (by decide) (by decide) rfl (fun q => by exfalso; exact absurd q (by decide)) ?_
      intro hc361
      refine o_aload X96 at_364 rfl rfl 366 rfl ?_
      refine o_bipush (v := (6 : Int32)) X96 at_366 rfl 368 rfl ?_
      refine o_iload X96 at_368 rfl 370 rfl ?_
      refine o_iload X96 at_370 rfl 372 rfl ?_
      refine o_aload X96 at_372 rfl rfl 374 rfl ?_
      refine o_iloadN X96 at_374 rfl 375 rfl ?_
      have H100 : OL n0 h79 ((xee, OA Z .int [xcp, e1, e2, e3]) :: (xbb, OA Z .byte [(Int8.toInt32 (Int32.toInt8 xf)), (Int8.toInt32 (Int32.toInt8 xf)), (Int8.toInt32 (Int32.toInt8 xf)), (Int8.toInt32 (Int32.toInt8 xcp)), (Int8.toInt32 (Int32.toInt8 xf)), (Int8.toInt32 (Int32.toInt8 xf)), (Int8.toInt32 (Int32.toInt8 xf)), (Int8.toInt32 (Int32.toInt8 xf))]) :: []) := H98.front 1 rfl
      have H101 : OL n0 h79 ((xbb, OA Z .byte [(Int8.toInt32 (Int32.toInt8 xf)), (Int8.toInt32 (Int32.toInt8 xf)), (Int8.toInt32 (Int32.toInt8 xf)), (Int8.toInt32 (Int32.toInt8 xcp)), (Int8.toInt32 (Int32.toInt8 xf)), (Int8.toInt32 (Int32.toInt8 xf)), (Int8.toInt32 (Int32.toInt8 xf)), (Int8.toInt32 (Int32.toInt8 xf))]) :: (xee, OA Z .int [xcp, e1, e2, e3]) :: []) := H100.front 1 rfl
      refine o_callS X96 at_375 (rest := []) (c_atO l Z a0 hw [] n0 _ X96.size xbb (6 : Int32) (3 : Int32) (1 : Int32) xee xf [(Int8.toInt32 (Int32.toInt8 xf)), (Int8.toInt32 (Int32.toInt8 xf)), (Int8.toInt32 (Int32.toInt8 xf)), (Int8.toInt32 (Int32.toInt8 xcp)), (Int8.toInt32 (Int32.toInt8 xf)), (Int8.toInt32 (Int32.toInt8 xf)), (Int8.toInt32 (Int32.toInt8 xf)), (Int8.toInt32 (Int32.toInt8 xf))] [xcp, e1, e2, e3] [] H101 6 rfl (Int8.toInt32 (Int32.toInt8 xf)) rfl (by decide) (v_fill _)) (hw _ (List.mem_of_getElem? (i := 9) rfl)) (hw _ (List.mem_of_getElem? (i := 10) rfl)) (hw _ (List.mem_of_getElem? (i := 11) rfl)) (hw _ (List.mem_of_getElem? (i := 12) rfl)) (by decide) 0 (by decide) (by decide) rfl [(.ref xbb), (.int (6 : Int32)), (.int (3 : Int32)), (.int (1 : Int32)), (.ref xee), (.int xf)] rfl pd_2 rfl rfl (Nat.le_of_eq rfl) 2 12 rfl rfl (by decide) (by decide) 378 rfl ?_
      rintro _ T99 _ X99 ⟨rfl, rfl⟩
      show OE p e room_1 below s n0 Q' T99 (mkF m 378 #[.val (.int xc), .val (.int xi), .val (.int xf), .val (.int xcp), .val (.int (3 : Int32)), .val (.int (Int8.toInt32 (Int32.toInt8 xf))), .val (.ref xbb), .val (.ref xee), .val (.int (1 : Int32)), .val (.int (4 : Int32))] [(.int (1 : Int32))])
      refine o_ifEq X99 at_378 402 381 (by decide) (by decide) rfl (fun q => by exfalso; exact absurd q (by decide)) ?_
      intro hc378
      refine o_aload X99 at_381 rfl rfl 383 rfl ?_
      refine o_bipush (v := (7 : Int32)) X99 at_383 rfl 385 rfl ?_
      refine o_iload X99 at_385 rfl 387 rfl ?_
      refine o_iload X99 at_387 rfl 389 rfl ?_
      refine o_aload X99 at_389 rfl rfl 391 rfl ?_
      refine o_iloadN X99 at_391 rfl 392 rfl ?_
      have H103 : OL n0 h79 ((xee, OA Z .int [xcp, e1, e2, e3]) :: (xbb, OA Z .byte [(Int8.toInt32 (Int32.toInt8 xf)), (Int8.toInt32 (Int32.toInt8 xf)), (Int8.toInt32 (Int32.toInt8 xf)), (Int8.toInt32 (Int32.toInt8 xcp)), (Int8.toInt32 (Int32.toInt8 xf)), (Int8.toInt32 (Int32.toInt8 xf)), (Int8.toInt32 (Int32.toInt8 xf)), (Int8.toInt32 (Int32.toInt8 xf))]) :: []) := H101.front 1 rfl
      have H104 : OL n0 h79 ((xbb, OA Z .byte [(Int8.toInt32 (Int32.toInt8 xf)), (Int8.toInt32 (Int32.toInt8 xf)), (Int8.toInt32 (Int32.toInt8 xf)), (Int8.toInt32 (Int32.toInt8 xcp)), (Int8.toInt32 (Int32.toInt8 xf)), (Int8.toInt32 (Int32.toInt8 xf)), (Int8.toInt32 (Int32.toInt8 xf)), (Int8.toInt32 (Int32.toInt8 xf))]) :: (xee, OA Z .int [xcp, e1, e2, e3]) :: []) := H103.front 1 rfl
      refine o_callS X99 at_392 (rest := []) (c_atO l Z a0 hw [] n0 _ X99.size xbb (7 : Int32) (3 : Int32) (1 : Int32) xee xf [(Int8.toInt32 (Int32.toInt8 xf)), (Int8.toInt32 (Int32.toInt8 xf)), (Int8.toInt32 (Int32.toInt8 xf)), (Int8.toInt32 (Int32.toInt8 xcp)), (Int8.toInt32 (Int32.toInt8 xf)), (Int8.toInt32 (Int32.toInt8 xf)), (Int8.toInt32 (Int32.toInt8 xf)), (Int8.toInt32 (Int32.toInt8 xf))] [xcp, e1, e2, e3] [] H104 7 rfl (Int8.toInt32 (Int32.toInt8 xf)) rfl (by decide) (v_fill _)) (hw _ (List.mem_of_getElem? (i := 9) rfl)) (hw _ (List.mem_of_getElem? (i := 10) rfl)) (hw _ (List.mem_of_getElem? (i := 11) rfl)) (hw _ (List.mem_of_getElem? (i := 12) rfl)) (by decide) 0 (by decide) (by decide) rfl [(.ref xbb), (.int (7 : Int32)), (.int (3 : Int32)), (.int (1 : Int32)), (.ref xee), (.int xf)] rfl pd_2 rfl rfl (Nat.le_of_eq rfl) 2 12 rfl rfl (by decide) (by decide) 395 rfl ?_
      rintro _ T102 _ X102 ⟨rfl, rfl⟩
      show OE p e room_1 below s n0 Q' T102 (mkF m 395 #[.val (.int xc), .val (.int xi), .val (.int xf), .val (.int xcp), .val (.int (3 : Int32)), .val (.int (Int8.toInt32 (Int32.toInt8 xf))), .val (.ref xbb), .val (.ref xee), .val (.int (1 : Int32)), .val (.int (4 : Int32))] [(.int (1 : Int32))])
      refine o_ifEq X102 at_395 402 398 (by decide) (by decide) rfl (fun q => by exfalso; exact absurd q (by decide)) ?_
      intro hc395
      refine o_iconst (v := (1 : Int32)) X102 at_398 rfl 399 rfl ?_
      refine o_goto X102 at_399 403 (by decide) (by decide) ?_
      exact o_retZ X102 at_403 (by decide) (by decide) (hQ _ _ rfl)
    · skip
      refine o_iloadN X_J248 at_248 rfl 249 rfl ?_
      refine o_aload X_J248 at_249 rfl rfl 251 rfl ?_
      refine o_iload X_J248 at_251 rfl 253 rfl ?_
      have H106 : OL n0 h ((xbb, OA Z .byte [(Int8.toInt32 (Int32.toInt8 xf)), (Int8.toInt32 (Int32.toInt8 xf)), (Int8.toInt32 (Int32.toInt8 xf)), (Int8.toInt32 (Int32.toInt8 xf)), (Int8.toInt32 (Int32.toInt8 xf)), (Int8.toInt32 (Int32.toInt8 xf)), (Int8.toInt32 (Int32.toInt8 xf)), (Int8.toInt32 (Int32.toInt8 xf))]) :: (xee, OA Z .int [((192 : Int32) + (xcp / (64 : Int32))), ((128 : Int32) + (xcp % (64 : Int32))), e2, e3]) :: []) := H_J248.front 1 rfl
      refine o_callS X_J248 at_253 (rest := []) (c_enc2 l Z a0 hw [] n0 _ X_J248.size xcp xbb (0 : Int32) [(Int8.toInt32 (Int32.toInt8 xf)), (Int8.toInt32 (Int32.toInt8 xf)), (Int8.toInt32 (Int32.toInt8 xf)), (Int8.toInt32 (Int32.toInt8 xf)), (Int8.toInt32 (Int32.toInt8 xf)), (Int8.toInt32 (Int32.toInt8 xf)), (Int8.toInt32 (Int32.toInt8 xf)), (Int8.toInt32 (Int32.toInt8 xf))] ((xee, OA Z .int [((192 : Int32) + (xcp / (64 : Int32))), ((128 : Int32) + (xcp % (64 : Int32))), e2, e3]) :: []) H106 0 rfl (by show 2 ≤ 8; decide) (by decide) hlo hhi) (hw _ (List.mem_of_getElem? (i := 5) rfl)) (hw _ (List.mem_of_getElem? (i := 6) rfl)) (hw _ (List.mem_of_getElem? (i := 7) rfl)) (hw _ (List.mem_of_getElem? (i := 8) rfl)) (by decide) 0 (by decide) (by decide) rfl [(.int xcp), (.ref xbb), (.int (0 : Int32))] rfl pd_1 rfl rfl (Nat.le_of_eq rfl) 2 12 rfl rfl (by decide) (by decide) 256 rfl ?_
      rintro _ T105 h105 X105 ⟨rfl, H105⟩
      replace H105 : OL n0 h105 ((xbb, OA Z .byte [(Int8.toInt32 (Int32.toInt8 ((192 : Int32) ||| (xcp >>> ((6 : Int32) &&& 31))))), (Int8.toInt32 (Int32.toInt8 ((128 : Int32) ||| (xcp &&& (63 : Int32))))), (Int8.toInt32 (Int32.toInt8 xf)), (Int8.toInt32 (Int32.toInt8 xf)), (Int8.toInt32 (Int32.toInt8 xf)), (Int8.toInt32 (Int32.toInt8 xf)), (Int8.toInt32 (Int32.toInt8 xf)), (Int8.toInt32 (Int32.toInt8 xf))]) :: (xee, OA Z .int [((192 : Int32) + (xcp / (64 : Int32))), ((128 : Int32) + (xcp % (64 : Int32))), e2, e3]) :: []) := H105
      show OE p e room_1 below s n0 Q' T105 (mkF m 256 #[.val (.int xc), .val (.int xi), .val (.int xf), .val (.int xcp), .val (.int (0 : Int32)), .val (.int (Int8.toInt32 (Int32.toInt8 xf))), .val (.ref xbb), .val (.ref xee), .val (.int (2 : Int32)), .unset] [(.int (((0 : Int32) + (1 : Int32)) + (1 : Int32)))])
      refine o_istore X105 at_256 #[.val (.int xc), .val (.int xi), .val (.int xf), .val (.int xcp), .val (.int (0 : Int32)), .val (.int (Int8.toInt32 (Int32.toInt8 xf))), .val (.ref xbb), .val (.ref xee), .val (.int (2 : Int32)), .val (.int (((0 : Int32) + (1 : Int32)) + (1 : Int32)))] rfl 258 rfl ?_
      rw [show (((0 : Int32) + (1 : Int32)) + (1 : Int32)) = (2 : Int32) from rfl]
      refine o_iload X105 at_258 rfl 260 rfl ?_
      refine o_iload X105 at_260 rfl 262 rfl ?_
      refine o_iload X105 at_262 rfl 264 rfl ?_
      refine o_iadd X105 at_264 265 rfl ?_
      refine o_icmpNe X105 at_265 402 268 (by decide) (by decide) rfl (fun q => by exfalso; exact q rfl) ?_
      intro hc265
      refine o_aload X105 at_268 rfl rfl 270 rfl ?_
      refine o_iconst (v := (0 : Int32)) X105 at_270 rfl 271 rfl ?_
      refine o_iload X105 at_271 rfl 273 rfl ?_
      refine o_iload X105 at_273 rfl 275 rfl ?_
      refine o_aload X105 at_275 rfl rfl 277 rfl ?_
      refine o_iloadN X105 at_277 rfl 278 rfl ?_
      have H108 : OL n0 h105 ((xee, OA Z .int [((192 : Int32) + (xcp / (64 : Int32))), ((128 : Int32) + (xcp % (64 : Int32))), e2, e3]) :: (xbb, OA Z .byte [(Int8.toInt32 (Int32.toInt8 ((192 : Int32) ||| (xcp >>> ((6 : Int32) &&& 31))))), (Int8.toInt32 (Int32.toInt8 ((128 : Int32) ||| (xcp &&& (63 : Int32))))), (Int8.toInt32 (Int32.toInt8 xf)), (Int8.toInt32 (Int32.toInt8 xf)), (Int8.toInt32 (Int32.toInt8 xf)), (Int8.toInt32 (Int32.toInt8 xf)), (Int8.toInt32 (Int32.toInt8 xf)), (Int8.toInt32 (Int32.toInt8 xf))]) :: []) := H105.front 1 rfl
      have H109 : OL n0 h105 ((xbb, OA Z .byte [(Int8.toInt32 (Int32.toInt8 ((192 : Int32) ||| (xcp >>> ((6 : Int32) &&& 31))))), (Int8.toInt32 (Int32.toInt8 ((128 : Int32) ||| (xcp &&& (63 : Int32))))), (Int8.toInt32 (Int32.toInt8 xf)), (Int8.toInt32 (Int32.toInt8 xf)), (Int8.toInt32 (Int32.toInt8 xf)), (Int8.toInt32 (Int32.toInt8 xf)), (Int8.toInt32 (Int32.toInt8 xf)), (Int8.toInt32 (Int32.toInt8 xf))]) :: (xee, OA Z .int [((192 : Int32) + (xcp / (64 : Int32))), ((128 : Int32) + (xcp % (64 : Int32))), e2, e3]) :: []) := H108.front 1 rfl
      refine o_callS X105 at_278 (rest := []) (c_atI l Z a0 hw [] n0 _ X105.size xbb (0 : Int32) (0 : Int32) (2 : Int32) xee xf [(Int8.toInt32 (Int32.toInt8 ((192 : Int32) ||| (xcp >>> ((6 : Int32) &&& 31))))), (Int8.toInt32 (Int32.toInt8 ((128 : Int32) ||| (xcp &&& (63 : Int32))))), (Int8.toInt32 (Int32.toInt8 xf)), (Int8.toInt32 (Int32.toInt8 xf)), (Int8.toInt32 (Int32.toInt8 xf)), (Int8.toInt32 (Int32.toInt8 xf)), (Int8.toInt32 (Int32.toInt8 xf)), (Int8.toInt32 (Int32.toInt8 xf))] [((192 : Int32) + (xcp / (64 : Int32))), ((128 : Int32) + (xcp % (64 : Int32))), e2, e3] [] H109 0 rfl (Int8.toInt32 (Int32.toInt8 ((192 : Int32) ||| (xcp >>> ((6 : Int32) &&& 31))))) rfl 0 rfl ((192 : Int32) + (xcp / (64 : Int32))) rfl (by decide) (by decide) (v_e20 xcp hlo hhi)) (hw _ (List.mem_of_getElem? (i := 9) rfl)) (hw _ (List.mem_of_getElem? (i := 10) rfl)) (hw _ (List.mem_of_getElem? (i := 11) rfl)) (hw _ (List.mem_of_getElem? (i := 12) rfl)) (by decide) 0 (by decide) (by decide) rfl [(.ref xbb), (.int (0 : Int32)), (.int (0 : Int32)), (.int (2 : Int32)), (.ref xee), (.int xf)] rfl pd_2 rfl rfl (Nat.le_of_eq rfl) 2 12 rfl rfl (by decide) (by decide) 281 rfl ?_
      rintro _ T107 _ X107 ⟨rfl, rfl⟩
      show OE p e room_1 below s n0 Q' T107 (mkF m 281 #[.val (.int xc), .val (.int xi), .val (.int xf), .val (.int xcp), .val (.int (0 : Int32)), .val (.int (Int8.toInt32 (Int32.toInt8 xf))), .val (.ref xbb), .val (.ref xee), .val (.int (2 : Int32)), .val (.int (2 : Int32))] [(.int (1 : Int32))])
      refine o_ifEq X107 at_281 402 284 (by decide) (by decide) rfl (fun q => by exfalso; exact absurd q (by decide)) ?_
      intro hc281
      refine o_aload X107 at_284 rfl rfl 286 rfl ?_
      refine o_iconst (v := (1 : Int32)) X107 at_286 rfl 287 rfl ?_
      refine o_iload X107 at_287 rfl 289 rfl ?_
      refine o_iload X107 at_289 rfl 291 rfl ?_
      refine o_aload X107 at_291 rfl rfl 293 rfl ?_
      refine o_iloadN X107 at_293 rfl 294 rfl ?_
      have H111 : OL n0 h105 ((xee, OA Z .int [((192 : Int32) + (xcp / (64 : Int32))), ((128 : Int32) + (xcp % (64 : Int32))), e2, e3]) :: (xbb, OA Z .byte [(Int8.toInt32 (Int32.toInt8 ((192 : Int32) ||| (xcp >>> ((6 : Int32) &&& 31))))), (Int8.toInt32 (Int32.toInt8 ((128 : Int32) ||| (xcp &&& (63 : Int32))))), (Int8.toInt32 (Int32.toInt8 xf)), (Int8.toInt32 (Int32.toInt8 xf)), (Int8.toInt32 (Int32.toInt8 xf)), (Int8.toInt32 (Int32.toInt8 xf)), (Int8.toInt32 (Int32.toInt8 xf)), (Int8.toInt32 (Int32.toInt8 xf))]) :: []) := H109.front 1 rfl
      have H112 : OL n0 h105 ((xbb, OA Z .byte [(Int8.toInt32 (Int32.toInt8 ((192 : Int32) ||| (xcp >>> ((6 : Int32) &&& 31))))), (Int8.toInt32 (Int32.toInt8 ((128 : Int32) ||| (xcp &&& (63 : Int32))))), (Int8.toInt32 (Int32.toInt8 xf)), (Int8.toInt32 (Int32.toInt8 xf)), (Int8.toInt32 (Int32.toInt8 xf)), (Int8.toInt32 (Int32.toInt8 xf)), (Int8.toInt32 (Int32.toInt8 xf)), (Int8.toInt32 (Int32.toInt8 xf))]) :: (xee, OA Z .int [((192 : Int32) + (xcp / (64 : Int32))), ((128 : Int32) + (xcp % (64 : Int32))), e2, e3]) :: []) := H111.front 1 rfl
      refine o_callS X107 at_294 (rest := []) (c_atI l Z a0 hw [] n0 _ X107.size xbb (1 : Int32) (0 : Int32) (2 : Int32) xee xf [(Int8.toInt32 (Int32.toInt8 ((192 : Int32) ||| (xcp >>> ((6 : Int32) &&& 31))))), (Int8.toInt32 (Int32.toInt8 ((128 : Int32) ||| (xcp &&& (63 : Int32))))), (Int8.toInt32 (Int32.toInt8 xf)), (Int8.toInt32 (Int32.toInt8 xf)), (Int8.toInt32 (Int32.toInt8 xf)), (Int8.toInt32 (Int32.toInt8 xf)), (Int8.toInt32 (Int32.toInt8 xf)), (Int8.toInt32 (Int32.toInt8 xf))] [((192 : Int32) + (xcp / (64 : Int32))), ((128 : Int32) + (xcp % (64 : Int32))), e2, e3] [] H112 1 rfl (Int8.toInt32 (Int32.toInt8 ((128 : Int32) ||| (xcp &&& (63 : Int32))))) rfl 1 rfl ((128 : Int32) + (xcp % (64 : Int32))) rfl (by decide) (by decide) (v_e21 xcp hlo hhi)) (hw _ (List.mem_of_getElem? (i := 9) rfl)) (hw _ (List.mem_of_getElem? (i := 10) rfl)) (hw _ (List.mem_of_getElem? (i := 11) rfl)) (hw _ (List.mem_of_getElem? (i := 12) rfl)) (by decide) 0 (by decide) (by decide) rfl [(.ref xbb), (.int (1 : Int32)), (.int (0 : Int32)), (.int (2 : Int32)), (.ref xee), (.int xf)] rfl pd_2 rfl rfl (Nat.le_of_eq rfl) 2 12 rfl rfl (by decide) (by decide) 297 rfl ?_
      rintro _ T110 _ X110 ⟨rfl, rfl⟩
      show OE p e room_1 below s n0 Q' T110 (mkF m 297 #[.val (.int xc), .val (.int xi), .val (.int xf), .val (.int xcp), .val (.int (0 : Int32)), .val (.int (Int8.toInt32 (Int32.toInt8 xf))), .val (.ref xbb), .val (.ref xee), .val (.int (2 : Int32)), .val (.int (2 : Int32))] [(.int (1 : Int32))])
      refine o_ifEq X110 at_297 402 300 (by decide) (by decide) rfl (fun q => by exfalso; exact absurd q (by decide)) ?_
      intro hc297
      refine o_aload X110 at_300 rfl rfl 302 rfl ?_
      refine o_iconst (v := (2 : Int32)) X110 at_302 rfl 303 rfl ?_
      refine o_iload X110 at_303 rfl 305 rfl ?_
      refine o_iload X110 at_305 rfl 307 rfl ?_
      refine o_aload X110 at_307 rfl rfl 309 rfl ?_
      refine o_iloadN X110 at_309 rfl 310 rfl ?_
      have H114 : OL n0 h105 ((xee, OA Z .int [((192 : Int32) + (xcp / (64 : Int32))), ((128 : Int32) + (xcp % (64 : Int32))), e2, e3]) :: (xbb, OA Z .byte [(Int8.toInt32 (Int32.toInt8 ((192 : Int32) ||| (xcp >>> ((6 : Int32) &&& 31))))), (Int8.toInt32 (Int32.toInt8 ((128 : Int32) ||| (xcp &&& (63 : Int32))))), (Int8.toInt32 (Int32.toInt8 xf)), (Int8.toInt32 (Int32.toInt8 xf)), (Int8.toInt32 (Int32.toInt8 xf)), (Int8.toInt32 (Int32.toInt8 xf)), (Int8.toInt32 (Int32.toInt8 xf)), (Int8.toInt32 (Int32.toInt8 xf))]) :: []) := H112.front 1 rfl
      have H115 : OL n0 h105 ((xbb, OA Z .byte [(Int8.toInt32 (Int32.toInt8 ((192 : Int32) ||| (xcp >>> ((6 : Int32) &&& 31))))), (Int8.toInt32 (Int32.toInt8 ((128 : Int32) ||| (xcp &&& (63 : Int32))))), (Int8.toInt32 (Int32.toInt8 xf)), (Int8.toInt32 (Int32.toInt8 xf)), (Int8.toInt32 (Int32.toInt8 xf)), (Int8.toInt32 (Int32.toInt8 xf)), (Int8.toInt32 (Int32.toInt8 xf)), (Int8.toInt32 (Int32.toInt8 xf))]) :: (xee, OA Z .int [((192 : Int32) + (xcp / (64 : Int32))), ((128 : Int32) + (xcp % (64 : Int32))), e2, e3]) :: []) := H114.front 1 rfl
      refine o_callS X110 at_310 (rest := []) (c_atO l Z a0 hw [] n0 _ X110.size xbb (2 : Int32) (0 : Int32) (2 : Int32) xee xf [(Int8.toInt32 (Int32.toInt8 ((192 : Int32) ||| (xcp >>> ((6 : Int32) &&& 31))))), (Int8.toInt32 (Int32.toInt8 ((128 : Int32) ||| (xcp &&& (63 : Int32))))), (Int8.toInt32 (Int32.toInt8 xf)), (Int8.toInt32 (Int32.toInt8 xf)), (Int8.toInt32 (Int32.toInt8 xf)), (Int8.toInt32 (Int32.toInt8 xf)), (Int8.toInt32 (Int32.toInt8 xf)), (Int8.toInt32 (Int32.toInt8 xf))] [((192 : Int32) + (xcp / (64 : Int32))), ((128 : Int32) + (xcp % (64 : Int32))), e2, e3] [] H115 2 rfl (Int8.toInt32 (Int32.toInt8 xf)) rfl (by decide) (v_fill _)) (hw _ (List.mem_of_getElem? (i := 9) rfl)) (hw _ (List.mem_of_getElem? (i := 10) rfl)) (hw _ (List.mem_of_getElem? (i := 11) rfl)) (hw _ (List.mem_of_getElem? (i := 12) rfl)) (by decide) 0 (by decide) (by decide) rfl [(.ref xbb), (.int (2 : Int32)), (.int (0 : Int32)), (.int (2 : Int32)), (.ref xee), (.int xf)] rfl pd_2 rfl rfl (Nat.le_of_eq rfl) 2 12 rfl rfl (by decide) (by decide) 313 rfl ?_
      rintro _ T113 _ X113 ⟨rfl, rfl⟩
      show OE p e room_1 below s n0 Q' T113 (mkF m 313 #[.val (.int xc), .val (.int xi), .val (.int xf), .val (.int xcp), .val (.int (0 : Int32)), .val (.int (Int8.toInt32 (Int32.toInt8 xf))), .val (.ref xbb), .val (.ref xee), .val (.int (2 : Int32)), .val (.int (2 : Int32))] [(.int (1 : Int32))])
      refine o_ifEq X113 at_313 402 316 (by decide) (by decide) rfl (fun q => by exfalso; exact absurd q (by decide)) ?_
      intro hc313
      refine o_aload X113 at_316 rfl rfl 318 rfl ?_
      refine o_iconst (v := (3 : Int32)) X113 at_318 rfl 319 rfl ?_
      refine o_iload X113 at_319 rfl 321 rfl ?_
      refine o_iload X113 at_321 rfl 323 rfl ?_
      refine o_aload X113 at_323 rfl rfl 325 rfl ?_
      refine o_iloadN X113 at_325 rfl 326 rfl ?_
      have H117 : OL n0 h105 ((xee, OA Z .int [((192 : Int32) + (xcp / (64 : Int32))), ((128 : Int32) + (xcp % (64 : Int32))), e2, e3]) :: (xbb, OA Z .byte [(Int8.toInt32 (Int32.toInt8 ((192 : Int32) ||| (xcp >>> ((6 : Int32) &&& 31))))), (Int8.toInt32 (Int32.toInt8 ((128 : Int32) ||| (xcp &&& (63 : Int32))))), (Int8.toInt32 (Int32.toInt8 xf)), (Int8.toInt32 (Int32.toInt8 xf)), (Int8.toInt32 (Int32.toInt8 xf)), (Int8.toInt32 (Int32.toInt8 xf)), (Int8.toInt32 (Int32.toInt8 xf)), (Int8.toInt32 (Int32.toInt8 xf))]) :: []) := H115.front 1 rfl
      have H118 : OL n0 h105 ((xbb, OA Z .byte [(Int8.toInt32 (Int32.toInt8 ((192 : Int32) ||| (xcp >>> ((6 : Int32) &&& 31))))), (Int8.toInt32 (Int32.toInt8 ((128 : Int32) ||| (xcp &&& (63 : Int32))))), (Int8.toInt32 (Int32.toInt8 xf)), (Int8.toInt32 (Int32.toInt8 xf)), (Int8.toInt32 (Int32.toInt8 xf)), (Int8.toInt32 (Int32.toInt8 xf)), (Int8.toInt32 (Int32.toInt8 xf)), (Int8.toInt32 (Int32.toInt8 xf))]) :: (xee, OA Z .int [((192 : Int32) + (xcp / (64 : Int32))), ((128 : Int32) + (xcp % (64 : Int32))), e2, e3]) :: []) := H117.front 1 rfl
      refine o_callS X113 at_326 (rest := []) (c_atO l Z a0 hw [] n0 _ X113.size xbb (3 : Int32) (0 : Int32) (2 : Int32) xee xf [(Int8.toInt32 (Int32.toInt8 ((192 : Int32) ||| (xcp >>> ((6 : Int32) &&& 31))))), (Int8.toInt32 (Int32.toInt8 ((128 : Int32) ||| (xcp &&& (63 : Int32))))), (Int8.toInt32 (Int32.toInt8 xf)), (Int8.toInt32 (Int32.toInt8 xf)), (Int8.toInt32 (Int32.toInt8 xf)), (Int8.toInt32 (Int32.toInt8 xf)), (Int8.toInt32 (Int32.toInt8 xf)), (Int8.toInt32 (Int32.toInt8 xf))] [((192 : Int32) + (xcp / (64 : Int32))), ((128 : Int32) + (xcp % (64 : Int32))), e2, e3] [] H118 3 rfl (Int8.toInt32 (Int32.toInt8 xf)) rfl (by decide) (v_fill _)) (hw _ (List.mem_of_getElem? (i := 9) rfl)) (hw _ (List.mem_of_getElem? (i := 10) rfl)) (hw _ (List.mem_of_getElem? (i := 11) rfl)) (hw _ (List.mem_of_getElem? (i := 12) rfl)) (by decide) 0 (by decide) (by decide) rfl [(.ref xbb), (.int (3 : Int32)), (.int (0 : Int32)), (.int (2 : Int32)), (.ref xee), (.int xf)] rfl pd_2 rfl rfl (Nat.le_of_eq rfl) 2 12 rfl rfl (by decide) (by decide) 329 rfl ?_
      rintro _ T116 _ X116 ⟨rfl, rfl⟩
      show OE p e room_1 below s n0 Q' T116 (mkF m 329 #[.val (.int xc), .val (.int xi), .val (.int xf), .val (.int xcp), .val (.int (0 : Int32)), .val (.int (Int8.toInt32 (Int32.toInt8 xf))), .val (.ref xbb), .val (.ref xee), .val (.int (2 : Int32)), .val (.int (2 : Int32))] [(.int (1 : Int32))])
      refine o_ifEq X116 at_329 402 332 (by decide) (by decide) rfl (fun q => by exfalso; exact absurd q (by decide)) ?_
      intro hc329
      refine o_aload X116 at_332 rfl rfl 334 rfl ?_
      refine o_iconst (v := (4 : Int32)) X116 at_334 rfl 335 rfl ?_
      refine o_iload X116 at_335 rfl 337 rfl ?_
      refine o_iload X116 at_337 rfl 339 rfl ?_
      refine o_aload X116 at_339 rfl rfl 341 rfl ?_
      refine o_iloadN X116 at_341 rfl 342 rfl ?_
      have H120 : OL n0 h105 ((xee, OA Z .int [((192 : Int32) + (xcp / (64 : Int32))), ((128 : Int32) + (xcp % (64 : Int32))), e2, e3]) :: (xbb, OA Z .byte [(Int8.toInt32 (Int32.toInt8 ((192 : Int32) ||| (xcp >>> ((6 : Int32) &&& 31))))), (Int8.toInt32 (Int32.toInt8 ((128 : Int32) ||| (xcp &&& (63 : Int32))))), (Int8.toInt32 (Int32.toInt8 xf)), (Int8.toInt32 (Int32.toInt8 xf)), (Int8.toInt32 (Int32.toInt8 xf)), (Int8.toInt32 (Int32.toInt8 xf)), (Int8.toInt32 (Int32.toInt8 xf)), (Int8.toInt32 (Int32.toInt8 xf))]) :: []) := H118.front 1 rfl
      have H121 : OL n0 h105 ((xbb, OA Z .byte [(Int8.toInt32 (Int32.toInt8 ((192 : Int32) ||| (xcp >>> ((6 : Int32) &&& 31))))), (Int8.toInt32 (Int32.toInt8 ((128 : Int32) ||| (xcp &&& (63 : Int32))))), (Int8.toInt32 (Int32.toInt8 xf)), (Int8.toInt32 (Int32.toInt8 xf)), (Int8.toInt32 (Int32.toInt8 xf)), (Int8.toInt32 (Int32.toInt8 xf)), (Int8.toInt32 (Int32.toInt8 xf)), (Int8.toInt32 (Int32.toInt8 xf))]) :: (xee, OA Z .int [((192 : Int32) + (xcp / (64 : Int32))), ((128 : Int32) + (xcp % (64 : Int32))), e2, e3]) :: []) := H120.front 1 rfl
      refine o_callS X116 at_342 (rest := []) (c_atO l Z a0 hw [] n0 _ X116.size xbb (4 : Int32) (0 : Int32) (2 : Int32) xee xf [(Int8.toInt32 (Int32.toInt8 ((192 : Int32) ||| (xcp >>> ((6 : Int32) &&& 31))))), (Int8.toInt32 (Int32.toInt8 ((128 : Int32) ||| (xcp &&& (63 : Int32))))), (Int8.toInt32 (Int32.toInt8 xf)), (Int8.toInt32 (Int32.toInt8 xf)), (Int8.toInt32 (Int32.toInt8 xf)), (Int8.toInt32 (Int32.toInt8 xf)), (Int8.toInt32 (Int32.toInt8 xf)), (Int8.toInt32 (Int32.toInt8 xf))] [((192 : Int32) + (xcp / (64 : Int32))), ((128 : Int32) + (xcp % (64 : Int32))), e2, e3] [] H121 4 rfl (Int8.toInt32 (Int32.toInt8 xf)) rfl (by decide) (v_fill _)) (hw _ (List.mem_of_getElem? (i := 9) rfl)) (hw _ (List.mem_of_getElem? (i := 10) rfl)) (hw _ (List.mem_of_getElem? (i := 11) rfl)) (hw _ (List.mem_of_getElem? (i := 12) rfl)) (by decide) 0 (by decide) (by decide) rfl [(.ref xbb), (.int (4 : Int32)), (.int (0 : Int32)), (.int (2 : Int32)), (.ref xee), (.int xf)] rfl pd_2 rfl rfl (Nat.le_of_eq rfl) 2 12 rfl rfl (by decide) (by decide) 345 rfl ?_
      rintro _ T119 _ X119 ⟨rfl, rfl⟩
      show OE p e room_1 below s n0 Q' T119 (mkF m 345 #[.val (.int xc), .val (.int xi), .val (.int xf), .val (.int xcp), .val (.int (0 : Int32)), .val (.int (Int8.toInt32 (Int32.toInt8 xf))), .val (.ref xbb), .val (.ref xee), .val (.int (2 : Int32)), .val (.int (2 : Int32))] [(.int (1 : Int32))])
      refine o_ifEq X119 at_345 402 348 (by decide) (by decide) rfl (fun q => by exfalso; exact absurd q (by decide)) ?_
      intro hc345
      refine o_aload X119 at_348 rfl rfl 350 rfl ?_
      refine o_iconst (v := (5 : Int32)) X119 at_350 rfl 351 rfl ?_
      refine o_iload X119 at_351 rfl 353 rfl ?_
      refine o_iload X119 at_353 rfl 355 rfl ?_
      refine o_aload X119 at_355 rfl rfl 357 rfl ?_
      refine o_iloadN X119 at_357 rfl 358 rfl ?_
      have H123 : OL n0 h105 ((xee, OA Z .int [((192 : Int32) + (xcp / (64 : Int32))), ((128 : Int32) + (xcp % (64 : Int32))), e2, e3]) :: (xbb, OA Z .byte [(Int8.toInt32 (Int32.toInt8 ((192 : Int32) ||| (xcp >>> ((6 : Int32) &&& 31))))), (Int8.toInt32 (Int32.toInt8 ((128 : Int32) ||| (xcp &&& (63 : Int32))))), (Int8.toInt32 (Int32.toInt8 xf)), (Int8.toInt32 (Int32.toInt8 xf)), (Int8.toInt32 (Int32.toInt8 xf)), (Int8.toInt32 (Int32.toInt8 xf)), (Int8.toInt32 (Int32.toInt8 xf)), (Int8.toInt32 (Int32.toInt8 xf))]) :: []) := H121.front 1 rfl
      have H124 : OL n0 h105 ((xbb, OA Z .byte [(Int8.toInt32 (Int32.toInt8 ((192 : Int32) ||| (xcp >>> ((6 : Int32) &&& 31))))), (Int8.toInt32 (Int32.toInt8 ((128 : Int32) ||| (xcp &&& (63 : Int32))))), (Int8.toInt32 (Int32.toInt8 xf)), (Int8.toInt32 (Int32.toInt8 xf)), (Int8.toInt32 (Int32.toInt8 xf)), (Int8.toInt32 (Int32.toInt8 xf)), (Int8.toInt32 (Int32.toInt8 xf)), (Int8.toInt32 (Int32.toInt8 xf))]) :: (xee, OA Z .int [((192 : Int32) + (xcp / (64 : Int32))), ((128 : Int32) + (xcp % (64 : Int32))), e2, e3]) :: []) := H123.front 1 rfl
      refine o_callS X119 at_358 (rest := []) (c_atO l Z a0 hw [] n0 _ X119.size xbb (5 : Int32) (0 : Int32) (2 : Int32) xee xf [(Int8.toInt32 (Int32.toInt8 ((192 : Int32) ||| (xcp >>> ((6 : Int32) &&& 31))))), (Int8.toInt32 (Int32.toInt8 ((128 : Int32) ||| (xcp &&& (63 : Int32))))), (Int8.toInt32 (Int32.toInt8 xf)), (Int8.toInt32 (Int32.toInt8 xf)), (Int8.toInt32 (Int32.toInt8 xf)), (Int8.toInt32 (Int32.toInt8 xf)), (Int8.toInt32 (Int32.toInt8 xf)), (Int8.toInt32 (Int32.toInt8 xf))] [((192 : Int32) + (xcp / (64 : Int32))), ((128 : Int32) + (xcp % (64 : Int32))), e2, e3] [] H124 5 rfl (Int8.toInt32 (Int32.toInt8 xf)) rfl (by decide) (v_fill _)) (hw _ (List.mem_of_getElem? (i := 9) rfl)) (hw _ (List.mem_of_getElem? (i := 10) rfl)) (hw _ (List.mem_of_getElem? (i := 11) rfl)) (hw _ (List.mem_of_getElem? (i := 12) rfl)) (by decide) 0 (by decide) (by decide) rfl [(.ref xbb), (.int (5 : Int32)), (.int (0 : Int32)), (.int (2 : Int32)), (.ref xee), (.int xf)] rfl pd_2 rfl rfl (Nat.le_of_eq rfl) 2 12 rfl rfl (by decide) (by decide) 361 rfl ?_
      rintro _ T122 _ X122 ⟨rfl, rfl⟩
      show OE p e room_1 below s n0 Q' T122 (mkF m 361 #[.val (.int xc), .val (.int xi), .val (.int xf), .val (.int xcp), .val (.int (0 : Int32)), .val (.int (Int8.toInt32 (Int32.toInt8 xf))), .val (.ref xbb), .val (.ref xee), .val (.int (2 : Int32)), .val (.int (2 : Int32))] [(.int (1 : Int32))])
      refine o_ifEq X122 at_361 402 364 (by decide) (by decide) rfl (fun q => by exfalso; exact absurd q (by decide)) ?_
      intro hc361
      refine o_aload X122 at_364 rfl rfl 366 rfl ?_
      refine o_bipush (v := (6 : Int32)) X122 at_366 rfl 368 rfl ?_
      refine o_iload X122 at_368 rfl 370 rfl ?_
      refine o_iload X122 at_370 rfl 372 rfl ?_
      refine o_aload X122 at_372 rfl rfl 374 rfl ?_
      refine o_iloadN X122 at_374 rfl 375 rfl ?_
      have H126 : OL n0 h105 ((xee, OA Z .int [((192 : Int32) + (xcp / (64 : Int32))), ((128 : Int32) + (xcp % (64 : Int32))), e2, e3]) :: (xbb, OA Z .byte [(Int8.toInt32 (Int32.toInt8 ((192 : Int32) ||| (xcp >>> ((6 : Int32) &&& 31))))), (Int8.toInt32 (Int32.toInt8 ((128 : Int32) ||| (xcp &&& (63 : Int32))))), (Int8.toInt32 (Int32.toInt8 xf)), (Int8.toInt32 (Int32.toInt8 xf)), (Int8.toInt32 (Int32.toInt8 xf)), (Int8.toInt32 (Int32.toInt8 xf)), (Int8.toInt32 (Int32.toInt8 xf)), (Int8.toInt32 (Int32.toInt8 xf))]) :: []) := H124.front 1 rfl
      have H127 : OL n0 h105 ((xbb, OA Z .byte [(Int8.toInt32 (Int32.toInt8 ((192 : Int32) ||| (xcp >>> ((6 : Int32) &&& 31))))), (Int8.toInt32 (Int32.toInt8 ((128 : Int32) ||| (xcp &&& (63 : Int32))))), (Int8.toInt32 (Int32.toInt8 xf)), (Int8.toInt32 (Int32.toInt8 xf)), (Int8.toInt32 (Int32.toInt8 xf)), (Int8.toInt32 (Int32.toInt8 xf)), (Int8.toInt32 (Int32.toInt8 xf)), (Int8.toInt32 (Int32.toInt8 xf))]) :: (xee, OA Z .int [((192 : Int32) + (xcp / (64 : Int32))), ((128 : Int32) + (xcp % (64 : Int32))), e2, e3]) :: []) := H126.front 1 rfl
      refine o_callS X122 at_375 (rest := []) (c_atO l Z a0 hw [] n0 _ X122.size xbb (6 : Int32) (0 : Int32) (2 : Int32) xee xf [(Int8.toInt32 (Int32.toInt8 ((192 : Int32) ||| (xcp >>> ((6 : Int32) &&& 31))))), (Int8.toInt32 (Int32.toInt8 ((128 : Int32) ||| (xcp &&& (63 : Int32))))), (Int8.toInt32 (Int32.toInt8 xf)), (Int8.toInt32 (Int32.toInt8 xf)), (Int8.toInt32 (Int32.toInt8 xf)), (Int8.toInt32 (Int32.toInt8 xf)), (Int8.toInt32 (Int32.toInt8 xf)), (Int8.toInt32 (Int32.toInt8 xf))] [((192 : Int32) + (xcp / (64 : Int32))), ((128 : Int32) + (xcp % (64 : Int32))), e2, e3] [] H127 6 rfl (Int8.toInt32 (Int32.toInt8 xf)) rfl (by decide) (v_fill _)) (hw _ (List.mem_of_getElem? (i := 9) rfl)) (hw _ (List.mem_of_getElem? (i := 10) rfl)) (hw _ (List.mem_of_getElem? (i := 11) rfl)) (hw _ (List.mem_of_getElem? (i := 12) rfl)) (by decide) 0 (by decide) (by decide) rfl [(.ref xbb), (.int (6 : Int32)), (.int (0 : Int32)), (.int (2 : Int32)), (.ref xee), (.int xf)] rfl pd_2 rfl rfl (Nat.le_of_eq rfl) 2 12 rfl rfl (by decide) (by decide) 378 rfl ?_
      rintro _ T125 _ X125 ⟨rfl, rfl⟩
      show OE p e room_1 below s n0 Q' T125 (mkF m 378 #[.val (.int xc), .val (.int xi), .val (.int xf), .val (.int xcp), .val (.int (0 : Int32)), .val (.int (Int8.toInt32 (Int32.toInt8 xf))), .val (.ref xbb), .val (.ref xee), .val (.int (2 : Int32)), .val (.int (2 : Int32))] [(.int (1 : Int32))])
      refine o_ifEq X125 at_378 402 381 (by decide) (by decide) rfl (fun q => by exfalso; exact absurd q (by decide)) ?_
      intro hc378
      refine o_aload X125 at_381 rfl rfl 383 rfl ?_
      refine o_bipush (v := (7 : Int32)) X125 at_383 rfl 385 rfl ?_
      refine o_iload X125 at_385 rfl 387 rfl ?_
      refine o_iload X125 at_387 rfl 389 rfl ?_
      refine o_aload X125 at_389 rfl rfl 391 rfl ?_
      refine o_iloadN X125 at_391 rfl 392 rfl ?_
      have H129 : OL n0 h105 ((xee, OA Z .int [((192 : Int32) + (xcp / (64 : Int32))), ((128 : Int32) + (xcp % (64 : Int32))), e2, e3]) :: (xbb, OA Z .byte [(Int8.toInt32 (Int32.toInt8 ((192 : Int32) ||| (xcp >>> ((6 : Int32) &&& 31))))), (Int8.toInt32 (Int32.toInt8 ((128 : Int32) ||| (xcp &&& (63 : Int32))))), (Int8.toInt32 (Int32.toInt8 xf)), (Int8.toInt32 (Int32.toInt8 xf)), (Int8.toInt32 (Int32.toInt8 xf)), (Int8.toInt32 (Int32.toInt8 xf)), (Int8.toInt32 (Int32.toInt8 xf)), (Int8.toInt32 (Int32.toInt8 xf))]) :: []) := H127.front 1 rfl
      have H130 : OL n0 h105 ((xbb, OA Z .byte [(Int8.toInt32 (Int32.toInt8 ((192 : Int32) ||| (xcp >>> ((6 : Int32) &&& 31))))), (Int8.toInt32 (Int32.toInt8 ((128 : Int32) ||| (xcp &&& (63 : Int32))))), (Int8.toInt32 (Int32.toInt8 xf)), (Int8.toInt32 (Int32.toInt8 xf)), (Int8.toInt32 (Int32.toInt8 xf)), (Int8.toInt32 (Int32.toInt8 xf)), (Int8.toInt32 (Int32.toInt8 xf)), (Int8.toInt32 (Int32.toInt8 xf))]) :: (xee, OA Z .int [((192 : Int32) + (xcp / (64 : Int32))), ((128 : Int32) + (xcp % (64 : Int32))), e2, e3]) :: []) := H129.front 1 rfl
      refine o_callS X125 at_392 (rest := []) (c_atO l Z a0 hw [] n0 _ X125.size xbb (7 : Int32) (0 : Int32) (2 : Int32) xee xf [(Int8.toInt32 (Int32.toInt8 ((192 : Int32) ||| (xcp >>> ((6 : Int32) &&& 31))))), (Int8.toInt32 (Int32.toInt8 ((128 : Int32) ||| (xcp &&& (63 : Int32))))), (Int8.toInt32 (Int32.toInt8 xf)), (Int8.toInt32 (Int32.toInt8 xf)), (Int8.toInt32 (Int32.toInt8 xf)), (Int8.toInt32 (Int32.toInt8 xf)), (Int8.toInt32 (Int32.toInt8 xf)), (Int8.toInt32 (Int32.toInt8 xf))] [((192 : Int32) + (xcp / (64 : Int32))), ((128 : Int32) + (xcp % (64 : Int32))), e2, e3] [] H130 7 rfl (Int8.toInt32 (Int32.toInt8 xf)) rfl (by decide) (v_fill _)) (hw _ (List.mem_of_getElem? (i := 9) rfl)) (hw _ (List.mem_of_getElem? (i := 10) rfl)) (hw _ (List.mem_of_getElem? (i := 11) rfl)) (hw _ (List.mem_of_getElem? (i := 12) rfl)) (by decide) 0 (by decide) (by decide) rfl [(.ref xbb), (.int (7 : Int32)), (.int (0 : Int32)), (.int (2 : Int32)), (.ref xee), (.int xf)] rfl pd_2 rfl rfl (Nat.le_of_eq rfl) 2 12 rfl rfl (by decide) (by decide) 395 rfl ?_
      rintro _ T128 _ X128 ⟨rfl, rfl⟩
      show OE p e room_1 below s n0 Q' T128 (mkF m 395 #[.val (.int xc), .val (.int xi), .val (.int xf), .val (.int xcp), .val (.int (0 : Int32)), .val (.int (Int8.toInt32 (Int32.toInt8 xf))), .val (.ref xbb), .val (.ref xee), .val (.int (2 : Int32)), .val (.int (2 : Int32))] [(.int (1 : Int32))])
      refine o_ifEq X128 at_395 402 398 (by decide) (by decide) rfl (fun q => by exfalso; exact absurd q (by decide)) ?_
      intro hc395
      refine o_iconst (v := (1 : Int32)) X128 at_398 rfl 399 rfl ?_
      refine o_goto X128 at_399 403 (by decide) (by decide) ?_
      exact o_retZ X128 at_403 (by decide) (by decide) (hQ _ _ rfl)
    · skip
      refine o_iloadN X_J248 at_248 rfl 249 rfl ?_
      refine o_aload X_J248 at_249 rfl rfl 251 rfl ?_
      refine o_iload X_J248 at_251 rfl 253 rfl ?_
      have H132 : OL n0 h ((xbb, OA Z .byte [(Int8.toInt32 (Int32.toInt8 xf)), (Int8.toInt32 (Int32.toInt8 xf)), (Int8.toInt32 (Int32.toInt8 xf)), (Int8.toInt32 (Int32.toInt8 xf)), (Int8.toInt32 (Int32.toInt8 xf)), (Int8.toInt32 (Int32.toInt8 xf)), (Int8.toInt32 (Int32.toInt8 xf)), (Int8.toInt32 (Int32.toInt8 xf))]) :: (xee, OA Z .int [((192 : Int32) + (xcp / (64 : Int32))), ((128 : Int32) + (xcp % (64 : Int32))), e2, e3]) :: []) := H_J248.front 1 rfl
      refine o_callS X_J248 at_253 (rest := []) (c_enc2 l Z a0 hw [] n0 _ X_J248.size xcp xbb (1 : Int32) [(Int8.toInt32 (Int32.toInt8 xf)), (Int8.toInt32 (Int32.toInt8 xf)), (Int8.toInt32 (Int32.toInt8 xf)), (Int8.toInt32 (Int32.toInt8 xf)), (Int8.toInt32 (Int32.toInt8 xf)), (Int8.toInt32 (Int32.toInt8 xf)), (Int8.toInt32 (Int32.toInt8 xf)), (Int8.toInt32 (Int32.toInt8 xf))] ((xee, OA Z .int [((192 : Int32) + (xcp / (64 : Int32))), ((128 : Int32) + (xcp % (64 : Int32))), e2, e3]) :: []) H132 1 rfl (by show 3 ≤ 8; decide) (by decide) hlo hhi) (hw _ (List.mem_of_getElem? (i := 5) rfl)) (hw _ (List.mem_of_getElem? (i := 6) rfl)) (hw _ (List.mem_of_getElem? (i := 7) rfl)) (hw _ (List.mem_of_getElem? (i := 8) rfl)) (by decide) 0 (by decide) (by decide) rfl [(.int xcp), (.ref xbb), (.int (1 : Int32))] rfl pd_1 rfl rfl (Nat.le_of_eq rfl) 2 12 rfl rfl (by decide) (by decide) 256 rfl ?_
      rintro _ T131 h131 X131 ⟨rfl, H131⟩
      replace H131 : OL n0 h131 ((xbb, OA Z .byte [(Int8.toInt32 (Int32.toInt8 xf)), (Int8.toInt32 (Int32.toInt8 ((192 : Int32) ||| (xcp >>> ((6 : Int32) &&& 31))))), (Int8.toInt32 (Int32.toInt8 ((128 : Int32) ||| (xcp &&& (63 : Int32))))), (Int8.toInt32 (Int32.toInt8 xf)), (Int8.toInt32 (Int32.toInt8 xf)), (Int8.toInt32 (Int32.toInt8 xf)), (Int8.toInt32 (Int32.toInt8 xf)), (Int8.toInt32 (Int32.toInt8 xf))]) :: (xee, OA Z .int [((192 : Int32) + (xcp / (64 : Int32))), ((128 : Int32) + (xcp % (64 : Int32))), e2, e3]) :: []) := H131
      show OE p e room_1 below s n0 Q' T131 (mkF m 256 #[.val (.int xc), .val (.int xi), .val (.int xf), .val (.int xcp), .val (.int (1 : Int32)), .val (.int (Int8.toInt32 (Int32.toInt8 xf))), .val (.ref xbb), .val (.ref xee), .val (.int (2 : Int32)), .unset] [(.int (((1 : Int32) + (1 : Int32)) + (1 : Int32)))])
      refine o_istore X131 at_256 #[.val (.int xc), .val (.int xi), .val (.int xf), .val (.int xcp), .val (.int (1 : Int32)), .val (.int (Int8.toInt32 (Int32.toInt8 xf))), .val (.ref xbb), .val (.ref xee), .val (.int (2 : Int32)), .val (.int (((1 : Int32) + (1 : Int32)) + (1 : Int32)))] rfl 258 rfl ?_
      rw [show (((1 : Int32) + (1 : Int32)) + (1 : Int32)) = (3 : Int32) from rfl]
      refine o_iload X131 at_258 rfl 260 rfl ?_
      refine o_iload X131 at_260 rfl 262 rfl ?_
      refine o_iload X131 at_262 rfl 264 rfl ?_
      refine o_iadd X131 at_264 265 rfl ?_
      refine o_icmpNe X131 at_265 402 268 (by decide) (by decide) rfl (fun q => by exfalso; exact q rfl) ?_
      intro hc265
      refine o_aload X131 at_268 rfl rfl 270 rfl ?_
      refine o_iconst (v := (0 : Int32)) X131 at_270 rfl 271 rfl ?_
      refine o_iload X131 at_271 rfl 273 rfl ?_
      refine o_iload X131 at_273 rfl 275 rfl ?_
      refine o_aload X131 at_275 rfl rfl 277 rfl ?_
      refine o_iloadN X131 at_277 rfl 278 rfl ?_
      have H134 : OL n0 h131 ((xee, OA Z .int [((192 : Int32) + (xcp / (64 : Int32))), ((128 : Int32) + (xcp % (64 : Int32))), e2, e3]) :: (xbb, OA Z .byte [(Int8.toInt32 (Int32.toInt8 xf)), (Int8.toInt32 (Int32.toInt8 ((192 : Int32) ||| (xcp >>> ((6 : Int32) &&& 31))))), (Int8.toInt32 (Int32.toInt8 ((128 : Int32) ||| (xcp &&& (63 : Int32))))), (Int8.toInt32 (Int32.toInt8 xf)), (Int8.toInt32 (Int32.toInt8 xf)), (Int8.toInt32 (Int32.toInt8 xf)), (Int8.toInt32 (Int32.toInt8 xf)), (Int8.toInt32 (Int32.toInt8 xf))]) :: []) := H131.front 1 rfl
      have H135 : OL n0 h131 ((xbb, OA Z .byte [(Int8.toInt32 (Int32.toInt8 xf)), (Int8.toInt32 (Int32.toInt8 ((192 : Int32) ||| (xcp >>> ((6 : Int32) &&& 31))))), (Int8.toInt32 (Int32.toInt8 ((128 : Int32) ||| (xcp &&& (63 : Int32))))), (Int8.toInt32 (Int32.toInt8 xf)), (Int8.toInt32 (Int32.toInt8 xf)), (Int8.toInt32 (Int32.toInt8 xf)), (Int8.toInt32 (Int32.toInt8 xf)), (Int8.toInt32 (Int32.toInt8 xf))]) :: (xee, OA Z .int [((192 : Int32) + (xcp / (64 : Int32))), ((128 : Int32) + (xcp % (64 : Int32))), e2, e3]) :: []) := H134.front 1 rfl
      refine o_callS X131 at_278 (rest := []) (c_atO l Z a0 hw [] n0 _ X131.size xbb (0 : Int32) (1 : Int32) (2 : Int32) xee xf [(Int8.toInt32 (Int32.toInt8 xf)), (Int8.toInt32 (Int32.toInt8 ((192 : Int32) ||| (xcp >>> ((6 : Int32) &&& 31))))), (Int8.toInt32 (Int32.toInt8 ((128 : Int32) ||| (xcp &&& (63 : Int32))))), (Int8.toInt32 (Int32.toInt8 xf)), (Int8.toInt32 (Int32.toInt8 xf)), (Int8.toInt32 (Int32.toInt8 xf)), (Int8.toInt32 (Int32.toInt8 xf)), (Int8.toInt32 (Int32.toInt8 xf))] [((192 : Int32) + (xcp / (64 : Int32))), ((128 : Int32) + (xcp % (64 : Int32))), e2, e3] [] H135 0 rfl (Int8.toInt32 (Int32.toInt8 xf)) rfl (by decide) (v_fill _)) (hw _ (List.mem_of_getElem? (i := 9) rfl)) (hw _ (List.mem_of_getElem? (i := 10) rfl)) (hw _ (List.mem_of_getElem? (i := 11) rfl)) (hw _ (List.mem_of_getElem? (i := 12) rfl)) (by decide) 0 (by decide) (by decide) rfl [(.ref xbb), (.int (0 : Int32)), (.int (1 : Int32)), (.int (2 : Int32)), (.ref xee), (.int xf)] rfl pd_2 rfl rfl (Nat.le_of_eq rfl) 2 12 rfl rfl (by decide) (by decide) 281 rfl ?_
      rintro _ T133 _ X133 ⟨rfl, rfl⟩
      show OE p e room_1 below s n0 Q' T133 (mkF m 281 #[.val (.int xc), .val (.int xi), .val (.int xf), .val (.int xcp), .val (.int (1 : Int32)), .val (.int (Int8.toInt32 (Int32.toInt8 xf))), .val (.ref xbb), .val (.ref xee), .val (.int (2 : Int32)), .val (.int (3 : Int32))] [(.int (1 : Int32))])
      refine o_ifEq X133 at_281 402 284 (by decide) (by decide) rfl (fun q => by exfalso; exact absurd q (by decide)) ?_
      intro hc281
      refine o_aload X133 at_284 rfl rfl 286 rfl ?_
      refine o_iconst (v := (1 : Int32)) X133 at_286 rfl 287 rfl ?_
      refine o_iload X133 at_287 rfl 289 rfl ?_
      refine o_iload X133 at_289 rfl 291 rfl ?_
      refine o_aload X133 at_291 rfl rfl 293 rfl ?_
      refine o_iloadN X133 at_293 rfl 294 rfl ?_
      have H137 : OL n0 h131 ((xee, OA Z .int [((192 : Int32) + (xcp / (64 : Int32))), ((128 : Int32) + (xcp % (64 : Int32))), e2, e3]) :: (xbb, OA Z .byte [(Int8.toInt32 (Int32.toInt8 xf)), (Int8.toInt32 (Int32.toInt8 ((192 : Int32) ||| (xcp >>> ((6 : Int32) &&& 31))))), (Int8.toInt32 (Int32.toInt8 ((128 : Int32) ||| (xcp &&& (63 : Int32))))), (Int8.toInt32 (Int32.toInt8 xf)), (Int8.toInt32 (Int32.toInt8 xf)), (Int8.toInt32 (Int32.toInt8 xf)), (Int8.toInt32 (Int32.toInt8 xf)), (Int8.toInt32 (Int32.toInt8 xf))]) :: []) := H135.front 1 rfl
      have H138 : OL n0 h131 ((xbb, OA Z .byte [(Int8.toInt32 (Int32.toInt8 xf)), (Int8.toInt32 (Int32.toInt8 ((192 : Int32) ||| (xcp >>> ((6 : Int32) &&& 31))))), (Int8.toInt32 (Int32.toInt8 ((128 : Int32) ||| (xcp &&& (63 : Int32))))), (Int8.toInt32 (Int32.toInt8 xf)), (Int8.toInt32 (Int32.toInt8 xf)), (Int8.toInt32 (Int32.toInt8 xf)), (Int8.toInt32 (Int32.toInt8 xf)), (Int8.toInt32 (Int32.toInt8 xf))]) :: (xee, OA Z .int [((192 : Int32) + (xcp / (64 : Int32))), ((128 : Int32) + (xcp % (64 : Int32))), e2, e3]) :: []) := H137.front 1 rfl
      refine o_callS X133 at_294 (rest := []) (c_atI l Z a0 hw [] n0 _ X133.size xbb (1 : Int32) (1 : Int32) (2 : Int32) xee xf [(Int8.toInt32 (Int32.toInt8 xf)), (Int8.toInt32 (Int32.toInt8 ((192 : Int32) ||| (xcp >>> ((6 : Int32) &&& 31))))), (Int8.toInt32 (Int32.toInt8 ((128 : Int32) ||| (xcp &&& (63 : Int32))))), (Int8.toInt32 (Int32.toInt8 xf)), (Int8.toInt32 (Int32.toInt8 xf)), (Int8.toInt32 (Int32.toInt8 xf)), (Int8.toInt32 (Int32.toInt8 xf)), (Int8.toInt32 (Int32.toInt8 xf))] [((192 : Int32) + (xcp / (64 : Int32))), ((128 : Int32) + (xcp % (64 : Int32))), e2, e3] [] H138 1 rfl (Int8.toInt32 (Int32.toInt8 ((192 : Int32) ||| (xcp >>> ((6 : Int32) &&& 31))))) rfl 0 rfl ((192 : Int32) + (xcp / (64 : Int32))) rfl (by decide) (by decide) (v_e20 xcp hlo hhi)) (hw _ (List.mem_of_getElem? (i := 9) rfl)) (hw _ (List.mem_of_getElem? (i := 10) rfl)) (hw _ (List.mem_of_getElem? (i := 11) rfl)) (hw _ (List.mem_of_getElem? (i := 12) rfl)) (by decide) 0 (by decide) (by decide) rfl [(.ref xbb), (.int (1 : Int32)), (.int (1 : Int32)), (.int (2 : Int32)), (.ref xee), (.int xf)] rfl pd_2 rfl rfl (Nat.le_of_eq rfl) 2 12 rfl rfl (by decide) (by decide) 297 rfl ?_
      rintro _ T136 _ X136 ⟨rfl, rfl⟩
      show OE p e room_1 below s n0 Q' T136 (mkF m 297 #[.val (.int xc), .val (.int xi), .val (.int xf), .val (.int xcp), .val (.int (1 : Int32)), .val (.int (Int8.toInt32 (Int32.toInt8 xf))), .val (.ref xbb), .val (.ref xee), .val (.int (2 : Int32)), .val (.int (3 : Int32))] [(.int (1 : Int32))])
      refine o_ifEq X136 at_297 402 300 (by decide) (by decide) rfl (fun q => by exfalso; exact absurd q (by decide)) ?_
      intro hc297
      refine o_aload X136 at_300 rfl rfl 302 rfl ?_
      refine o_iconst (v := (2 : Int32)) X136 at_302 rfl 303 rfl ?_
      refine o_iload X136 at_303 rfl 305 rfl ?_
      refine o_iload X136 at_305 rfl 307 rfl ?_
      refine o_aload X136 at_307 rfl rfl 309 rfl ?_
      refine o_iloadN X136 at_309 rfl 310 rfl ?_
      have H140 : OL n0 h131 ((xee, OA Z .int [((192 : Int32) + (xcp / (64 : Int32))), ((128 : Int32) + (xcp % (64 : Int32))), e2, e3]) :: (xbb, OA Z .byte [(Int8.toInt32 (Int32.toInt8 xf)), (Int8.toInt32 (Int32.toInt8 ((192 : Int32) ||| (xcp >>> ((6 : Int32) &&& 31))))), (Int8.toInt32 (Int32.toInt8 ((128 : Int32) ||| (xcp &&& (63 : Int32))))), (Int8.toInt32 (Int32.toInt8 xf)), (Int8.toInt32 (Int32.toInt8 xf)), (Int8.toInt32 (Int32.toInt8 xf)), (Int8.toInt32 (Int32.toInt8 xf)), (Int8.toInt32 (Int32.toInt8 xf))]) :: []) := H138.front 1 rfl
      have H141 : OL n0 h131 ((xbb, OA Z .byte [(Int8.toInt32 (Int32.toInt8 xf)), (Int8.toInt32 (Int32.toInt8 ((192 : Int32) ||| (xcp >>> ((6 : Int32) &&& 31))))), (Int8.toInt32 (Int32.toInt8 ((128 : Int32) ||| (xcp &&& (63 : Int32))))), (Int8.toInt32 (Int32.toInt8 xf)), (Int8.toInt32 (Int32.toInt8 xf)), (Int8.toInt32 (Int32.toInt8 xf)), (Int8.toInt32 (Int32.toInt8 xf)), (Int8.toInt32 (Int32.toInt8 xf))]) :: (xee, OA Z .int [((192 : Int32) + (xcp / (64 : Int32))), ((128 : Int32) + (xcp % (64 : Int32))), e2, e3]) :: []) := H140.front 1 rfl
      refine o_callS X136 at_310 (rest := []) (c_atI l Z a0 hw [] n0 _ X136.size xbb (2 : Int32) (1 : Int32) (2 : Int32) xee xf [(Int8.toInt32 (Int32.toInt8 xf)), (Int8.toInt32 (Int32.toInt8 ((192 : Int32) ||| (xcp >>> ((6 : Int32) &&& 31))))), (Int8.toInt32 (Int32.toInt8 ((128 : Int32) ||| (xcp &&& (63 : Int32))))), (Int8.toInt32 (Int32.toInt8 xf)), (Int8.toInt32 (Int32.toInt8 xf)), (Int8.toInt32 (Int32.toInt8 xf)), (Int8.toInt32 (Int32.toInt8 xf)), (Int8.toInt32 (Int32.toInt8 xf))] [((192 : Int32) + (xcp / (64 : Int32))), ((128 : Int32) + (xcp % (64 : Int32))), e2, e3] [] H141 2 rfl (Int8.toInt32 (Int32.toInt8 ((128 : Int32) ||| (xcp &&& (63 : Int32))))) rfl 1 rfl ((128 : Int32) + (xcp % (64 : Int32))) rfl (by decide) (by decide) (v_e21 xcp hlo hhi)) (hw _ (List.mem_of_getElem? (i := 9) rfl)) (hw _ (List.mem_of_getElem? (i := 10) rfl)) (hw _ (List.mem_of_getElem? (i := 11) rfl)) (hw _ (List.mem_of_getElem? (i := 12) rfl)) (by decide) 0 (by decide) (by decide) rfl [(.ref xbb), (.int (2 : Int32)), (.int (1 : Int32)), (.int (2 : Int32)), (.ref xee), (.int xf)] rfl pd_2 rfl rfl (Nat.le_of_eq rfl) 2 12 rfl rfl (by decide) (by decide) 313 rfl ?_
      rintro _ T139 _ X139 ⟨rfl, rfl⟩
      show OE p e room_1 below s n0 Q' T139 (mkF m 313 #[.val (.int xc), .val (.int xi), .val (.int xf), .val (.int xcp), .val (.int (1 : Int32)), .val (.int (Int8.toInt32 (Int32.toInt8 xf))), .val (.ref xbb), .val (.ref xee), .val (.int (2 : Int32)), .val (.int (3 : Int32))] [(.int (1 : Int32))])
      refine o_ifEq X139 at_313 402 316 (by decide) (by decide) rfl (fun q => by exfalso; exact absurd q (by decide)) ?_
      intro hc313
      refine o_aload X139 at_316 rfl rfl 318 rfl ?_
      refine o_iconst (v := (3 : Int32)) X139 at_318 rfl 319 rfl ?_
      refine o_iload X139 at_319 rfl 321 rfl ?_
      refine o_iload X139 at_321 rfl 323 rfl ?_
      refine o_aload X139 at_323 rfl rfl 325 rfl ?_
      refine o_iloadN X139 at_325 rfl 326 rfl ?_
      have H143 : OL n0 h131 ((xee, OA Z .int [((192 : Int32) + (xcp / (64 : Int32))), ((128 : Int32) + (xcp % (64 : Int32))), e2, e3]) :: (xbb, OA Z .byte [(Int8.toInt32 (Int32.toInt8 xf)), (Int8.toInt32 (Int32.toInt8 ((192 : Int32) ||| (xcp >>> ((6 : Int32) &&& 31))))), (Int8.toInt32 (Int32.toInt8 ((128 : Int32) ||| (xcp &&& (63 : Int32))))), (Int8.toInt32 (Int32.toInt8 xf)), (Int8.toInt32 (Int32.toInt8 xf)), (Int8.toInt32 (Int32.toInt8 xf)), (Int8.toInt32 (Int32.toInt8 xf)), (Int8.toInt32 (Int32.toInt8 xf))]) :: []) := H141.front 1 rfl
      have H144 : OL n0 h131 ((xbb, OA Z .byte [(Int8.toInt32 (Int32.toInt8 xf)), (Int8.toInt32 (Int32.toInt8 ((192 : Int32) ||| (xcp >>> ((6 : Int32) &&& 31))))), (Int8.toInt32 (Int32.toInt8 ((128 : Int32) ||| (xcp &&& (63 : Int32))))), (Int8.toInt32 (Int32.toInt8 xf)), (Int8.toInt32 (Int32.toInt8 xf)), (Int8.toInt32 (Int32.toInt8 xf)), (Int8.toInt32 (Int32.toInt8 xf)), (Int8.toInt32 (Int32.toInt8 xf))]) :: (xee, OA Z .int [((192 : Int32) + (xcp / (64 : Int32))), ((128 : Int32) + (xcp % (64 : Int32))), e2, e3]) :: []) := H143.front 1 rfl
      refine o_callS X139 at_326 (rest := []) (c_atO l Z a0 hw [] n0 _ X139.size xbb (3 : Int32) (1 : Int32) (2 : Int32) xee xf [(Int8.toInt32 (Int32.toInt8 xf)), (Int8.toInt32 (Int32.toInt8 ((192 : Int32) ||| (xcp >>> ((6 : Int32) &&& 31))))), (Int8.toInt32 (Int32.toInt8 ((128 : Int32) ||| (xcp &&& (63 : Int32))))), (Int8.toInt32 (Int32.toInt8 xf)), (Int8.toInt32 (Int32.toInt8 xf)), (Int8.toInt32 (Int32.toInt8 xf)), (Int8.toInt32 (Int32.toInt8 xf)), (Int8.toInt32 (Int32.toInt8 xf))] [((192 : Int32) + (xcp / (64 : Int32))), ((128 : Int32) + (xcp % (64 : Int32))), e2, e3] [] H144 3 rfl (Int8.toInt32 (Int32.toInt8 xf)) rfl (by decide) (v_fill _)) (hw _ (List.mem_of_getElem? (i := 9) rfl)) (hw _ (List.mem_of_getElem? (i := 10) rfl)) (hw _ (List.mem_of_getElem? (i := 11) rfl)) (hw _ (List.mem_of_getElem? (i := 12) rfl)) (by decide) 0 (by decide) (by decide) rfl [(.ref xbb), (.int (3 : Int32)), (.int (1 : Int32)), (.int (2 : Int32)), (.ref xee), (.int xf)] rfl pd_2 rfl rfl (Nat.le_of_eq rfl) 2 12 rfl rfl (by decide) (by decide) 329 rfl ?_
      rintro _ T142 _ X142 ⟨rfl, rfl⟩
      show OE p e room_1 below s n0 Q' T142 (mkF m 329 #[.val (.int xc), .val (.int xi), .val (.int xf), .val (.int xcp), .val (.int (1 : Int32)), .val (.int (Int8.toInt32 (Int32.toInt8 xf))), .val (.ref xbb), .val (.ref xee), .val (.int (2 : Int32)), .val (.int (3 : Int32))] [(.int (1 : Int32))])
      refine o_ifEq X142 at_329 402 332 (by decide) (by decide) rfl (fun q => by exfalso; exact absurd q (by decide)) ?_
      intro hc329
      refine o_aload X142 at_332 rfl rfl 334 rfl ?_
      refine o_iconst (v := (4 : Int32)) X142 at_334 rfl 335 rfl ?_
      refine o_iload X142 at_335 rfl 337 rfl ?_
      refine o_iload X142 at_337 rfl 339 rfl ?_
      refine o_aload X142 at_339 rfl rfl 341 rfl ?_
      refine o_iloadN X142 at_341 rfl 342 rfl ?_
      have H146 : OL n0 h131 ((xee, OA Z .int [((192 : Int32) + (xcp / (64 : Int32))), ((128 : Int32) + (xcp % (64 : Int32))), e2, e3]) :: (xbb, OA Z .byte [(Int8.toInt32 (Int32.toInt8 xf)), (Int8.toInt32 (Int32.toInt8 ((192 : Int32) ||| (xcp >>> ((6 : Int32) &&& 31))))), (Int8.toInt32 (Int32.toInt8 ((128 : Int32) ||| (xcp &&& (63 : Int32))))), (Int8.toInt32 (Int32.toInt8 xf)), (Int8.toInt32 (Int32.toInt8 xf)), (Int8.toInt32 (Int32.toInt8 xf)), (Int8.toInt32 (Int32.toInt8 xf)), (Int8.toInt32 (Int32.toInt8 xf))]) :: []) := H144.front 1 rfl
      have H147 : OL n0 h131 ((xbb, OA Z .byte [(Int8.toInt32 (Int32.toInt8 xf)), (Int8.toInt32 (Int32.toInt8 ((192 : Int32) ||| (xcp >>> ((6 : Int32) &&& 31))))), (Int8.toInt32 (Int32.toInt8 ((128 : Int32) ||| (xcp &&& (63 : Int32))))), (Int8.toInt32 (Int32.toInt8 xf)), (Int8.toInt32 (Int32.toInt8 xf)), (Int8.toInt32 (Int32.toInt8 xf)), (Int8.toInt32 (Int32.toInt8 xf)), (Int8.toInt32 (Int32.toInt8 xf))]) :: (xee, OA Z .int [((192 : Int32) + (xcp / (64 : Int32))), ((128 : Int32) + (xcp % (64 : Int32))), e2, e3]) :: []) := H146.front 1 rfl
      refine o_callS X142 at_342 (rest := []) (c_atO l Z a0 hw [] n0 _ X142.size xbb (4 : Int32) (1 : Int32) (2 : Int32) xee xf [(Int8.toInt32 (Int32.toInt8 xf)), (Int8.toInt32 (Int32.toInt8 ((192 : Int32) ||| (xcp >>> ((6 : Int32) &&& 31))))), (Int8.toInt32 (Int32.toInt8 ((128 : Int32) ||| (xcp &&& (63 : Int32))))), (Int8.toInt32 (Int32.toInt8 xf)), (Int8.toInt32 (Int32.toInt8 xf)), (Int8.toInt32 (Int32.toInt8 xf)), (Int8.toInt32 (Int32.toInt8 xf)), (Int8.toInt32 (Int32.toInt8 xf))] [((192 : Int32) + (xcp / (64 : Int32))), ((128 : Int32) + (xcp % (64 : Int32))), e2, e3] [] H147 4 rfl (Int8.toInt32 (Int32.toInt8 xf)) rfl (by decide) (v_fill _)) (hw _ (List.mem_of_getElem? (i := 9) rfl)) (hw _ (List.mem_of_getElem? (i := 10) rfl)) (hw _ (List.mem_of_getElem? (i := 11) rfl)) (hw _ (List.mem_of_getElem? (i := 12) rfl)) (by decide) 0 (by decide) (by decide) rfl [(.ref xbb), (.int (4 : Int32)), (.int (1 : Int32)), (.int (2 : Int32)), (.ref xee), (.int xf)] rfl pd_2 rfl rfl (Nat.le_of_eq rfl) 2 12 rfl rfl (by decide) (by decide) 345 rfl ?_
      rintro _ T145 _ X145 ⟨rfl, rfl⟩
      show OE p e room_1 below s n0 Q' T145 (mkF m 345 #[.val (.int xc), .val (.int xi), .val (.int xf), .val (.int xcp), .val (.int (1 : Int32)), .val (.int (Int8.toInt32 (Int32.toInt8 xf))), .val (.ref xbb), .val (.ref xee), .val (.int (2 : Int32)), .val (.int (3 : Int32))] [(.int (1 : Int32))])
      refine o_ifEq X145 at_345 402 348 (by decide) (by decide) rfl (fun q => by exfalso; exact absurd q (by decide)) ?_
      intro hc345
      refine o_aload X145 at_348 rfl rfl 350 rfl ?_
      refine o_iconst (v := (5 : Int32)) X145 at_350 rfl 351 rfl ?_
      refine o_iload X145 at_351 rfl 353 rfl ?_
      refine o_iload X145 at_353 rfl 355 rfl ?_
      refine o_aload X145 at_355 rfl rfl 357 rfl ?_
      refine o_iloadN X145 at_357 rfl 358 rfl ?_
      have H149 : OL n0 h131 ((xee, OA Z .int [((192 : Int32) + (xcp / (64 : Int32))), ((128 : Int32) + (xcp % (64 : Int32))), e2, e3]) :: (xbb, OA Z .byte [(Int8.toInt32 (Int32.toInt8 xf)), (Int8.toInt32 (Int32.toInt8 ((192 : Int32) ||| (xcp >>> ((6 : Int32) &&& 31))))), (Int8.toInt32 (Int32.toInt8 ((128 : Int32) ||| (xcp &&& (63 : Int32))))), (Int8.toInt32 (Int32.toInt8 xf)), (Int8.toInt32 (Int32.toInt8 xf)), (Int8.toInt32 (Int32.toInt8 xf)), (Int8.toInt32 (Int32.toInt8 xf)), (Int8.toInt32 (Int32.toInt8 xf))]) :: []) := H147.front 1 rfl
      have H150 : OL n0 h131 ((xbb, OA Z .byte [(Int8.toInt32 (Int32.toInt8 xf)), (Int8.toInt32 (Int32.toInt8 ((192 : Int32) ||| (xcp >>> ((6 : Int32) &&& 31))))), (Int8.toInt32 (Int32.toInt8 ((128 : Int32) ||| (xcp &&& (63 : Int32))))), (Int8.toInt32 (Int32.toInt8 xf)), (Int8.toInt32 (Int32.toInt8 xf)), (Int8.toInt32 (Int32.toInt8 xf)), (Int8.toInt32 (Int32.toInt8 xf)), (Int8.toInt32 (Int32.toInt8 xf))]) :: (xee, OA Z .int [((192 : Int32) + (xcp / (64 : Int32))), ((128 : Int32) + (xcp % (64 : Int32))), e2, e3]) :: []) := H149.front 1 rfl
      refine o_callS X145 at_358 (rest := []) (c_atO l Z a0 hw [] n0 _ X145.size xbb (5 : Int32) (1 : Int32) (2 : Int32) xee xf [(Int8.toInt32 (Int32.toInt8 xf)), (Int8.toInt32 (Int32.toInt8 ((192 : Int32) ||| (xcp >>> ((6 : Int32) &&& 31))))), (Int8.toInt32 (Int32.toInt8 ((128 : Int32) ||| (xcp &&& (63 : Int32))))), (Int8.toInt32 (Int32.toInt8 xf)), (Int8.toInt32 (Int32.toInt8 xf)), (Int8.toInt32 (Int32.toInt8 xf)), (Int8.toInt32 (Int32.toInt8 xf)), (Int8.toInt32 (Int32.toInt8 xf))] [((192 : Int32) + (xcp / (64 : Int32))), ((128 : Int32) + (xcp % (64 : Int32))), e2, e3] [] H150 5 rfl (Int8.toInt32 (Int32.toInt8 xf)) rfl (by decide) (v_fill _)) (hw _ (List.mem_of_getElem? (i := 9) rfl)) (hw _ (List.mem_of_getElem? (i := 10) rfl)) (hw _ (List.mem_of_getElem? (i := 11) rfl)) (hw _ (List.mem_of_getElem? (i := 12) rfl)) (by decide) 0 (by decide) (by decide) rfl [(.ref xbb), (.int (5 : Int32)), (.int (1 : Int32)), (.int (2 : Int32)), (.ref xee), (.int xf)] rfl pd_2 rfl rfl (Nat.le_of_eq rfl) 2 12 rfl rfl (by decide) (by decide) 361 rfl ?_
      rintro _ T148 _ X148 ⟨rfl, rfl⟩
      show OE p e room_1 below s n0 Q' T148 (mkF m 361 #[.val (.int xc), .val (.int xi), .val (.int xf), .val (.int xcp), .val (.int (1 : Int32)), .val (.int (Int8.toInt32 (Int32.toInt8 xf))), .val (.ref xbb), .val (.ref xee), .val (.int (2 : Int32)), .val (.int (3 : Int32))] [(.int (1 : Int32))])
      refine o_ifEq X148 at_361 402 364 (by decide) (by decide) rfl (fun q => by exfalso; exact absurd q (by decide)) ?_
      intro hc361
      refine o_aload X148 at_364 rfl rfl 366 rfl ?_
      refine o_bipush (v := (6 : Int32)) X148 at_366 rfl 368 rfl ?_
      refine o_iload X148 at_368 rfl 370 rfl ?_
      refine o_iload X148 at_370 rfl 372 rfl ?_
      refine o_aload X148 at_372 rfl rfl 374 rfl ?_
      refine o_iloadN X148 at_374 rfl 375 rfl ?_
      have H152 : OL n0 h131 ((xee, OA Z .int [((192 : Int32) + (xcp / (64 : Int32))), ((128 : Int32) + (xcp % (64 : Int32))), e2, e3]) :: (xbb, OA Z .byte [(Int8.toInt32 (Int32.toInt8 xf)), (Int8.toInt32 (Int32.toInt8 ((192 : Int32) ||| (xcp >>> ((6 : Int32) &&& 31))))), (Int8.toInt32 (Int32.toInt8 ((128 : Int32) ||| (xcp &&& (63 : Int32))))), (Int8.toInt32 (Int32.toInt8 xf)), (Int8.toInt32 (Int32.toInt8 xf)), (Int8.toInt32 (Int32.toInt8 xf)), (Int8.toInt32 (Int32.toInt8 xf)), (Int8.toInt32 (Int32.toInt8 xf))]) :: []) := H150.front 1 rfl
      have H153 : OL n0 h131 ((xbb, OA Z .byte [(Int8.toInt32 (Int32.toInt8 xf)), (Int8.toInt32 (Int32.toInt8 ((192 : Int32) ||| (xcp >>> ((6 : Int32) &&& 31))))), (Int8.toInt32 (Int32.toInt8 ((128 : Int32) ||| (xcp &&& (63 : Int32))))), (Int8.toInt32 (Int32.toInt8 xf)), (Int8.toInt32 (Int32.toInt8 xf)), (Int8.toInt32 (Int32.toInt8 xf)), (Int8.toInt32 (Int32.toInt8 xf)), (Int8.toInt32 (Int32.toInt8 xf))]) :: (xee, OA Z .int [((192 : Int32) + (xcp / (64 : Int32))), ((128 : Int32) + (xcp % (64 : Int32))), e2, e3]) :: []) := H152.front 1 rfl
      refine o_callS X148 at_375 (rest := []) (c_atO l Z a0 hw [] n0 _ X148.size xbb (6 : Int32) (1 : Int32) (2 : Int32) xee xf [(Int8.toInt32 (Int32.toInt8 xf)), (Int8.toInt32 (Int32.toInt8 ((192 : Int32) ||| (xcp >>> ((6 : Int32) &&& 31))))), (Int8.toInt32 (Int32.toInt8 ((128 : Int32) ||| (xcp &&& (63 : Int32))))), (Int8.toInt32 (Int32.toInt8 xf)), (Int8.toInt32 (Int32.toInt8 xf)), (Int8.toInt32 (Int32.toInt8 xf)), (Int8.toInt32 (Int32.toInt8 xf)), (Int8.toInt32 (Int32.toInt8 xf))] [((192 : Int32) + (xcp / (64 : Int32))), ((128 : Int32) + (xcp % (64 : Int32))), e2, e3] [] H153 6 rfl (Int8.toInt32 (Int32.toInt8 xf)) rfl (by decide) (v_fill _)) (hw _ (List.mem_of_getElem? (i := 9) rfl)) (hw _ (List.mem_of_getElem? (i := 10) rfl)) (hw _ (List.mem_of_getElem? (i := 11) rfl)) (hw _ (List.mem_of_getElem? (i := 12) rfl)) (by decide) 0 (by decide) (by decide) rfl [(.ref xbb), (.int (6 : Int32)), (.int (1 : Int32)), (.int (2 : Int32)), (.ref xee), (.int xf)] rfl pd_2 rfl rfl (Nat.le_of_eq rfl) 2 12 rfl rfl (by decide) (by decide) 378 rfl ?_
      rintro _ T151 _ X151 ⟨rfl, rfl⟩
      show OE p e room_1 below s n0 Q' T151 (mkF m 378 #[.val (.int xc), .val (.int xi), .val (.int xf), .val (.int xcp), .val (.int (1 : Int32)), .val (.int (Int8.toInt32 (Int32.toInt8 xf))), .val (.ref xbb), .val (.ref xee), .val (.int (2 : Int32)), .val (.int (3 : Int32))] [(.int (1 : Int32))])
      refine o_ifEq X151 at_378 402 381 (by decide) (by decide) rfl (fun q => by exfalso; exact absurd q (by decide)) ?_
      intro hc378
      refine o_aload X151 at_381 rfl rfl 383 rfl ?_
      refine o_bipush (v := (7 : Int32)) X151 at_383 rfl 385 rfl ?_
      refine o_iload X151 at_385 rfl 387 rfl ?_
      refine o_iload X151 at_387 rfl 389 rfl ?_
      refine o_aload X151 at_389 rfl rfl 391 rfl ?_
      refine o_iloadN X151 at_391 rfl 392 rfl ?_
      have H155 : OL n0 h131 ((xee, OA Z .int [((192 : Int32) + (xcp / (64 : Int32))), ((128 : Int32) + (xcp % (64 : Int32))), e2, e3]) :: (xbb, OA Z .byte [(Int8.toInt32 (Int32.toInt8 xf)), (Int8.toInt32 (Int32.toInt8 ((192 : Int32) ||| (xcp >>> ((6 : Int32) &&& 31))))), (Int8.toInt32 (Int32.toInt8 ((128 : Int32) ||| (xcp &&& (63 : Int32))))), (Int8.toInt32 (Int32.toInt8 xf)), (Int8.toInt32 (Int32.toInt8 xf)), (Int8.toInt32 (Int32.toInt8 xf)), (Int8.toInt32 (Int32.toInt8 xf)), (Int8.toInt32 (Int32.toInt8 xf))]) :: []) := H153.front 1 rfl
      have H156 : OL n0 h131 ((xbb, OA Z .byte [(Int8.toInt32 (Int32.toInt8 xf)), (Int8.toInt32 (Int32.toInt8 ((192 : Int32) ||| (xcp >>> ((6 : Int32) &&& 31))))), (Int8.toInt32 (Int32.toInt8 ((128 : Int32) ||| (xcp &&& (63 : Int32))))), (Int8.toInt32 (Int32.toInt8 xf)), (Int8.toInt32 (Int32.toInt8 xf)), (Int8.toInt32 (Int32.toInt8 xf)), (Int8.toInt32 (Int32.toInt8 xf)), (Int8.toInt32 (Int32.toInt8 xf))]) :: (xee, OA Z .int [((192 : Int32) + (xcp / (64 : Int32))), ((128 : Int32) + (xcp % (64 : Int32))), e2, e3]) :: []) := H155.front 1 rfl
      refine o_callS X151 at_392 (rest := []) (c_atO l Z a0 hw [] n0 _ X151.size xbb (7 : Int32) (1 : Int32) (2 : Int32) xee xf [(Int8.toInt32 (Int32.toInt8 xf)), (Int8.toInt32 (Int32.toInt8 ((192 : Int32) ||| (xcp >>> ((6 : Int32) &&& 31))))), (Int8.toInt32 (Int32.toInt8 ((128 : Int32) ||| (xcp &&& (63 : Int32))))), (Int8.toInt32 (Int32.toInt8 xf)), (Int8.toInt32 (Int32.toInt8 xf)), (Int8.toInt32 (Int32.toInt8 xf)), (Int8.toInt32 (Int32.toInt8 xf)), (Int8.toInt32 (Int32.toInt8 xf))] [((192 : Int32) + (xcp / (64 : Int32))), ((128 : Int32) + (xcp % (64 : Int32))), e2, e3] [] H156 7 rfl (Int8.toInt32 (Int32.toInt8 xf)) rfl (by decide) (v_fill _)) (hw _ (List.mem_of_getElem? (i := 9) rfl)) (hw _ (List.mem_of_getElem? (i := 10) rfl)) (hw _ (List.mem_of_getElem? (i := 11) rfl)) (hw _ (List.mem_of_getElem? (i := 12) rfl)) (by decide) 0 (by decide) (by decide) rfl [(.ref xbb), (.int (7 : Int32)), (.int (1 : Int32)), (.int (2 : Int32)), (.ref xee), (.int xf)] rfl pd_2 rfl rfl (Nat.le_of_eq rfl) 2 12 rfl rfl (by decide) (by decide) 395 rfl ?_
      rintro _ T154 _ X154 ⟨rfl, rfl⟩
      show OE p e room_1 below s n0 Q' T154 (mkF m 395 #[.val (.int xc), .val (.int xi), .val (.int xf), .val (.int xcp), .val (.int (1 : Int32)), .val (.int (Int8.toInt32 (Int32.toInt8 xf))), .val (.ref xbb), .val (.ref xee), .val (.int (2 : Int32)), .val (.int (3 : Int32))] [(.int (1 : Int32))])
      refine o_ifEq X154 at_395 402 398 (by decide) (by decide) rfl (fun q => by exfalso; exact absurd q (by decide)) ?_
      intro hc395
      refine o_iconst (v := (1 : Int32)) X154 at_398 rfl 399 rfl ?_
      refine o_goto X154 at_399 403 (by decide) (by decide) ?_
      exact o_retZ X154 at_403 (by decide) (by decide) (hQ _ _ rfl)
    · skip
      refine o_iloadN X_J248 at_248 rfl 249 rfl ?_
      refine o_aload X_J248 at_249 rfl rfl 251 rfl ?_
      refine o_iload X_J248 at_251 rfl 253 rfl ?_
      have H158 : OL n0 h ((xbb, OA Z .byte [(Int8.toInt32 (Int32.toInt8 xf)), (Int8.toInt32 (Int32.toInt8 xf)), (Int8.toInt32 (Int32.toInt8 xf)), (Int8.toInt32 (Int32.toInt8 xf)), (Int8.toInt32 (Int32.toInt8 xf)), (Int8.toInt32 (Int32.toInt8 xf)), (Int8.toInt32 (Int32.toInt8 xf)), (Int8.toInt32 (Int32.toInt8 xf))]) :: (xee, OA Z .int [((192 : Int32) + (xcp / (64 : Int32))), ((128 : Int32) + (xcp % (64 : Int32))), e2, e3]) :: []) := H_J248.front 1 rfl
      refine o_callS X_J248 at_253 (rest := []) (c_enc2 l Z a0 hw [] n0 _ X_J248.size xcp xbb (2 : Int32) [(Int8.toInt32 (Int32.toInt8 xf)), (Int8.toInt32 (Int32.toInt8 xf)), (Int8.toInt32 (Int32.toInt8 xf)), (Int8.toInt32 (Int32.toInt8 xf)), (Int8.toInt32 (Int32.toInt8 xf)), (Int8.toInt32 (Int32.toInt8 xf)), (Int8.toInt32 (Int32.toInt8 xf)), (Int8.toInt32 (Int32.toInt8 xf))] ((xee, OA Z .int [((192 : Int32) + (xcp / (64 : Int32))), ((128 : Int32) + (xcp % (64 : Int32))), e2, e3]) :: []) H158 2 rfl (by show 4 ≤ 8; decide) (by decide) hlo hhi) (hw _ (List.mem_of_getElem? (i := 5) rfl)) (hw _ (List.mem_of_getElem? (i := 6) rfl)) (hw _ (List.mem_of_getElem? (i := 7) rfl)) (hw _ (List.mem_of_getElem? (i := 8) rfl)) (by decide) 0 (by decide) (by decide) rfl [(.int xcp), (.ref xbb), (.int (2 : Int32))] rfl pd_1 rfl rfl (Nat.le_of_eq rfl) 2 12 rfl rfl (by decide) (by decide) 256 rfl ?_
      rintro _ T157 h157 X157 ⟨rfl, H157⟩
      replace H157 : OL n0 h157 ((xbb, OA Z .byte [(Int8.toInt32 (Int32.toInt8 xf)), (Int8.toInt32 (Int32.toInt8 xf)), (Int8.toInt32 (Int32.toInt8 ((192 : Int32) ||| (xcp >>> ((6 : Int32) &&& 31))))), (Int8.toInt32 (Int32.toInt8 ((128 : Int32) ||| (xcp &&& (63 : Int32))))), (Int8.toInt32 (Int32.toInt8 xf)), (Int8.toInt32 (Int32.toInt8 xf)), (Int8.toInt32 (Int32.toInt8 xf)), (Int8.toInt32 (Int32.toInt8 xf))]) :: (xee, OA Z .int [((192 : Int32) + (xcp / (64 : Int32))), ((128 : Int32) + (xcp % (64 : Int32))), e2, e3]) :: []) := H157
      show OE p e room_1 below s n0 Q' T157 (mkF m 256 #[.val (.int xc), .val (.int xi), .val (.int xf), .val (.int xcp), .val (.int (2 : Int32)), .val (.int (Int8.toInt32 (Int32.toInt8 xf))), .val (.ref xbb), .val (.ref xee), .val (.int (2 : Int32)), .unset] [(.int (((2 : Int32) + (1 : Int32)) + (1 : Int32)))])
      refine o_istore X157 at_256 #[.val (.int xc), .val (.int xi), .val (.int xf), .val (.int xcp), .val (.int (2 : Int32)), .val (.int (Int8.toInt32 (Int32.toInt8 xf))), .val (.ref xbb), .val (.ref xee), .val (.int (2 : Int32)), .val (.int (((2 : Int32) + (1 : Int32)) + (1 : Int32)))] rfl 258 rfl ?_
      rw [show (((2 : Int32) + (1 : Int32)) + (1 : Int32)) = (4 : Int32) from rfl]
      refine o_iload X157 at_258 rfl 260 rfl ?_
      refine o_iload X157 at_260 rfl 262 rfl ?_
      refine o_iload X157 at_262 rfl 264 rfl ?_
      refine o_iadd X157 at_264 265 rfl ?_
      refine o_icmpNe X157 at_265 402 268 (by decide) (by decide) rfl (fun q => by exfalso; exact q rfl) ?_
      intro hc265
      refine o_aload X157 at_268 rfl rfl 270 rfl ?_
      refine o_iconst (v := (0 : Int32)) X157 at_270 rfl 271 rfl ?_
      refine o_iload X157 at_271 rfl 273 rfl ?_
      refine o_iload X157 at_273 rfl 275 rfl ?_
      refine o_aload X157 at_275 rfl rfl 277 rfl ?_
      refine o_iloadN X157 at_277 rfl 278 rfl ?_
      have H160 : OL n0 h157 ((xee, OA Z .int [((192 : Int32) + (xcp / (64 : Int32))), ((128 : Int32) + (xcp % (64 : Int32))), e2, e3]) :: (xbb, OA Z .byte [(Int8.toInt32 (Int32.toInt8 xf)), (Int8.toInt32 (Int32.toInt8 xf)), (Int8.toInt32 (Int32.toInt8 ((192 : Int32) ||| (xcp >>> ((6 : Int32) &&& 31))))), (Int8.toInt32 (Int32.toInt8 ((128 : Int32) ||| (xcp &&& (63 : Int32))))), (Int8.toInt32 (Int32.toInt8 xf)), (Int8.toInt32 (Int32.toInt8 xf)), (Int8.toInt32 (Int32.toInt8 xf)), (Int8.toInt32 (Int32.toInt8 xf))]) :: []) := H157.front 1 rfl
      have H161 : OL n0 h157 ((xbb, OA Z .byte [(Int8.toInt32 (Int32.toInt8 xf)), (Int8.toInt32 (Int32.toInt8 xf)), (Int8.toInt32 (Int32.toInt8 ((192 : Int32) ||| (xcp >>> ((6 : Int32) &&& 31))))), (Int8.toInt32 (Int32.toInt8 ((128 : Int32) ||| (xcp &&& (63 : Int32))))), (Int8.toInt32 (Int32.toInt8 xf)), (Int8.toInt32 (Int32.toInt8 xf)), (Int8.toInt32 (Int32.toInt8 xf)), (Int8.toInt32 (Int32.toInt8 xf))]) :: (xee, OA Z .int [((192 : Int32) + (xcp / (64 : Int32))), ((128 : Int32) + (xcp % (64 : Int32))), e2, e3]) :: []) := H160.front 1 rfl
      refine o_callS X157 at_278 (rest := []) (c_atO l Z a0 hw [] n0 _ X157.size xbb (0 : Int32) (2 : Int32) (2 : Int32) xee xf [(Int8.toInt32 (Int32.toInt8 xf)), (Int8.toInt32 (Int32.toInt8 xf)), (Int8.toInt32 (Int32.toInt8 ((192 : Int32) ||| (xcp >>> ((6 : Int32) &&& 31))))), (Int8.toInt32 (Int32.toInt8 ((128 : Int32) ||| (xcp &&& (63 : Int32))))), (Int8.toInt32 (Int32.toInt8 xf)), (Int8.toInt32 (Int32.toInt8 xf)), (Int8.toInt32 (Int32.toInt8 xf)), (Int8.toInt32 (Int32.toInt8 xf))] [((192 : Int32) + (xcp / (64 : Int32))), ((128 : Int32) + (xcp % (64 : Int32))), e2, e3] [] H161 0 rfl (Int8.toInt32 (Int32.toInt8 xf)) rfl (by decide) (v_fill _)) (hw _ (List.mem_of_getElem? (i := 9) rfl)) (hw _ (List.mem_of_getElem? (i := 10) rfl)) (hw _ (List.mem_of_getElem? (i := 11) rfl)) (hw _ (List.mem_of_getElem? (i := 12) rfl)) (by decide) 0 (by decide) (by decide) rfl [(.ref xbb), (.int (0 : Int32)), (.int (2 : Int32)), (.int (2 : Int32)), (.ref xee), (.int xf)] rfl pd_2 rfl rfl (Nat.le_of_eq rfl) 2 12 rfl rfl (by decide) (by decide) 281 rfl ?_
      rintro _ T159 _ X159 ⟨rfl, rfl⟩
      show OE p e room_1 below s n0 Q' T159 (mkF m 281 #[.val (.int xc), .val (.int xi), .val (.int xf), .val (.int xcp), .val (.int (2 : Int32)), .val (.int (Int8.toInt32 (Int32.toInt8 xf))), .val (.ref xbb), .val (.ref xee), .val (.int (2 : Int32)), .val (.int (4 : Int32))] [(.int (1 : Int32))])
      refine o_ifEq X159 at_281 402 284 (by decide) (by decide) rfl (fun q => by exfalso; exact absurd q (by decide)) ?_
      intro hc281
      refine o_aload X159 at_284 rfl rfl 286 rfl ?_
      refine o_iconst (v := (1 : Int32)) X159 at_286 rfl 287 rfl ?_
      refine o_iload X159 at_287 rfl 289 rfl ?_
      refine o_iload X159 at_289 rfl 291 rfl ?_
      refine o_aload X159 at_291 rfl rfl 293 rfl ?_
      refine o_iloadN X159 at_293 rfl 294 rfl ?_
      have H163 : OL n0 h157 ((xee, OA Z .int [((192 : Int32) + (xcp / (64 : Int32))), ((128 : Int32) + (xcp % (64 : Int32))), e2, e3]) :: (xbb, OA Z .byte [(Int8.toInt32 (Int32.toInt8 xf)), (Int8.toInt32 (Int32.toInt8 xf)), (Int8.toInt32 (Int32.toInt8 ((192 : Int32) ||| (xcp >>> ((6 : Int32) &&& 31))))), (Int8.toInt32 (Int32.toInt8 ((128 : Int32) ||| (xcp &&& (63 : Int32))))), (Int8.toInt32 (Int32.toInt8 xf)), (Int8.toInt32 (Int32.toInt8 xf)), (Int8.toInt32 (Int32.toInt8 xf)), (Int8.toInt32 (Int32.toInt8 xf))]) :: []) := H161.front 1 rfl
      have H164 : OL n0 h157 ((xbb, OA Z .byte [(Int8.toInt32 (Int32.toInt8 xf)), (Int8.toInt32 (Int32.toInt8 xf)), (Int8.toInt32 (Int32.toInt8 ((192 : Int32) ||| (xcp >>> ((6 : Int32) &&& 31))))), (Int8.toInt32 (Int32.toInt8 ((128 : Int32) ||| (xcp &&& (63 : Int32))))), (Int8.toInt32 (Int32.toInt8 xf)), (Int8.toInt32 (Int32.toInt8 xf)), (Int8.toInt32 (Int32.toInt8 xf)), (Int8.toInt32 (Int32.toInt8 xf))]) :: (xee, OA Z .int [((192 : Int32) + (xcp / (64 : Int32))), ((128 : Int32) + (xcp % (64 : Int32))), e2, e3]) :: []) := H163.front 1 rfl
      refine o_callS X159 at_294 (rest := []) (c_atO l Z a0 hw [] n0 _ X159.size xbb (1 : Int32) (2 : Int32) (2 : Int32) xee xf [(Int8.toInt32 (Int32.toInt8 xf)), (Int8.toInt32 (Int32.toInt8 xf)), (Int8.toInt32 (Int32.toInt8 ((192 : Int32) ||| (xcp >>> ((6 : Int32) &&& 31))))), (Int8.toInt32 (Int32.toInt8 ((128 : Int32) ||| (xcp &&& (63 : Int32))))), (Int8.toInt32 (Int32.toInt8 xf)), (Int8.toInt32 (Int32.toInt8 xf)), (Int8.toInt32 (Int32.toInt8 xf)), (Int8.toInt32 (Int32.toInt8 xf))] [((192 : Int32) + (xcp / (64 : Int32))), ((128 : Int32) + (xcp % (64 : Int32))), e2, e3] [] H164 1 rfl (Int8.toInt32 (Int32.toInt8 xf)) rfl (by decide) (v_fill _)) (hw _ (List.mem_of_getElem? (i := 9) rfl)) (hw _ (List.mem_of_getElem? (i := 10) rfl)) (hw _ (List.mem_of_getElem? (i := 11) rfl)) (hw _ (List.mem_of_getElem? (i := 12) rfl)) (by decide) 0 (by decide) (by decide) rfl [(.ref xbb), (.int (1 : Int32)), (.int (2 : Int32)), (.int (2 : Int32)), (.ref xee), (.int xf)] rfl pd_2 rfl rfl (Nat.le_of_eq rfl) 2 12 rfl rfl (by decide) (by decide) 297 rfl ?_
      rintro _ T162 _ X162 ⟨rfl, rfl⟩
      show OE p e room_1 below s n0 Q' T162 (mkF m 297 #[.val (.int xc), .val (.int xi), .val (.int xf), .val (.int xcp), .val (.int (2 : Int32)), .val (.int (Int8.toInt32 (Int32.toInt8 xf))), .val (.ref xbb), .val (.ref xee), .val (.int (2 : Int32)), .val (.int (4 : Int32))] [(.int (1 : Int32))])
      refine o_ifEq X162 at_297 402 300 (by decide) (by decide) rfl (fun q => by exfalso; exact absurd q (by decide)) ?_
      intro hc297
      refine o_aload X162 at_300 rfl rfl 302 rfl ?_
      refine o_iconst (v := (2 : Int32)) X162 at_302 rfl 303 rfl ?_
      refine o_iload X162 at_303 rfl 305 rfl ?_
      refine o_iload X162 at_305 rfl 307 rfl ?_
      refine o_aload X162 at_307 rfl rfl 309 rfl ?_
      refine o_iloadN X162 at_309 rfl 310 rfl ?_
      have H166 : OL n0 h157 ((xee, OA Z .int [((192 : Int32) + (xcp / (64 : Int32))), ((128 : Int32) + (xcp % (64 : Int32))), e2, e3]) :: (xbb, OA Z .byte [(Int8.toInt32 (Int32.toInt8 xf)), (Int8.toInt32 (Int32.toInt8 xf)), (Int8.toInt32 (Int32.toInt8 ((192 : Int32) ||| (xcp >>> ((6 : Int32) &&& 31))))), (Int8.toInt32 (Int32.toInt8 ((128 : Int32) ||| (xcp &&& (63 : Int32))))), (Int8.toInt32 (Int32.toInt8 xf)), (Int8.toInt32 (Int32.toInt8 xf)), (Int8.toInt32 (Int32.toInt8 xf)), (Int8.toInt32 (Int32.toInt8 xf))]) :: []) := H164.front 1 rfl
      have H167 : OL n0 h157 ((xbb, OA Z .byte [(Int8.toInt32 (Int32.toInt8 xf)), (Int8.toInt32 (Int32.toInt8 xf)), (Int8.toInt32 (Int32.toInt8 ((192 : Int32) ||| (xcp >>> ((6 : Int32) &&& 31))))), (Int8.toInt32 (Int32.toInt8 ((128 : Int32) ||| (xcp &&& (63 : Int32))))), (Int8.toInt32 (Int32.toInt8 xf)), (Int8.toInt32 (Int32.toInt8 xf)), (Int8.toInt32 (Int32.toInt8 xf)), (Int8.toInt32 (Int32.toInt8 xf))]) :: (xee, OA Z .int [((192 : Int32) + (xcp / (64 : Int32))), ((128 : Int32) + (xcp % (64 : Int32))), e2, e3]) :: []) := H166.front 1 rfl
      refine o_callS X162 at_310 (rest := []) (c_atI l Z a0 hw [] n0 _ X162.size xbb (2 : Int32) (2 : Int32) (2 : Int32) xee xf [(Int8.toInt32 (Int32.toInt8 xf)), (Int8.toInt32 (Int32.toInt8 xf)), (Int8.toInt32 (Int32.toInt8 ((192 : Int32) ||| (xcp >>> ((6 : Int32) &&& 31))))), (Int8.toInt32 (Int32.toInt8 ((128 : Int32) ||| (xcp &&& (63 : Int32))))), (Int8.toInt32 (Int32.toInt8 xf)), (Int8.toInt32 (Int32.toInt8 xf)), (Int8.toInt32 (Int32.toInt8 xf)), (Int8.toInt32 (Int32.toInt8 xf))] [((192 : Int32) + (xcp / (64 : Int32))), ((128 : Int32) + (xcp % (64 : Int32))), e2, e3] [] H167 2 rfl (Int8.toInt32 (Int32.toInt8 ((192 : Int32) ||| (xcp >>> ((6 : Int32) &&& 31))))) rfl 0 rfl ((192 : Int32) + (xcp / (64 : Int32))) rfl (by decide) (by decide) (v_e20 xcp hlo hhi)) (hw _ (List.mem_of_getElem? (i := 9) rfl)) (hw _ (List.mem_of_getElem? (i := 10) rfl)) (hw _ (List.mem_of_getElem? (i := 11) rfl)) (hw _ (List.mem_of_getElem? (i := 12) rfl)) (by decide) 0 (by decide) (by decide) rfl [(.ref xbb), (.int (2 : Int32)), (.int (2 : Int32)), (.int (2 : Int32)), (.ref xee), (.int xf)] rfl pd_2 rfl rfl (Nat.le_of_eq rfl) 2 12 rfl rfl (by decide) (by decide) 313 rfl ?_
      rintro _ T165 _ X165 ⟨rfl, rfl⟩
      show OE p e room_1 below s n0 Q' T165 (mkF m 313 #[.val (.int xc), .val (.int xi), .val (.int xf), .val (.int xcp), .val (.int (2 : Int32)), .val (.int (Int8.toInt32 (Int32.toInt8 xf))), .val (.ref xbb), .val (.ref xee), .val (.int (2 : Int32)), .val (.int (4 : Int32))] [(.int (1 : Int32))])
      refine o_ifEq X165 at_313 402 316 (by decide) (by decide) rfl (fun q => by exfalso; exact absurd q (by decide)) ?_
      intro hc313
      refine o_aload X165 at_316 rfl rfl 318 rfl ?_
      refine o_iconst (v := (3 : Int32)) X165 at_318 rfl 319 rfl ?_
      refine o_iload X165 at_319 rfl 321 rfl ?_
      refine o_iload X165 at_321 rfl 323 rfl ?_
      refine o_aload X165 at_323 rfl rfl 325 rfl ?_
      refine o_iloadN X165 at_325 rfl 326 rfl ?_
      have H169 : OL n0 h157 ((xee, OA Z .int [((192 : Int32) + (xcp / (64 : Int32))), ((128 : Int32) + (xcp % (64 : Int32))), e2, e3]) :: (xbb, OA Z .byte [(Int8.toInt32 (Int32.toInt8 xf)), (Int8.toInt32 (Int32.toInt8 xf)), (Int8.toInt32 (Int32.toInt8 ((192 : Int32) ||| (xcp >>> ((6 : Int32) &&& 31))))), (Int8.toInt32 (Int32.toInt8 ((128 : Int32) ||| (xcp &&& (63 : Int32))))), (Int8.toInt32 (Int32.toInt8 xf)), (Int8.toInt32 (Int32.toInt8 xf)), (Int8.toInt32 (Int32.toInt8 xf)), (Int8.toInt32 (Int32.toInt8 xf))]) :: []) := H167.front 1 rfl
      have H170 : OL n0 h157 ((xbb, OA Z .byte [(Int8.toInt32 (Int32.toInt8 xf)), (Int8.toInt32 (Int32.toInt8 xf)), (Int8.toInt32 (Int32.toInt8 ((192 : Int32) ||| (xcp >>> ((6 : Int32) &&& 31))))), (Int8.toInt32 (Int32.toInt8 ((128 : Int32) ||| (xcp &&& (63 : Int32))))), (Int8.toInt32 (Int32.toInt8 xf)), (Int8.toInt32 (Int32.toInt8 xf)), (Int8.toInt32 (Int32.toInt8 xf)), (Int8.toInt32 (Int32.toInt8 xf))]) :: (xee, OA Z .int [((192 : Int32) + (xcp / (64 : Int32))), ((128 : Int32) + (xcp % (64 : Int32))), e2, e3]) :: []) := H169.front 1 rfl
      refine o_callS X165 at_326 (rest := []) (c_atI l Z a0 hw [] n0 _ X165.size xbb (3 : Int32) (2 : Int32) (2 : Int32) xee xf [(Int8.toInt32 (Int32.toInt8 xf)), (Int8.toInt32 (Int32.toInt8 xf)), (Int8.toInt32 (Int32.toInt8 ((192 : Int32) ||| (xcp >>> ((6 : Int32) &&& 31))))), (Int8.toInt32 (Int32.toInt8 ((128 : Int32) ||| (xcp &&& (63 : Int32))))), (Int8.toInt32 (Int32.toInt8 xf)), (Int8.toInt32 (Int32.toInt8 xf)), (Int8.toInt32 (Int32.toInt8 xf)), (Int8.toInt32 (Int32.toInt8 xf))] [((192 : Int32) + (xcp / (64 : Int32))), ((128 : Int32) + (xcp % (64 : Int32))), e2, e3] [] H170 3 rfl (Int8.toInt32 (Int32.toInt8 ((128 : Int32) ||| (xcp &&& (63 : Int32))))) rfl 1 rfl ((128 : Int32) + (xcp % (64 : Int32))) rfl (by decide) (by decide) (v_e21 xcp hlo hhi)) (hw _ (List.mem_of_getElem? (i := 9) rfl)) (hw _ (List.mem_of_getElem? (i := 10) rfl)) (hw _ (List.mem_of_getElem? (i := 11) rfl)) (hw _ (List.mem_of_getElem? (i := 12) rfl)) (by decide) 0 (by decide) (by decide) rfl [(.ref xbb), (.int (3 : Int32)), (.int (2 : Int32)), (.int (2 : Int32)), (.ref xee), (.int xf)] rfl pd_2 rfl rfl (Nat.le_of_eq rfl) 2 12 rfl rfl (by decide) (by decide) 329 rfl ?_
      rintro _ T168 _ X168 ⟨rfl, rfl⟩
      show OE p e room_1 below s n0 Q' T168 (mkF m 329 #[.val (.int xc), .val (.int xi), .val (.int xf), .val (.int xcp), .val (.int (2 : Int32)), .val (.int (Int8.toInt32 (Int32.toInt8 xf))), .val (.ref xbb), .val (.ref xee), .val (.int (2 : Int32)), .val (.int (4 : Int32))] [(.int (1 : Int32))])
      refine o_ifEq X168 at_329 402 332 (by decide) (by decide) rfl (fun q => by exfalso; exact absurd q (by decide)) ?_
      intro hc329
      refine o_aload X168 at_332 rfl rfl 334 rfl ?_
      refine o_iconst (v := (4 : Int32)) X168 at_334 rfl 335 rfl ?_
      refine o_iload X168 at_335 rfl 337 rfl ?_
      refine o_iload X168 at_337 rfl 339 rfl ?_
      refine o_aload X168 at_339 rfl rfl 341 rfl ?_
      refine o_iloadN X168 at_341 rfl 342 rfl ?_
      have H172 : OL n0 h157 ((xee, OA Z .int [((192 : Int32) + (xcp / (64 : Int32))), ((128 : Int32) + (xcp % (64 : Int32))), e2, e3]) :: (xbb, OA Z .byte [(Int8.toInt32 (Int32.toInt8 xf)), (Int8.toInt32 (Int32.toInt8 xf)), (Int8.toInt32 (Int32.toInt8 ((192 : Int32) ||| (xcp >>> ((6 : Int32) &&& 31))))), (Int8.toInt32 (Int32.toInt8 ((128 : Int32) ||| (xcp &&& (63 : Int32))))), (Int8.toInt32 (Int32.toInt8 xf)), (Int8.toInt32 (Int32.toInt8 xf)), (Int8.toInt32 (Int32.toInt8 xf)), (Int8.toInt32 (Int32.toInt8 xf))]) :: []) := H170.front 1 rfl
      have H173 : OL n0 h157 ((xbb, OA Z .byte [(Int8.toInt32 (Int32.toInt8 xf)), (Int8.toInt32 (Int32.toInt8 xf)), (Int8.toInt32 (Int32.toInt8 ((192 : Int32) ||| (xcp >>> ((6 : Int32) &&& 31))))), (Int8.toInt32 (Int32.toInt8 ((128 : Int32) ||| (xcp &&& (63 : Int32))))), (Int8.toInt32 (Int32.toInt8 xf)), (Int8.toInt32 (Int32.toInt8 xf)), (Int8.toInt32 (Int32.toInt8 xf)), (Int8.toInt32 (Int32.toInt8 xf))]) :: (xee, OA Z .int [((192 : Int32) + (xcp / (64 : Int32))), ((128 : Int32) + (xcp % (64 : Int32))), e2, e3]) :: []) := H172.front 1 rfl
      refine o_callS X168 at_342 (rest := []) (c_atO l Z a0 hw [] n0 _ X168.size xbb (4 : Int32) (2 : Int32) (2 : Int32) xee xf [(Int8.toInt32 (Int32.toInt8 xf)), (Int8.toInt32 (Int32.toInt8 xf)), (Int8.toInt32 (Int32.toInt8 ((192 : Int32) ||| (xcp >>> ((6 : Int32) &&& 31))))), (Int8.toInt32 (Int32.toInt8 ((128 : Int32) ||| (xcp &&& (63 : Int32))))), (Int8.toInt32 (Int32.toInt8 xf)), (Int8.toInt32 (Int32.toInt8 xf)), (Int8.toInt32 (Int32.toInt8 xf)), (Int8.toInt32 (Int32.toInt8 xf))] [((192 : Int32) + (xcp / (64 : Int32))), ((128 : Int32) + (xcp % (64 : Int32))), e2, e3] [] H173 4 rfl (Int8.toInt32 (Int32.toInt8 xf)) rfl (by decide) (v_fill _)) (hw _ (List.mem_of_getElem? (i := 9) rfl)) (hw _ (List.mem_of_getElem? (i := 10) rfl)) (hw _ (List.mem_of_getElem? (i := 11) rfl)) (hw _ (List.mem_of_getElem? (i := 12) rfl)) (by decide) 0 (by decide) (by decide) rfl [(.ref xbb), (.int (4 : Int32)), (.int (2 : Int32)), (.int (2 : Int32)), (.ref xee), (.int xf)] rfl pd_2 rfl rfl (Nat.le_of_eq rfl) 2 12 rfl rfl (by decide) (by decide) 345 rfl ?_
      rintro _ T171 _ X171 ⟨rfl, rfl⟩
      show OE p e room_1 below s n0 Q' T171 (mkF m 345 #[.val (.int xc), .val (.int xi), .val (.int xf), .val (.int xcp), .val (.int (2 : Int32)), .val (.int (Int8.toInt32 (Int32.toInt8 xf))), .val (.ref xbb), .val (.ref xee), .val (.int (2 : Int32)), .val (.int (4 : Int32))] [(.int (1 : Int32))])
      refine o_ifEq X171 at_345 402 348 (by decide) (by decide) rfl (fun q => by exfalso; exact absurd q (by decide)) ?_
      intro hc345
      refine o_aload X171 at_348 rfl rfl 350 rfl ?_
      refine o_iconst (v := (5 : Int32)) X171 at_350 rfl 351 rfl ?_
      refine o_iload X171 at_351 rfl 353 rfl ?_
      refine o_iload X171 at_353 rfl 355 rfl ?_
      refine o_aload X171 at_355 rfl rfl 357 rfl ?_
      refine o_iloadN X171 at_357 rfl 358 rfl ?_
      have H175 : OL n0 h157 ((xee, OA Z .int [((192 : Int32) + (xcp / (64 : Int32))), ((128 : Int32) + (xcp % (64 : Int32))), e2, e3]) :: (xbb, OA Z .byte [(Int8.toInt32 (Int32.toInt8 xf)), (Int8.toInt32 (Int32.toInt8 xf)), (Int8.toInt32 (Int32.toInt8 ((192 : Int32) ||| (xcp >>> ((6 : Int32) &&& 31))))), (Int8.toInt32 (Int32.toInt8 ((128 : Int32) ||| (xcp &&& (63 : Int32))))), (Int8.toInt32 (Int32.toInt8 xf)), (Int8.toInt32 (Int32.toInt8 xf)), (Int8.toInt32 (Int32.toInt8 xf)), (Int8.toInt32 (Int32.toInt8 xf))]) :: []) := H173.front 1 rfl
      have H176 : OL n0 h157 ((xbb, OA Z .byte [(Int8.toInt32 (Int32.toInt8 xf)), (Int8.toInt32 (Int32.toInt8 xf)), (Int8.toInt32 (Int32.toInt8 ((192 : Int32) ||| (xcp >>> ((6 : Int32) &&& 31))))), (Int8.toInt32 (Int32.toInt8 ((128 : Int32) ||| (xcp &&& (63 : Int32))))), (Int8.toInt32 (Int32.toInt8 xf)), (Int8.toInt32 (Int32.toInt8 xf)), (Int8.toInt32 (Int32.toInt8 xf)), (Int8.toInt32 (Int32.toInt8 xf))]) :: (xee, OA Z .int [((192 : Int32) + (xcp / (64 : Int32))), ((128 : Int32) + (xcp % (64 : Int32))), e2, e3]) :: []) := H175.front 1 rfl
      refine o_callS X171 at_358 (rest := []) (c_atO l Z a0 hw [] n0 _ X171.size xbb (5 : Int32) (2 : Int32) (2 : Int32) xee xf [(Int8.toInt32 (Int32.toInt8 xf)), (Int8.toInt32 (Int32.toInt8 xf)), (Int8.toInt32 (Int32.toInt8 ((192 : Int32) ||| (xcp >>> ((6 : Int32) &&& 31))))), (Int8.toInt32 (Int32.toInt8 ((128 : Int32) ||| (xcp &&& (63 : Int32))))), (Int8.toInt32 (Int32.toInt8 xf)), (Int8.toInt32 (Int32.toInt8 xf)), (Int8.toInt32 (Int32.toInt8 xf)), (Int8.toInt32 (Int32.toInt8 xf))] [((192 : Int32) + (xcp / (64 : Int32))), ((128 : Int32) + (xcp % (64 : Int32))), e2, e3] [] H176 5 rfl (Int8.toInt32 (Int32.toInt8 xf)) rfl (by decide) (v_fill _)) (hw _ (List.mem_of_getElem? (i := 9) rfl)) (hw _ (List.mem_of_getElem? (i := 10) rfl)) (hw _ (List.mem_of_getElem? (i := 11) rfl)) (hw _ (List.mem_of_getElem? (i := 12) rfl)) (by decide) 0 (by decide) (by decide) rfl [(.ref xbb), (.int (5 : Int32)), (.int (2 : Int32)), (.int (2 : Int32)), (.ref xee), (.int xf)] rfl pd_2 rfl rfl (Nat.le_of_eq rfl) 2 12 rfl rfl (by decide) (by decide) 361 rfl ?_
      rintro _ T174 _ X174 ⟨rfl, rfl⟩
      show OE p e room_1 below s n0 Q' T174 (mkF m 361 #[.val (.int xc), .val (.int xi), .val (.int xf), .val (.int xcp), .val (.int (2 : Int32)), .val (.int (Int8.toInt32 (Int32.toInt8 xf))), .val (.ref xbb), .val (.ref xee), .val (.int (2 : Int32)), .val (.int (4 : Int32))] [(.int (1 : Int32))])
      refine o_ifEq X174 at_361 402 364 (by decide) (by decide) rfl (fun q => by exfalso; exact absurd q (by decide)) ?_
      intro hc361
      refine o_aload X174 at_364 rfl rfl 366 rfl ?_
      refine o_bipush (v := (6 : Int32)) X174 at_366 rfl 368 rfl ?_
      refine o_iload X174 at_368 rfl 370 rfl ?_
      refine o_iload X174 at_370 rfl 372 rfl ?_
      refine o_aload X174 at_372 rfl rfl 374 rfl ?_
      refine o_iloadN X174 at_374 rfl 375 rfl ?_
      have H178 : OL n0 h157 ((xee, OA Z .int [((192 : Int32) + (xcp / (64 : Int32))), ((128 : Int32) + (xcp % (64 : Int32))), e2, e3]) :: (xbb, OA Z .byte [(Int8.toInt32 (Int32.toInt8 xf)), (Int8.toInt32 (Int32.toInt8 xf)), (Int8.toInt32 (Int32.toInt8 ((192 : Int32) ||| (xcp >>> ((6 : Int32) &&& 31))))), (Int8.toInt32 (Int32.toInt8 ((128 : Int32) ||| (xcp &&& (63 : Int32))))), (Int8.toInt32 (Int32.toInt8 xf)), (Int8.toInt32 (Int32.toInt8 xf)), (Int8.toInt32 (Int32.toInt8 xf)), (Int8.toInt32 (Int32.toInt8 xf))]) :: []) := H176.front 1 rfl
      have H179 : OL n0 h157 ((xbb, OA Z .byte [(Int8.toInt32 (Int32.toInt8 xf)), (Int8.toInt32 (Int32.toInt8 xf)), (Int8.toInt32 (Int32.toInt8 ((192 : Int32) ||| (xcp >>> ((6 : Int32) &&& 31))))), (Int8.toInt32 (Int32.toInt8 ((128 : Int32) ||| (xcp &&& (63 : Int32))))), (Int8.toInt32 (Int32.toInt8 xf)), (Int8.toInt32 (Int32.toInt8 xf)), (Int8.toInt32 (Int32.toInt8 xf)), (Int8.toInt32 (Int32.toInt8 xf))]) :: (xee, OA Z .int [((192 : Int32) + (xcp / (64 : Int32))), ((128 : Int32) + (xcp % (64 : Int32))), e2, e3]) :: []) := H178.front 1 rfl
      refine o_callS X174 at_375 (rest := []) (c_atO l Z a0 hw [] n0 _ X174.size xbb (6 : Int32) (2 : Int32) (2 : Int32) xee xf [(Int8.toInt32 (Int32.toInt8 xf)), (Int8.toInt32 (Int32.toInt8 xf)), (Int8.toInt32 (Int32.toInt8 ((192 : Int32) ||| (xcp >>> ((6 : Int32) &&& 31))))), (Int8.toInt32 (Int32.toInt8 ((128 : Int32) ||| (xcp &&& (63 : Int32))))), (Int8.toInt32 (Int32.toInt8 xf)), (Int8.toInt32 (Int32.toInt8 xf)), (Int8.toInt32 (Int32.toInt8 xf)), (Int8.toInt32 (Int32.toInt8 xf))] [((192 : Int32) + (xcp / (64 : Int32))), ((128 : Int32) + (xcp % (64 : Int32))), e2, e3] [] H179 6 rfl (Int8.toInt32 (Int32.toInt8 xf)) rfl (by decide) (v_fill _)) (hw _ (List.mem_of_getElem? (i := 9) rfl)) (hw _ (List.mem_of_getElem? (i := 10) rfl)) (hw _ (List.mem_of_getElem? (i := 11) rfl)) (hw _ (List.mem_of_getElem? (i := 12) rfl)) (by decide) 0 (by decide) (by decide) rfl [(.ref xbb), (.int (6 : Int32)), (.int (2 : Int32)), (.int (2 : Int32)), (.ref xee), (.int xf)] rfl pd_2 rfl rfl (Nat.le_of_eq rfl) 2 12 rfl rfl (by decide) (by decide) 378 rfl ?_
      rintro _ T177 _ X177 ⟨rfl, rfl⟩
      show OE p e room_1 below s n0 Q' T177 (mkF m 378 #[.val (.int xc), .val (.int xi), .val (.int xf), .val (.int xcp), .val (.int (2 : Int32)), .val (.int (Int8.toInt32 (Int32.toInt8 xf))), .val (.ref xbb), .val (.ref xee), .val (.int (2 : Int32)), .val (.int (4 : Int32))] [(.int (1 : Int32))])
      refine o_ifEq X177 at_378 402 381 (by decide) (by decide) rfl (fun q => by exfalso; exact absurd q (by decide)) ?_
      intro hc378
      refine o_aload X177 at_381 rfl rfl 383 rfl ?_
      refine o_bipush (v := (7 : Int32)) X177 at_383 rfl 385 rfl ?_
      refine o_iload X177 at_385 rfl 387 rfl ?_
      refine o_iload X177 at_387 rfl 389 rfl ?_
      refine o_aload X177 at_389 rfl rfl 391 rfl ?_
      refine o_iloadN X177 at_391 rfl 392 rfl ?_
      have H181 : OL n0 h157 ((xee, OA Z .int [((192 : Int32) + (xcp / (64 : Int32))), ((128 : Int32) + (xcp % (64 : Int32))), e2, e3]) :: (xbb, OA Z .byte [(Int8.toInt32 (Int32.toInt8 xf)), (Int8.toInt32 (Int32.toInt8 xf)), (Int8.toInt32 (Int32.toInt8 ((192 : Int32) ||| (xcp >>> ((6 : Int32) &&& 31))))), (Int8.toInt32 (Int32.toInt8 ((128 : Int32) ||| (xcp &&& (63 : Int32))))), (Int8.toInt32 (Int32.toInt8 xf)), (Int8.toInt32 (Int32.toInt8 xf)), (Int8.toInt32 (Int32.toInt8 xf)), (Int8.toInt32 (Int32.toInt8 xf))]) :: []) := H179.front 1 rfl
      have H182 : OL n0 h157 ((xbb, OA Z .byte [(Int8.toInt32 (Int32.toInt8 xf)), (Int8.toInt32 (Int32.toInt8 xf)), (Int8.toInt32 (Int32.toInt8 ((192 : Int32) ||| (xcp >>> ((6 : Int32) &&& 31))))), (Int8.toInt32 (Int32.toInt8 ((128 : Int32) ||| (xcp &&& (63 : Int32))))), (Int8.toInt32 (Int32.toInt8 xf)), (Int8.toInt32 (Int32.toInt8 xf)), (Int8.toInt32 (Int32.toInt8 xf)), (Int8.toInt32 (Int32.toInt8 xf))]) :: (xee, OA Z .int [((192 : Int32) + (xcp / (64 : Int32))), ((128 : Int32) + (xcp % (64 : Int32))), e2, e3]) :: []) := H181.front 1 rfl
      refine o_callS X177 at_392 (rest := []) (c_atO l Z a0 hw [] n0 _ X177.size xbb (7 : Int32) (2 : Int32) (2 : Int32) xee xf [(Int8.toInt32 (Int32.toInt8 xf)), (Int8.toInt32 (Int32.toInt8 xf)), (Int8.toInt32 (Int32.toInt8 ((192 : Int32) ||| (xcp >>> ((6 : Int32) &&& 31))))), (Int8.toInt32 (Int32.toInt8 ((128 : Int32) ||| (xcp &&& (63 : Int32))))), (Int8.toInt32 (Int32.toInt8 xf)), (Int8.toInt32 (Int32.toInt8 xf)), (Int8.toInt32 (Int32.toInt8 xf)), (Int8.toInt32 (Int32.toInt8 xf))] [((192 : Int32) + (xcp / (64 : Int32))), ((128 : Int32) + (xcp % (64 : Int32))), e2, e3] [] H182 7 rfl (Int8.toInt32 (Int32.toInt8 xf)) rfl (by decide) (v_fill _)) (hw _ (List.mem_of_getElem? (i := 9) rfl)) (hw _ (List.mem_of_getElem? (i := 10) rfl)) (hw _ (List.mem_of_getElem? (i := 11) rfl)) (hw _ (List.mem_of_getElem? (i := 12) rfl)) (by decide) 0 (by decide) (by decide) rfl [(.ref xbb), (.int (7 : Int32)), (.int (2 : Int32)), (.int (2 : Int32)), (.ref xee), (.int xf)] rfl pd_2 rfl rfl (Nat.le_of_eq rfl) 2 12 rfl rfl (by decide) (by decide) 395 rfl ?_
      rintro _ T180 _ X180 ⟨rfl, rfl⟩
      show OE p e room_1 below s n0 Q' T180 (mkF m 395 #[.val (.int xc), .val (.int xi), .val (.int xf), .val (.int xcp), .val (.int (2 : Int32)), .val (.int (Int8.toInt32 (Int32.toInt8 xf))), .val (.ref xbb), .val (.ref xee), .val (.int (2 : Int32)), .val (.int (4 : Int32))] [(.int (1 : Int32))])
      refine o_ifEq X180 at_395 402 398 (by decide) (by decide) rfl (fun q => by exfalso; exact absurd q (by decide)) ?_
      intro hc395
      refine o_iconst (v := (1 : Int32)) X180 at_398 rfl 399 rfl ?_
      refine o_goto X180 at_399 403 (by decide) (by decide) ?_
      exact o_retZ X180 at_403 (by decide) (by decide) (hQ _ _ rfl)
    · skip
      refine o_iloadN X_J248 at_248 rfl 249 rfl ?_
      refine o_aload X_J248 at_249 rfl rfl 251 rfl ?_
      refine o_iload X_J248 at_251 rfl 253 rfl ?_
      have H184 : OL n0 h ((xbb, OA Z .byte [(Int8.toInt32 (Int32.toInt8 xf)), (Int8.toInt32 (Int32.toInt8 xf)), (Int8.toInt32 (Int32.toInt8 xf)), (Int8.toInt32 (Int32.toInt8 xf)), (Int8.toInt32 (Int32.toInt8 xf)), (Int8.toInt32 (Int32.toInt8 xf)), (Int8.toInt32 (Int32.toInt8 xf)), (Int8.toInt32 (Int32.toInt8 xf))]) :: (xee, OA Z .int [((192 : Int32) + (xcp / (64 : Int32))), ((128 : Int32) + (xcp % (64 : Int32))), e2, e3]) :: []) := H_J248.front 1 rfl
      refine o_callS X_J248 at_253 (rest := []) (c_enc2 l Z a0 hw [] n0 _ X_J248.size xcp xbb (3 : Int32) [(Int8.toInt32 (Int32.toInt8 xf)), (Int8.toInt32 (Int32.toInt8 xf)), (Int8.toInt32 (Int32.toInt8 xf)), (Int8.toInt32 (Int32.toInt8 xf)), (Int8.toInt32 (Int32.toInt8 xf)), (Int8.toInt32 (Int32.toInt8 xf)), (Int8.toInt32 (Int32.toInt8 xf)), (Int8.toInt32 (Int32.toInt8 xf))] ((xee, OA Z .int [((192 : Int32) + (xcp / (64 : Int32))), ((128 : Int32) + (xcp % (64 : Int32))), e2, e3]) :: []) H184 3 rfl (by show 5 ≤ 8; decide) (by decide) hlo hhi) (hw _ (List.mem_of_getElem? (i := 5) rfl)) (hw _ (List.mem_of_getElem? (i := 6) rfl)) (hw _ (List.mem_of_getElem? (i := 7) rfl)) (hw _ (List.mem_of_getElem? (i := 8) rfl)) (by decide) 0 (by decide) (by decide) rfl [(.int xcp), (.ref xbb), (.int (3 : Int32))] rfl pd_1 rfl rfl (Nat.le_of_eq rfl) 2 12 rfl rfl (by decide) (by decide) 256 rfl ?_
      rintro _ T183 h183 X183 ⟨rfl, H183⟩
      replace H183 : OL n0 h183 ((xbb, OA Z .byte [(Int8.toInt32 (Int32.toInt8 xf)), (Int8.toInt32 (Int32.toInt8 xf)), (Int8.toInt32 (Int32.toInt8 xf)), (Int8.toInt32 (Int32.toInt8 ((192 : Int32) ||| (xcp >>> ((6 : Int32) &&& 31))))), (Int8.toInt32 (Int32.toInt8 ((128 : Int32) ||| (xcp &&& (63 : Int32))))), (Int8.toInt32 (Int32.toInt8 xf)), (Int8.toInt32 (Int32.toInt8 xf)), (Int8.toInt32 (Int32.toInt8 xf))]) :: (xee, OA Z .int [((192 : Int32) + (xcp / (64 : Int32))), ((128 : Int32) + (xcp % (64 : Int32))), e2, e3]) :: []) := H183
      show OE p e room_1 below s n0 Q' T183 (mkF m 256 #[.val (.int xc), .val (.int xi), .val (.int xf), .val (.int xcp), .val (.int (3 : Int32)), .val (.int (Int8.toInt32 (Int32.toInt8 xf))), .val (.ref xbb), .val (.ref xee), .val (.int (2 : Int32)), .unset] [(.int (((3 : Int32) + (1 : Int32)) + (1 : Int32)))])
      refine o_istore X183 at_256 #[.val (.int xc), .val (.int xi), .val (.int xf), .val (.int xcp), .val (.int (3 : Int32)), .val (.int (Int8.toInt32 (Int32.toInt8 xf))), .val (.ref xbb), .val (.ref xee), .val (.int (2 : Int32)), .val (.int (((3 : Int32) + (1 : Int32)) + (1 : Int32)))] rfl 258 rfl ?_
      rw [show (((3 : Int32) + (1 : Int32)) + (1 : Int32)) = (5 : Int32) from rfl]
      refine o_iload X183 at_258 rfl 260 rfl ?_
      refine o_iload X183 at_260 rfl 262 rfl ?_
      refine o_iload X183 at_262 rfl 264 rfl ?_
      refine o_iadd X183 at_264 265 rfl ?_
      refine o_icmpNe X183 at_265 402 268 (by decide) (by decide) rfl (fun q => by exfalso; exact q rfl) ?_
      intro hc265
      refine o_aload X183 at_268 rfl rfl 270 rfl ?_
      refine o_iconst (v := (0 : Int32)) X183 at_270 rfl 271 rfl ?_
      refine o_iload X183 at_271 rfl 273 rfl ?_
      refine o_iload X183 at_273 rfl 275 rfl ?_
      refine o_aload X183 at_275 rfl rfl 277 rfl ?_
      refine o_iloadN X183 at_277 rfl 278 rfl ?_
      have H186 : OL n0 h183 ((xee, OA Z .int [((192 : Int32) + (xcp / (64 : Int32))), ((128 : Int32) + (xcp % (64 : Int32))), e2, e3]) :: (xbb, OA Z .byte [(Int8.toInt32 (Int32.toInt8 xf)), (Int8.toInt32 (Int32.toInt8 xf)), (Int8.toInt32 (Int32.toInt8 xf)), (Int8.toInt32 (Int32.toInt8 ((192 : Int32) ||| (xcp >>> ((6 : Int32) &&& 31))))), (Int8.toInt32 (Int32.toInt8 ((128 : Int32) ||| (xcp &&& (63 : Int32))))), (Int8.toInt32 (Int32.toInt8 xf)), (Int8.toInt32 (Int32.toInt8 xf)), (Int8.toInt32 (Int32.toInt8 xf))]) :: []) := H183.front 1 rfl
      have H187 : OL n0 h183 ((xbb, OA Z .byte [(Int8.toInt32 (Int32.toInt8 xf)), (Int8.toInt32 (Int32.toInt8 xf)), (Int8.toInt32 (Int32.toInt8 xf)), (Int8.toInt32 (Int32.toInt8 ((192 : Int32) ||| (xcp >>> ((6 : Int32) &&& 31))))), (Int8.toInt32 (Int32.toInt8 ((128 : Int32) ||| (xcp &&& (63 : Int32))))), (Int8.toInt32 (Int32.toInt8 xf)), (Int8.toInt32 (Int32.toInt8 xf)), (Int8.toInt32 (Int32.toInt8 xf))]) :: (xee, OA Z .int [((192 : Int32) + (xcp / (64 : Int32))), ((128 : Int32) + (xcp % (64 : Int32))), e2, e3]) :: []) := H186.front 1 rfl
      refine o_callS X183 at_278 (rest := []) (c_atO l Z a0 hw [] n0 _ X183.size xbb (0 : Int32) (3 : Int32) (2 : Int32) xee xf [(Int8.toInt32 (Int32.toInt8 xf)), (Int8.toInt32 (Int32.toInt8 xf)), (Int8.toInt32 (Int32.toInt8 xf)), (Int8.toInt32 (Int32.toInt8 ((192 : Int32) ||| (xcp >>> ((6 : Int32) &&& 31))))), (Int8.toInt32 (Int32.toInt8 ((128 : Int32) ||| (xcp &&& (63 : Int32))))), (Int8.toInt32 (Int32.toInt8 xf)), (Int8.toInt32 (Int32.toInt8 xf)), (Int8.toInt32 (Int32.toInt8 xf))] [((192 : Int32) + (xcp / (64 : Int32))), ((128 : Int32) + (xcp % (64 : Int32))), e2, e3] [] H187 0 rfl (Int8.toInt32 (Int32.toInt8 xf)) rfl (by decide) (v_fill _)) (hw _ (List.mem_of_getElem? (i := 9) rfl)) (hw _ (List.mem_of_getElem? (i := 10) rfl)) (hw _ (List.mem_of_getElem? (i := 11) rfl)) (hw _ (List.mem_of_getElem? (i := 12) rfl)) (by decide) 0 (by decide) (by decide) rfl [(.ref xbb), (.int (0 : Int32)), (.int (3 : Int32)), (.int (2 : Int32)), (.ref xee), (.int xf)] rfl pd_2 rfl rfl (Nat.le_of_eq rfl) 2 12 rfl rfl (by decide) (by decide) 281 rfl ?_
      rintro _ T185 _ X185 ⟨rfl, rfl⟩
      show OE p e room_1 below s n0 Q' T185 (mkF m 281 #[.val (.int xc), .val (.int xi), .val (.int xf), .val (.int xcp), .val (.int (3 : Int32)), .val (.int (Int8.toInt32 (Int32.toInt8 xf))), .val (.ref xbb), .val (.ref xee), .val (.int (2 : Int32)), .val (.int (5 : Int32))] [(.int (1 : Int32))])
      refine o_ifEq X185 at_281 402 284 (by decide) (by decide) rfl (fun q => by exfalso; exact absurd q (by decide)) ?_
      intro hc281
      refine o_aload X185 at_284 rfl rfl 286 rfl ?_
      refine o_iconst (v := (1 : Int32)) X185 at_286 rfl 287 rfl ?_
      refine o_iload X185 at_287 rfl 289 rfl ?_
      refine o_iload X185 at_289 rfl 291 rfl ?_
      refine o_aload X185 at_291 rfl rfl 293 rfl ?_
      refine o_iloadN X185 at_293 rfl 294 rfl ?_
      have H189 : OL n0 h183 ((xee, OA Z .int [((192 : Int32) + (xcp / (64 : Int32))), ((128 : Int32) + (xcp % (64 : Int32))), e2, e3]) :: (xbb, OA Z .byte [(Int8.toInt32 (Int32.toInt8 xf)), (Int8.toInt32 (Int32.toInt8 xf)), (Int8.toInt32 (Int32.toInt8 xf)), (Int8.toInt32 (Int32.toInt8 ((192 : Int32) ||| (xcp >>> ((6 : Int32) &&& 31))))), (Int8.toInt32 (Int32.toInt8 ((128 : Int32) ||| (xcp &&& (63 : Int32))))), (Int8.toInt32 (Int32.toInt8 xf)), (Int8.toInt32 (Int32.toInt8 xf)), (Int8.toInt32 (Int32.toInt8 xf))]) :: []) := H187.front 1 rfl
      have H190 : OL n0 h183 ((xbb, OA Z .byte [(Int8.toInt32 (Int32.toInt8 xf)), (Int8.toInt32 (Int32.toInt8 xf)), (Int8.toInt32 (Int32.toInt8 xf)), (Int8.toInt32 (Int32.toInt8 ((192 : Int32) ||| (xcp >>> ((6 : Int32) &&& 31))))), (Int8.toInt32 (Int32.toInt8 ((128 : Int32) ||| (xcp &&& (63 : Int32))))), (Int8.toInt32 (Int32.toInt8 xf)), (Int8.toInt32 (Int32.toInt8 xf)), (Int8.toInt32 (Int32.toInt8 xf))]) :: (xee, OA Z .int [((192 : Int32) + (xcp / (64 : Int32))), ((128 : Int32) + (xcp % (64 : Int32))), e2, e3]) :: []) := H189.front 1 rfl
      refine o_callS X185 at_294 (rest := []) (c_atO l Z a0 hw [] n0 _ X185.size xbb (1 : Int32) (3 : Int32) (2 : Int32) xee xf [(Int8.toInt32 (Int32.toInt8 xf)), (Int8.toInt32 (Int32.toInt8 xf)), (Int8.toInt32 (Int32.toInt8 xf)), (Int8.toInt32 (Int32.toInt8 ((192 : Int32) ||| (xcp >>> ((6 : Int32) &&& 31))))), (Int8.toInt32 (Int32.toInt8 ((128 : Int32) ||| (xcp &&& (63 : Int32))))), (Int8.toInt32 (Int32.toInt8 xf)), (Int8.toInt32 (Int32.toInt8 xf)), (Int8.toInt32 (Int32.toInt8 xf))] [((192 : Int32) + (xcp / (64 : Int32))), ((128 : Int32) + (xcp % (64 : Int32))), e2, e3] [] H190 1 rfl (Int8.toInt32 (Int32.toInt8 xf)) rfl (by decide) (v_fill _)) (hw _ (List.mem_of_getElem? (i := 9) rfl)) (hw _ (List.mem_of_getElem? (i := 10) rfl)) (hw _ (List.mem_of_getElem? (i := 11) rfl)) (hw _ (List.mem_of_getElem? (i := 12) rfl)) (by decide) 0 (by decide) (by decide) rfl [(.ref xbb), (.int (1 : Int32)), (.int (3 : Int32)), (.int (2 : Int32)), (.ref xee), (.int xf)] rfl pd_2 rfl rfl (Nat.le_of_eq rfl) 2 12 rfl rfl (by decide) (by decide) 297 rfl ?_
      rintro _ T188 _ X188 ⟨rfl, rfl⟩
      show OE p e room_1 below s n0 Q' T188 (mkF m 297 #[.val (.int xc), .val (.int xi), .val (.int xf), .val (.int xcp), .val (.int (3 : Int32)), .val (.int (Int8.toInt32 (Int32.toInt8 xf))), .val (.ref xbb), .val (.ref xee), .val (.int (2 : Int32)), .val (.int (5 : Int32))] [(.int (1 : Int32))])
      refine o_ifEq X188 at_297 402 300 (by decide) (by decide) rfl (fun q => by exfalso; exact absurd q (by decide)) ?_
      intro hc297
      refine o_aload X188 at_300 rfl rfl 302 rfl ?_
      refine o_iconst (v := (2 : Int32)) X188 at_302 rfl 303 rfl ?_
      refine o_iload X188 at_303 rfl 305 rfl ?_
      refine o_iload X188 at_305 rfl 307 rfl ?_
      refine o_aload X188 at_307 rfl rfl 309 rfl ?_
      refine o_iloadN X188 at_309 rfl 310 rfl ?_
      have H192 : OL n0 h183 ((xee, OA Z .int [((192 : Int32) + (xcp / (64 : Int32))), ((128 : Int32) + (xcp % (64 : Int32))), e2, e3]) :: (xbb, OA Z .byte [(Int8.toInt32 (Int32.toInt8 xf)), (Int8.toInt32 (Int32.toInt8 xf)), (Int8.toInt32 (Int32.toInt8 xf)), (Int8.toInt32 (Int32.toInt8 ((192 : Int32) ||| (xcp >>> ((6 : Int32) &&& 31))))), (Int8.toInt32 (Int32.toInt8 ((128 : Int32) ||| (xcp &&& (63 : Int32))))), (Int8.toInt32 (Int32.toInt8 xf)), (Int8.toInt32 (Int32.toInt8 xf)), (Int8.toInt32 (Int32.toInt8 xf))]) :: []) := H190.front 1 rfl
      have H193 : OL n0 h183 ((xbb, OA Z .byte [(Int8.toInt32 (Int32.toInt8 xf)), (Int8.toInt32 (Int32.toInt8 xf)), (Int8.toInt32 (Int32.toInt8 xf)), (Int8.toInt32 (Int32.toInt8 ((192 : Int32) ||| (xcp >>> ((6 : Int32) &&& 31))))), (Int8.toInt32 (Int32.toInt8 ((128 : Int32) ||| (xcp &&& (63 : Int32))))), (Int8.toInt32 (Int32.toInt8 xf)), (Int8.toInt32 (Int32.toInt8 xf)), (Int8.toInt32 (Int32.toInt8 xf))]) :: (xee, OA Z .int [((192 : Int32) + (xcp / (64 : Int32))), ((128 : Int32) + (xcp % (64 : Int32))), e2, e3]) :: []) := H192.front 1 rfl
      refine o_callS X188 at_310 (rest := []) (c_atO l Z a0 hw [] n0 _ X188.size xbb (2 : Int32) (3 : Int32) (2 : Int32) xee xf [(Int8.toInt32 (Int32.toInt8 xf)), (Int8.toInt32 (Int32.toInt8 xf)), (Int8.toInt32 (Int32.toInt8 xf)), (Int8.toInt32 (Int32.toInt8 ((192 : Int32) ||| (xcp >>> ((6 : Int32) &&& 31))))), (Int8.toInt32 (Int32.toInt8 ((128 : Int32) ||| (xcp &&& (63 : Int32))))), (Int8.toInt32 (Int32.toInt8 xf)), (Int8.toInt32 (Int32.toInt8 xf)), (Int8.toInt32 (Int32.toInt8 xf))] [((192 : Int32) + (xcp / (64 : Int32))), ((128 : Int32) + (xcp % (64 : Int32))), e2, e3] [] H193 2 rfl (Int8.toInt32 (Int32.toInt8 xf)) rfl (by decide) (v_fill _)) (hw _ (List.mem_of_getElem? (i := 9) rfl)) (hw _ (List.mem_of_getElem? (i := 10) rfl)) (hw _ (List.mem_of_getElem? (i := 11) rfl)) (hw _ (List.mem_of_getElem? (i := 12) rfl)) (by decide) 0 (by decide) (by decide) rfl [(.ref xbb), (.int (2 : Int32)), (.int (3 : Int32)), (.int (2 : Int32)), (.ref xee), (.int xf)] rfl pd_2 rfl rfl (Nat.le_of_eq rfl) 2 12 rfl rfl (by decide) (by decide) 313 rfl ?_
      rintro _ T191 _ X191 ⟨rfl, rfl⟩
      show OE p e room_1 below s n0 Q' T191 (mkF m 313 #[.val (.int xc), .val (.int xi), .val (.int xf), .val (.int xcp), .val (.int (3 : Int32)), .val (.int (Int8.toInt32 (Int32.toInt8 xf))), .val (.ref xbb), .val (.ref xee), .val (.int (2 : Int32)), .val (.int (5 : Int32))] [(.int (1 : Int32))])
      refine o_ifEq X191 at_313 402 316 (by decide) (by decide) rfl (fun q => by exfalso; exact absurd q (by decide)) ?_
      intro hc313
      refine o_aload X191 at_316 rfl rfl 318 rfl ?_
      refine o_iconst (v := (3 : Int32)) X191 at_318 rfl 319 rfl ?_
      refine o_iload X191 at_319 rfl 321 rfl ?_
      refine o_iload X191 at_321 rfl 323 rfl ?_
      refine o_aload X191 at_323 rfl rfl 325 rfl ?_
      refine o_iloadN X191 at_325 rfl 326 rfl ?_
      have H195 : OL n0 h183 ((xee, OA Z .int [((192 : Int32) + (xcp / (64 : Int32))), ((128 : Int32) + (xcp % (64 : Int32))), e2, e3]) :: (xbb, OA Z .byte [(Int8.toInt32 (Int32.toInt8 xf)), (Int8.toInt32 (Int32.toInt8 xf)), (Int8.toInt32 (Int32.toInt8 xf)), (Int8.toInt32 (Int32.toInt8 ((192 : Int32) ||| (xcp >>> ((6 : Int32) &&& 31))))), (Int8.toInt32 (Int32.toInt8 ((128 : Int32) ||| (xcp &&& (63 : Int32))))), (Int8.toInt32 (Int32.toInt8 xf)), (Int8.toInt32 (Int32.toInt8 xf)), (Int8.toInt32 (Int32.toInt8 xf))]) :: []) := H193.front 1 rfl
      have H196 : OL n0 h183 ((xbb, OA Z .byte [(Int8.toInt32 (Int32.toInt8 xf)), (Int8.toInt32 (Int32.toInt8 xf)), (Int8.toInt32 (Int32.toInt8 xf)), (Int8.toInt32 (Int32.toInt8 ((192 : Int32) ||| (xcp >>> ((6 : Int32) &&& 31))))), (Int8.toInt32 (Int32.toInt8 ((128 : Int32) ||| (xcp &&& (63 : Int32))))), (Int8.toInt32 (Int32.toInt8 xf)), (Int8.toInt32 (Int32.toInt8 xf)), (Int8.toInt32 (Int32.toInt8 xf))]) :: (xee, OA Z .int [((192 : Int32) + (xcp / (64 : Int32))), ((128 : Int32) + (xcp % (64 : Int32))), e2, e3]) :: []) := H195.front 1 rfl
      refine o_callS X191 at_326 (rest := []) (c_atI l Z a0 hw [] n0 _ X191.size xbb (3 : Int32) (3 : Int32) (2 : Int32) xee xf [(Int8.toInt32 (Int32.toInt8 xf)), (Int8.toInt32 (Int32.toInt8 xf)), (Int8.toInt32 (Int32.toInt8 xf)), (Int8.toInt32 (Int32.toInt8 ((192 : Int32) ||| (xcp >>> ((6 : Int32) &&& 31))))), (Int8.toInt32 (Int32.toInt8 ((128 : Int32) ||| (xcp &&& (63 : Int32))))), (Int8.toInt32 (Int32.toInt8 xf)), (Int8.toInt32 (Int32.toInt8 xf)), (Int8.toInt32 (Int32.toInt8 xf))] [((192 : Int32) + (xcp / (64 : Int32))), ((128 : Int32) + (xcp % (64 : Int32))), e2, e3] [] H196 3 rfl (Int8.toInt32 (Int32.toInt8 ((192 : Int32) ||| (xcp >>> ((6 : Int32) &&& 31))))) rfl 0 rfl ((192 : Int32) + (xcp / (64 : Int32))) rfl (by decide) (by decide) (v_e20 xcp hlo hhi)) (hw _ (List.mem_of_getElem? (i := 9) rfl)) (hw _ (List.mem_of_getElem? (i := 10) rfl)) (hw _ (List.mem_of_getElem? (i := 11) rfl)) (hw _ (List.mem_of_getElem? (i := 12) rfl)) (by decide) 0 (by decide) (by decide) rfl [(.ref xbb), (.int (3 : Int32)), (.int (3 : Int32)), (.int (2 : Int32)), (.ref xee), (.int xf)] rfl pd_2 rfl rfl (Nat.le_of_eq rfl) 2 12 rfl rfl (by decide) (by decide) 329 rfl ?_
      rintro _ T194 _ X194 ⟨rfl, rfl⟩
      show OE p e room_1 below s n0 Q' T194 (mkF m 329 #[.val (.int xc), .val (.int xi), .val (.int xf), .val (.int xcp), .val (.int (3 : Int32)), .val (.int (Int8.toInt32 (Int32.toInt8 xf))), .val (.ref xbb), .val (.ref xee), .val (.int (2 : Int32)), .val (.int (5 : Int32))] [(.int (1 : Int32))])
      refine o_ifEq X194 at_329 402 332 (by decide) (by decide) rfl (fun q => by exfalso; exact absurd q (by decide)) ?_
      intro hc329
      refine o_aload X194 at_332 rfl rfl 334 rfl ?_
      refine o_iconst (v := (4 : Int32)) X194 at_334 rfl 335 rfl ?_
      refine o_iload X194 at_335 rfl 337 rfl ?_
      refine o_iload X194 at_337 rfl 339 rfl ?_
      refine o_aload X194 at_339 rfl rfl 341 rfl ?_
      refine o_iloadN X194 at_341 rfl 342 rfl ?_
      have H198 : OL n0 h183 ((xee, OA Z .int [((192 : Int32) + (xcp / (64 : Int32))), ((128 : Int32) + (xcp % (64 : Int32))), e2, e3]) :: (xbb, OA Z .byte [(Int8.toInt32 (Int32.toInt8 xf)), (Int8.toInt32 (Int32.toInt8 xf)), (Int8.toInt32 (Int32.toInt8 xf)), (Int8.toInt32 (Int32.toInt8 ((192 : Int32) ||| (xcp >>> ((6 : Int32) &&& 31))))), (Int8.toInt32 (Int32.toInt8 ((128 : Int32) ||| (xcp &&& (63 : Int32))))), (Int8.toInt32 (Int32.toInt8 xf)), (Int8.toInt32 (Int32.toInt8 xf)), (Int8.toInt32 (Int32.toInt8 xf))]) :: []) := H196.front 1 rfl
      have H199 : OL n0 h183 ((xbb, OA Z .byte [(Int8.toInt32 (Int32.toInt8 xf)), (Int8.toInt32 (Int32.toInt8 xf)), (Int8.toInt32 (Int32.toInt8 xf)), (Int8.toInt32 (Int32.toInt8 ((192 : Int32) ||| (xcp >>> ((6 : Int32) &&& 31))))), (Int8.toInt32 (Int32.toInt8 ((128 : Int32) ||| (xcp &&& (63 : Int32))))), (Int8.toInt32 (Int32.toInt8 xf)), (Int8.toInt32 (Int32.toInt8 xf)), (Int8.toInt32 (Int32.toInt8 xf))]) :: (xee, OA Z .int [((192 : Int32) + (xcp / (64 : Int32))), ((128 : Int32) + (xcp % (64 : Int32))), e2, e3]) :: []) := H198.front 1 rfl
      refine o_callS X194 at_342 (rest := []) (c_atI l Z a0 hw [] n0 _ X194.size xbb (4 : Int32) (3 : Int32) (2 : Int32) xee xf [(Int8.toInt32 (Int32.toInt8 xf)), (Int8.toInt32 (Int32.toInt8 xf)), (Int8.toInt32 (Int32.toInt8 xf)), (Int8.toInt32 (Int32.toInt8 ((192 : Int32) ||| (xcp >>> ((6 : Int32) &&& 31))))), (Int8.toInt32 (Int32.toInt8 ((128 : Int32) ||| (xcp &&& (63 : Int32))))), (Int8.toInt32 (Int32.toInt8 xf)), (Int8.toInt32 (Int32.toInt8 xf)), (Int8.toInt32 (Int32.toInt8 xf))] [((192 : Int32) + (xcp / (64 : Int32))), ((128 : Int32) + (xcp % (64 : Int32))), e2, e3] [] H199 4 rfl (Int8.toInt32 (Int32.toInt8 ((128 : Int32) ||| (xcp &&& (63 : Int32))))) rfl 1 rfl ((128 : Int32) + (xcp % (64 : Int32))) rfl (by decide) (by decide) (v_e21 xcp hlo hhi)) (hw _ (List.mem_of_getElem? (i := 9) rfl)) (hw _ (List.mem_of_getElem? (i := 10) rfl)) (hw _ (List.mem_of_getElem? (i := 11) rfl)) (hw _ (List.mem_of_getElem? (i := 12) rfl)) (by decide) 0 (by decide) (by decide) rfl [(.ref xbb), (.int (4 : Int32)), (.int (3 : Int32)), (.int (2 : Int32)), (.ref xee), (.int xf)] rfl pd_2 rfl rfl (Nat.le_of_eq rfl) 2 12 rfl rfl (by decide) (by decide) 345 rfl ?_
      rintro _ T197 _ X197 ⟨rfl, rfl⟩
      show OE p e room_1 below s n0 Q' T197 (mkF m 345 #[.val (.int xc), .val (.int xi), .val (.int xf), .val (.int xcp), .val (.int (3 : Int32)), .val (.int (Int8.toInt32 (Int32.toInt8 xf))), .val (.ref xbb), .val (.ref xee), .val (.int (2 : Int32)), .val (.int (5 : Int32))] [(.int (1 : Int32))])
      refine o_ifEq X197 at_345 402 348 (by decide) (by decide) rfl (fun q => by exfalso; exact absurd q (by decide)) ?_
      intro hc345
      refine o_aload X197 at_348 rfl rfl 350 rfl ?_
      refine o_iconst (v := (5 : Int32)) X197 at_350 rfl 351 rfl ?_
      refine o_iload X197 at_351 rfl 353 rfl ?_
      refine o_iload X197 at_353 rfl 355 rfl ?_
      refine o_aload X197 at_355 rfl rfl 357 rfl ?_
      refine o_iloadN X197 at_357 rfl 358 rfl ?_
      have H201 : OL n0 h183 ((xee, OA Z .int [((192 : Int32) + (xcp / (64 : Int32))), ((128 : Int32) + (xcp % (64 : Int32))), e2, e3]) :: (xbb, OA Z .byte [(Int8.toInt32 (Int32.toInt8 xf)), (Int8.toInt32 (Int32.toInt8 xf)), (Int8.toInt32 (Int32.toInt8 xf)), (Int8.toInt32 (Int32.toInt8 ((192 : Int32) ||| (xcp >>> ((6 : Int32) &&& 31))))), (Int8.toInt32 (Int32.toInt8 ((128 : Int32) ||| (xcp &&& (63 : Int32))))), (Int8.toInt32 (Int32.toInt8 xf)), (Int8.toInt32 (Int32.toInt8 xf)), (Int8.toInt32 (Int32.toInt8 xf))]) :: []) := H199.front 1 rfl
      have H202 : OL n0 h183 ((xbb, OA Z .byte [(Int8.toInt32 (Int32.toInt8 xf)), (Int8.toInt32 (Int32.toInt8 xf)), (Int8.toInt32 (Int32.toInt8 xf)), (Int8.toInt32 (Int32.toInt8 ((192 : Int32) ||| (xcp >>> ((6 : Int32) &&& 31))))), (Int8.toInt32 (Int32.toInt8 ((128 : Int32) ||| (xcp &&& (63 : Int32))))), (Int8.toInt32 (Int32.toInt8 xf)), (Int8.toInt32 (Int32.toInt8 xf)), (Int8.toInt32 (Int32.toInt8 xf))]) :: (xee, OA Z .int [((192 : Int32) + (xcp / (64 : Int32))), ((128 : Int32) + (xcp % (64 : Int32))), e2, e3]) :: []) := H201.front 1 rfl
      refine o_callS X197 at_358 (rest := []) (c_atO l Z a0 hw [] n0 _ X197.size xbb (5 : Int32) (3 : Int32) (2 : Int32) xee xf [(Int8.toInt32 (Int32.toInt8 xf)), (Int8.toInt32 (Int32.toInt8 xf)), (Int8.toInt32 (Int32.toInt8 xf)), (Int8.toInt32 (Int32.toInt8 ((192 : Int32) ||| (xcp >>> ((6 : Int32) &&& 31))))), (Int8.toInt32 (Int32.toInt8 ((128 : Int32) ||| (xcp &&& (63 : Int32))))), (Int8.toInt32 (Int32.toInt8 xf)), (Int8.toInt32 (Int32.toInt8 xf)), (Int8.toInt32 (Int32.toInt8 xf))] [((192 : Int32) + (xcp / (64 : Int32))), ((128 : Int32) + (xcp % (64 : Int32))), e2, e3] [] H202 5 rfl (Int8.toInt32 (Int32.toInt8 xf)) rfl (by decide) (v_fill _)) (hw _ (List.mem_of_getElem? (i := 9) rfl)) (hw _ (List.mem_of_getElem? (i := 10) rfl)) (hw _ (List.mem_of_getElem? (i := 11) rfl)) (hw _ (List.mem_of_getElem? (i := 12) rfl)) (by decide) 0 (by decide) (by decide) rfl [(.ref xbb), (.int (5 : Int32)), (.int (3 : Int32)), (.int (2 : Int32)), (.ref xee), (.int xf)] rfl pd_2 rfl rfl (Nat.le_of_eq rfl) 2 12 rfl rfl (by decide) (by decide) 361 rfl ?_
      rintro _ T200 _ X200 ⟨rfl, rfl⟩
      show OE p e room_1 below s n0 Q' T200 (mkF m 361 #[.val (.int xc), .val (.int xi), .val (.int xf), .val (.int xcp), .val (.int (3 : Int32)), .val (.int (Int8.toInt32 (Int32.toInt8 xf))), .val (.ref xbb), .val (.ref xee), .val (.int (2 : Int32)), .val (.int (5 : Int32))] [(.int (1 : Int32))])
      refine o_ifEq X200 at_361 402 364 (by decide) (by decide) rfl (fun q => by exfalso; exact absurd q (by decide)) ?_
      intro hc361
      refine o_aload X200 at_364 rfl rfl 366 rfl ?_
      refine o_bipush (v := (6 : Int32)) X200 at_366 rfl 368 rfl ?_
      refine o_iload X200 at_368 rfl 370 rfl ?_
      refine o_iload X200 at_370 rfl 372 rfl ?_
      refine o_aload X200 at_372 rfl rfl 374 rfl ?_
      refine o_iloadN X200 at_374 rfl 375 rfl ?_
      have H204 : OL n0 h183 ((xee, OA Z .int [((192 : Int32) + (xcp / (64 : Int32))), ((128 : Int32) + (xcp % (64 : Int32))), e2, e3]) :: (xbb, OA Z .byte [(Int8.toInt32 (Int32.toInt8 xf)), (Int8.toInt32 (Int32.toInt8 xf)), (Int8.toInt32 (Int32.toInt8 xf)), (Int8.toInt32 (Int32.toInt8 ((192 : Int32) ||| (xcp >>> ((6 : Int32) &&& 31))))), (Int8.toInt32 (Int32.toInt8 ((128 : Int32) ||| (xcp &&& (63 : Int32))))), (Int8.toInt32 (Int32.toInt8 xf)), (Int8.toInt32 (Int32.toInt8 xf)), (Int8.toInt32 (Int32.toInt8 xf))]) :: []) := H202.front 1 rfl
      have H205 : OL n0 h183 ((xbb, OA Z .byte [(Int8.toInt32 (Int32.toInt8 xf)), (Int8.toInt32 (Int32.toInt8 xf)), (Int8.toInt32 (Int32.toInt8 xf)), (Int8.toInt32 (Int32.toInt8 ((192 : Int32) ||| (xcp >>> ((6 : Int32) &&& 31))))), (Int8.toInt32 (Int32.toInt8 ((128 : Int32) ||| (xcp &&& (63 : Int32))))), (Int8.toInt32 (Int32.toInt8 xf)), (Int8.toInt32 (Int32.toInt8 xf)), (Int8.toInt32 (Int32.toInt8 xf))]) :: (xee, OA Z .int [((192 : Int32) + (xcp / (64 : Int32))), ((128 : Int32) + (xcp % (64 : Int32))), e2, e3]) :: []) := H204.front 1 rfl
      refine o_callS X200 at_375 (rest := []) (c_atO l Z a0 hw [] n0 _ X200.size xbb (6 : Int32) (3 : Int32) (2 : Int32) xee xf [(Int8.toInt32 (Int32.toInt8 xf)), (Int8.toInt32 (Int32.toInt8 xf)), (Int8.toInt32 (Int32.toInt8 xf)), (Int8.toInt32 (Int32.toInt8 ((192 : Int32) ||| (xcp >>> ((6 : Int32) &&& 31))))), (Int8.toInt32 (Int32.toInt8 ((128 : Int32) ||| (xcp &&& (63 : Int32))))), (Int8.toInt32 (Int32.toInt8 xf)), (Int8.toInt32 (Int32.toInt8 xf)), (Int8.toInt32 (Int32.toInt8 xf))] [((192 : Int32) + (xcp / (64 : Int32))), ((128 : Int32) + (xcp % (64 : Int32))), e2, e3] [] H205 6 rfl (Int8.toInt32 (Int32.toInt8 xf)) rfl (by decide) (v_fill _)) (hw _ (List.mem_of_getElem? (i := 9) rfl)) (hw _ (List.mem_of_getElem? (i := 10) rfl)) (hw _ (List.mem_of_getElem? (i := 11) rfl)) (hw _ (List.mem_of_getElem? (i := 12) rfl)) (by decide) 0 (by decide) (by decide) rfl [(.ref xbb), (.int (6 : Int32)), (.int (3 : Int32)), (.int (2 : Int32)), (.ref xee), (.int xf)] rfl pd_2 rfl rfl (Nat.le_of_eq rfl) 2 12 rfl rfl (by decide) (by decide) 378 rfl ?_
      rintro _ T203 _ X203 ⟨rfl, rfl⟩
      show OE p e room_1 below s n0 Q' T203 (mkF m 378 #[.val (.int xc), .val (.int xi), .val (.int xf), .val (.int xcp), .val (.int (3 : Int32)), .val (.int (Int8.toInt32 (Int32.toInt8 xf))), .val (.ref xbb), .val (.ref xee), .val (.int (2 : Int32)), .val (.int (5 : Int32))] [(.int (1 : Int32))])
      refine o_ifEq X203 at_378 402 381 (by decide) (by decide) rfl (fun q => by exfalso; exact absurd q (by decide)) ?_
      intro hc378
      refine o_aload X203 at_381 rfl rfl 383 rfl ?_
      refine o_bipush (v := (7 : Int32)) X203 at_383 rfl 385 rfl ?_
      refine o_iload X203 at_385 rfl 387 rfl ?_
      refine o_iload X203 at_387 rfl 389 rfl ?_
      refine o_aload X203 at_389 rfl rfl 391 rfl ?_
      refine o_iloadN X203 at_391 rfl 392 rfl ?_
      have H207 : OL n0 h183 ((xee, OA Z .int [((192 : Int32) + (xcp / (64 : Int32))), ((128 : Int32) + (xcp % (64 : Int32))), e2, e3]) :: (xbb, OA Z .byte [(Int8.toInt32 (Int32.toInt8 xf)), (Int8.toInt32 (Int32.toInt8 xf)), (Int8.toInt32 (Int32.toInt8 xf)), (Int8.toInt32 (Int32.toInt8 ((192 : Int32) ||| (xcp >>> ((6 : Int32) &&& 31))))), (Int8.toInt32 (Int32.toInt8 ((128 : Int32) ||| (xcp &&& (63 : Int32))))), (Int8.toInt32 (Int32.toInt8 xf)), (Int8.toInt32 (Int32.toInt8 xf)), (Int8.toInt32 (Int32.toInt8 xf))]) :: []) := H205.front 1 rfl
      have H208 : OL n0 h183 ((xbb, OA Z .byte [(Int8.toInt32 (Int32.toInt8 xf)), (Int8.toInt32 (Int32.toInt8 xf)), (Int8.toInt32 (Int32.toInt8 xf)), (Int8.toInt32 (Int32.toInt8 ((192 : Int32) ||| (xcp >>> ((6 : Int32) &&& 31))))), (Int8.toInt32 (Int32.toInt8 ((128 : Int32) ||| (xcp &&& (63 : Int32))))), (Int8.toInt32 (Int32.toInt8 xf)), (Int8.toInt32 (Int32.toInt8 xf)), (Int8.toInt32 (Int32.toInt8 xf))]) :: (xee, OA Z .int [((192 : Int32) + (xcp / (64 : Int32))), ((128 : Int32) + (xcp % (64 : Int32))), e2, e3]) :: []) := H207.front 1 rfl
      refine o_callS X203 at_392 (rest := []) (c_atO l Z a0 hw [] n0 _ X203.size xbb (7 : Int32) (3 : Int32) (2 : Int32) xee xf [(Int8.toInt32 (Int32.toInt8 xf)), (Int8.toInt32 (Int32.toInt8 xf)), (Int8.toInt32 (Int32.toInt8 xf)), (Int8.toInt32 (Int32.toInt8 ((192 : Int32) ||| (xcp >>> ((6 : Int32) &&& 31))))), (Int8.toInt32 (Int32.toInt8 ((128 : Int32) ||| (xcp &&& (63 : Int32))))), (Int8.toInt32 (Int32.toInt8 xf)), (Int8.toInt32 (Int32.toInt8 xf)), (Int8.toInt32 (Int32.toInt8 xf))] [((192 : Int32) + (xcp / (64 : Int32))), ((128 : Int32) + (xcp % (64 : Int32))), e2, e3] [] H208 7 rfl (Int8.toInt32 (Int32.toInt8 xf)) rfl (by decide) (v_fill _)) (hw _ (List.mem_of_getElem? (i := 9) rfl)) (hw _ (List.mem_of_getElem? (i := 10) rfl)) (hw _ (List.mem_of_getElem? (i := 11) rfl)) (hw _ (List.mem_of_getElem? (i := 12) rfl)) (by decide) 0 (by decide) (by decide) rfl [(.ref xbb), (.int (7 : Int32)), (.int (3 : Int32)), (.int (2 : Int32)), (.ref xee), (.int xf)] rfl pd_2 rfl rfl (Nat.le_of_eq rfl) 2 12 rfl rfl (by decide) (by decide) 395 rfl ?_
      rintro _ T206 _ X206 ⟨rfl, rfl⟩
      show OE p e room_1 below s n0 Q' T206 (mkF m 395 #[.val (.int xc), .val (.int xi), .val (.int xf), .val (.int xcp), .val (.int (3 : Int32)), .val (.int (Int8.toInt32 (Int32.toInt8 xf))), .val (.ref xbb), .val (.ref xee), .val (.int (2 : Int32)), .val (.int (5 : Int32))] [(.int (1 : Int32))])
      refine o_ifEq X206 at_395 402 398 (by decide) (by decide) rfl (fun q => by exfalso; exact absurd q (by decide)) ?_
      intro hc395
      refine o_iconst (v := (1 : Int32)) X206 at_398 rfl 399 rfl ?_
      refine o_goto X206 at_399 403 (by decide) (by decide) ?_
      exact o_retZ X206 at_403 (by decide) (by decide) (hQ _ _ rfl)
    · skip
      refine o_iloadN X_J248 at_248 rfl 249 rfl ?_
      refine o_aload X_J248 at_249 rfl rfl 251 rfl ?_
      refine o_iload X_J248 at_251 rfl 253 rfl ?_
      have H210 : OL n0 h ((xbb, OA Z .byte [(Int8.toInt32 (Int32.toInt8 xf)), (Int8.toInt32 (Int32.toInt8 xf)), (Int8.toInt32 (Int32.toInt8 xf)), (Int8.toInt32 (Int32.toInt8 xf)), (Int8.toInt32 (Int32.toInt8 xf)), (Int8.toInt32 (Int32.toInt8 xf)), (Int8.toInt32 (Int32.toInt8 xf)), (Int8.toInt32 (Int32.toInt8 xf))]) :: (xee, OA Z .int [((224 : Int32) + (xcp / (4096 : Int32))), ((128 : Int32) + ((xcp / (64 : Int32)) % (64 : Int32))), ((128 : Int32) + (xcp % (64 : Int32))), e3]) :: []) := H_J248.front 1 rfl
      refine o_callS X_J248 at_253 (rest := []) (c_enc3 l Z a0 hw [] n0 _ X_J248.size xcp xbb (0 : Int32) [(Int8.toInt32 (Int32.toInt8 xf)), (Int8.toInt32 (Int32.toInt8 xf)), (Int8.toInt32 (Int32.toInt8 xf)), (Int8.toInt32 (Int32.toInt8 xf)), (Int8.toInt32 (Int32.toInt8 xf)), (Int8.toInt32 (Int32.toInt8 xf)), (Int8.toInt32 (Int32.toInt8 xf)), (Int8.toInt32 (Int32.toInt8 xf))] ((xee, OA Z .int [((224 : Int32) + (xcp / (4096 : Int32))), ((128 : Int32) + ((xcp / (64 : Int32)) % (64 : Int32))), ((128 : Int32) + (xcp % (64 : Int32))), e3]) :: []) H210 0 rfl (by show 3 ≤ 8; decide) (by decide) hlo hhi) (hw _ (List.mem_of_getElem? (i := 5) rfl)) (hw _ (List.mem_of_getElem? (i := 6) rfl)) (hw _ (List.mem_of_getElem? (i := 7) rfl)) (hw _ (List.mem_of_getElem? (i := 8) rfl)) (by decide) 0 (by decide) (by decide) rfl [(.int xcp), (.ref xbb), (.int (0 : Int32))] rfl pd_1 rfl rfl (Nat.le_of_eq rfl) 2 12 rfl rfl (by decide) (by decide) 256 rfl ?_
      rintro _ T209 h209 X209 ⟨rfl, H209⟩
      replace H209 : OL n0 h209 ((xbb, OA Z .byte [(Int8.toInt32 (Int32.toInt8 ((224 : Int32) ||| (xcp >>> ((12 : Int32) &&& 31))))), (Int8.toInt32 (Int32.toInt8 ((128 : Int32) ||| ((xcp >>> ((6 : Int32) &&& 31)) &&& (63 : Int32))))), (Int8.toInt32 (Int32.toInt8 ((128 : Int32) ||| (xcp &&& (63 : Int32))))), (Int8.toInt32 (Int32.toInt8 xf)), (Int8.toInt32 (Int32.toInt8 xf)), (Int8.toInt32 (Int32.toInt8 xf)), (Int8.toInt32 (Int32.toInt8 xf)), (Int8.toInt32 (Int32.toInt8 xf))]) :: (xee, OA Z .int [((224 : Int32) + (xcp / (4096 : Int32))), ((128 : Int32) + ((xcp / (64 : Int32)) % (64 : Int32))), ((128 : Int32) + (xcp % (64 : Int32))), e3]) :: []) := H209
      show OE p e room_1 below s n0 Q' T209 (mkF m 256 #[.val (.int xc), .val (.int xi), .val (.int xf), .val (.int xcp), .val (.int (0 : Int32)), .val (.int (Int8.toInt32 (Int32.toInt8 xf))), .val (.ref xbb), .val (.ref xee), .val (.int (3 : Int32)), .unset] [(.int ((((0 : Int32) + (1 : Int32)) + (1 : Int32)) + (1 : Int32)))])
      refine o_istore X209 at_256 #[.val (.int xc), .val (.int xi), .val (.int xf), .val (.int xcp), .val (.int (0 : Int32)), .val (.int (Int8.toInt32 (Int32.toInt8 xf))), .val (.ref xbb), .val (.ref xee), .val (.int (3 : Int32)), .val (.int ((((0 : Int32) + (1 : Int32)) + (1 : Int32)) + (1 : Int32)))] rfl 258 rfl ?_
      rw [show ((((0 : Int32) + (1 : Int32)) + (1 : Int32)) + (1 : Int32)) = (3 : Int32) from rfl]
      refine o_iload X209 at_258 rfl 260 rfl ?_
      refine o_iload X209 at_260 rfl 262 rfl ?_
      refine o_iload X209 at_262 rfl 264 rfl ?_
      refine o_iadd X209 at_264 265 rfl ?_
      refine o_icmpNe X209 at_265 402 268 (by decide) (by decide) rfl (fun q => by exfalso; exact q rfl) ?_
      intro hc265
      refine o_aload X209 at_268 rfl rfl 270 rfl ?_
      refine o_iconst (v := (0 : Int32)) X209 at_270 rfl 271 rfl ?_
      refine o_iload X209 at_271 rfl 273 rfl ?_
      refine o_iload X209 at_273 rfl 275 rfl ?_
      refine o_aload X209 at_275 rfl rfl 277 rfl ?_
      refine o_iloadN X209 at_277 rfl 278 rfl ?_
      have H212 : OL n0 h209 ((xee, OA Z .int [((224 : Int32) + (xcp / (4096 : Int32))), ((128 : Int32) + ((xcp / (64 : Int32)) % (64 : Int32))), ((128 : Int32) + (xcp % (64 : Int32))), e3]) :: (xbb, OA Z .byte [(Int8.toInt32 (Int32.toInt8 ((224 : Int32) ||| (xcp >>> ((12 : Int32) &&& 31))))), (Int8.toInt32 (Int32.toInt8 ((128 : Int32) ||| ((xcp >>> ((6 : Int32) &&& 31)) &&& (63 : Int32))))), (Int8.toInt32 (Int32.toInt8 ((128 : Int32) ||| (xcp &&& (63 : Int32))))), (Int8.toInt32 (Int32.toInt8 xf)), (Int8.toInt32 (Int32.toInt8 xf)), (Int8.toInt32 (Int32.toInt8 xf)), (Int8.toInt32 (Int32.toInt8 xf)), (Int8.toInt32 (Int32.toInt8 xf))]) :: []) := H209.front 1 rfl
      have H213 : OL n0 h209 ((xbb, OA Z .byte [(Int8.toInt32 (Int32.toInt8 ((224 : Int32) ||| (xcp >>> ((12 : Int32) &&& 31))))), (Int8.toInt32 (Int32.toInt8 ((128 : Int32) ||| ((xcp >>> ((6 : Int32) &&& 31)) &&& (63 : Int32))))), (Int8.toInt32 (Int32.toInt8 ((128 : Int32) ||| (xcp &&& (63 : Int32))))), (Int8.toInt32 (Int32.toInt8 xf)), (Int8.toInt32 (Int32.toInt8 xf)), (Int8.toInt32 (Int32.toInt8 xf)), (Int8.toInt32 (Int32.toInt8 xf)), (Int8.toInt32 (Int32.toInt8 xf))]) :: (xee, OA Z .int [((224 : Int32) + (xcp / (4096 : Int32))), ((128 : Int32) + ((xcp / (64 : Int32)) % (64 : Int32))), ((128 : Int32) + (xcp % (64 : Int32))), e3]) :: []) := H212.front 1 rfl
      refine o_callS X209 at_278 (rest := []) (c_atI l Z a0 hw [] n0 _ X209.size xbb (0 : Int32) (0 : Int32) (3 : Int32) xee xf [(Int8.toInt32 (Int32.toInt8 ((224 : Int32) ||| (xcp >>> ((12 : Int32) &&& 31))))), (Int8.toInt32 (Int32.toInt8 ((128 : Int32) ||| ((xcp >>> ((6 : Int32) &&& 31)) &&& (63 : Int32))))), (Int8.toInt32 (Int32.toInt8 ((128 : Int32) ||| (xcp &&& (63 : Int32))))), (Int8.toInt32 (Int32.toInt8 xf)), (Int8.toInt32 (Int32.toInt8 xf)), (Int8.toInt32 (Int32.toInt8 xf)), (Int8.toInt32 (Int32.toInt8 xf)), (Int8.toInt32 (Int32.toInt8 xf))] [((224 : Int32) + (xcp / (4096 : Int32))), ((128 : Int32) + ((xcp / (64 : Int32)) % (64 : Int32))), ((128 : Int32) + (xcp % (64 : Int32))), e3] [] H213 0 rfl (Int8.toInt32 (Int32.toInt8 ((224 : Int32) ||| (xcp >>> ((12 : Int32) &&& 31))))) rfl 0 rfl ((224 : Int32) + (xcp / (4096 : Int32))) rfl (by decide) (by decide) (v_e30 xcp hlo hhi)) (hw _ (List.mem_of_getElem? (i := 9) rfl)) (hw _ (List.mem_of_getElem? (i := 10) rfl)) (hw _ (List.mem_of_getElem? (i := 11) rfl)) (hw _ (List.mem_of_getElem? (i := 12) rfl)) (by decide) 0 (by decide) (by decide) rfl [(.ref xbb), (.int (0 : Int32)), (.int (0 : Int32)), (.int (3 : Int32)), (.ref xee), (.int xf)] rfl pd_2 rfl rfl (Nat.le_of_eq rfl) 2 12 rfl rfl (by decide) (by decide) 281 rfl ?_
      rintro _ T211 _ X211 ⟨rfl, rfl⟩
      show OE p e room_1 below s n0 Q' T211 (mkF m 281 #[.val (.int xc), .val (.int xi), .val (.int xf), .val (.int xcp), .val (.int (0 : Int32)), .val (.int (Int8.toInt32 (Int32.toInt8 xf))), .val (.ref xbb), .val (.ref xee), .val (.int (3 : Int32)), .val (.int (3 : Int32))] [(.int (1 : Int32))])
      refine o_ifEq X211 at_281 402 284 (by decide) (by decide) rfl (fun q => by exfalso; exact absurd q (by decide)) ?_
      intro hc281
      refine o_aload X211 at_284 rfl rfl 286 rfl ?_
      refine o_iconst (v := (1 : Int32)) X211 at_286 rfl 287 rfl ?_
      refine o_iload X211 at_287 rfl 289 rfl ?_
      refine o_iload X211 at_289 rfl 291 rfl ?_
      refine o_aload X211 at_291 rfl rfl 293 rfl ?_
      refine o_iloadN X211 at_293 rfl 294 rfl ?_
      have H215 : OL n0 h209 ((xee, OA Z .int [((224 : Int32) + (xcp / (4096 : Int32))), ((128 : Int32) + ((xcp / (64 : Int32)) % (64 : Int32))), ((128 : Int32) + (xcp % (64 : Int32))), e3]) :: (xbb, OA Z .byte [(Int8.toInt32 (Int32.toInt8 ((224 : Int32) ||| (xcp >>> ((12 : Int32) &&& 31))))), (Int8.toInt32 (Int32.toInt8 ((128 : Int32) ||| ((xcp >>> ((6 : Int32) &&& 31)) &&& (63 : Int32))))), (Int8.toInt32 (Int32.toInt8 ((128 : Int32) ||| (xcp &&& (63 : Int32))))), (Int8.toInt32 (Int32.toInt8 xf)), (Int8.toInt32 (Int32.toInt8 xf)), (Int8.toInt32 (Int32.toInt8 xf)), (Int8.toInt32 (Int32.toInt8 xf)), (Int8.toInt32 (Int32.toInt8 xf))]) :: []) := H213.front 1 rfl
      have H216 : OL n0 h209 ((xbb, OA Z .byte [(Int8.toInt32 (Int32.toInt8 ((224 : Int32) ||| (xcp >>> ((12 : Int32) &&& 31))))), (Int8.toInt32 (Int32.toInt8 ((128 : Int32) ||| ((xcp >>> ((6 : Int32) &&& 31)) &&& (63 : Int32))))), (Int8.toInt32 (Int32.toInt8 ((128 : Int32) ||| (xcp &&& (63 : Int32))))), (Int8.toInt32 (Int32.toInt8 xf)), (Int8.toInt32 (Int32.toInt8 xf)), (Int8.toInt32 (Int32.toInt8 xf)), (Int8.toInt32 (Int32.toInt8 xf)), (Int8.toInt32 (Int32.toInt8 xf))]) :: (xee, OA Z .int [((224 : Int32) + (xcp / (4096 : Int32))), ((128 : Int32) + ((xcp / (64 : Int32)) % (64 : Int32))), ((128 : Int32) + (xcp % (64 : Int32))), e3]) :: []) := H215.front 1 rfl
      refine o_callS X211 at_294 (rest := []) (c_atI l Z a0 hw [] n0 _ X211.size xbb (1 : Int32) (0 : Int32) (3 : Int32) xee xf [(Int8.toInt32 (Int32.toInt8 ((224 : Int32) ||| (xcp >>> ((12 : Int32) &&& 31))))), (Int8.toInt32 (Int32.toInt8 ((128 : Int32) ||| ((xcp >>> ((6 : Int32) &&& 31)) &&& (63 : Int32))))), (Int8.toInt32 (Int32.toInt8 ((128 : Int32) ||| (xcp &&& (63 : Int32))))), (Int8.toInt32 (Int32.toInt8 xf)), (Int8.toInt32 (Int32.toInt8 xf)), (Int8.toInt32 (Int32.toInt8 xf)), (Int8.toInt32 (Int32.toInt8 xf)), (Int8.toInt32 (Int32.toInt8 xf))] [((224 : Int32) + (xcp / (4096 : Int32))), ((128 : Int32) + ((xcp / (64 : Int32)) % (64 : Int32))), ((128 : Int32) + (xcp % (64 : Int32))), e3] [] H216 1 rfl (Int8.toInt32 (Int32.toInt8 ((128 : Int32) ||| ((xcp >>> ((6 : Int32) &&& 31)) &&& (63 : Int32))))) rfl 1 rfl ((128 : Int32) + ((xcp / (64 : Int32)) % (64 : Int32))) rfl (by decide) (by decide) (v_e31 xcp hlo hhi)) (hw _ (List.mem_of_getElem? (i := 9) rfl)) (hw _ (List.mem_of_getElem? (i := 10) rfl)) (hw _ (List.mem_of_getElem? (i := 11) rfl)) (hw _ (List.mem_of_getElem? (i := 12) rfl)) (by decide) 0 (by decide) (by decide) rfl [(.ref xbb), (.int (1 : Int32)), (.int (0 : Int32)), (.int (3 : Int32)), (.ref xee), (.int xf)] rfl pd_2 rfl rfl (Nat.le_of_eq rfl) 2 12 rfl rfl (by decide) (by decide) 297 rfl ?_
      rintro _ T214 _ X214 ⟨rfl, rfl⟩
      show OE p e room_1 below s n0 Q' T214 (mkF m 297 #[.val (.int xc), .val (.int xi), .val (.int xf), .val (.int xcp), .val (.int (0 : Int32)), .val (.int (Int8.toInt32 (Int32.toInt8 xf))), .val (.ref xbb), .val (.ref xee), .val (.int (3 : Int32)), .val (.int (3 : Int32))] [(.int (1 : Int32))])
      refine o_ifEq X214 at_297 402 300 (by decide) (by decide) rfl (fun q => by exfalso; exact absurd q (by decide)) ?_
      intro hc297
      refine o_aload X214 at_300 rfl rfl 302 rfl ?_
      refine o_iconst (v := (2 : Int32)) X214 at_302 rfl 303 rfl ?_
      refine o_iload X214 at_303 rfl 305 rfl ?_
      refine o_iload X214 at_305 rfl 307 rfl ?_
      refine o_aload X214 at_307 rfl rfl 309 rfl ?_
      refine o_iloadN X214 at_309 rfl 310 rfl ?_
      have H218 : OL n0 h209 ((xee, OA Z .int [((224 : Int32) + (xcp / (4096 : Int32))), ((128 : Int32) + ((xcp / (64 : Int32)) % (64 : Int32))), ((128 : Int32) + (xcp % (64 : Int32))), e3]) :: (xbb, OA Z .byte [(Int8.toInt32 (Int32.toInt8 ((224 : Int32) ||| (xcp >>> ((12 : Int32) &&& 31))))), (Int8.toInt32 (Int32.toInt8 ((128 : Int32) ||| ((xcp >>> ((6 : Int32) &&& 31)) &&& (63 : Int32))))), (Int8.toInt32 (Int32.toInt8 ((128 : Int32) ||| (xcp &&& (63 : Int32))))), (Int8.toInt32 (Int32.toInt8 xf)), (Int8.toInt32 (Int32.toInt8 xf)), (Int8.toInt32 (Int32.toInt8 xf)), (Int8.toInt32 (Int32.toInt8 xf)), (Int8.toInt32 (Int32.toInt8 xf))]) :: []) := H216.front 1 rfl
      have H219 : OL n0 h209 ((xbb, OA Z .byte [(Int8.toInt32 (Int32.toInt8 ((224 : Int32) ||| (xcp >>> ((12 : Int32) &&& 31))))), (Int8.toInt32 (Int32.toInt8 ((128 : Int32) ||| ((xcp >>> ((6 : Int32) &&& 31)) &&& (63 : Int32))))), (Int8.toInt32 (Int32.toInt8 ((128 : Int32) ||| (xcp &&& (63 : Int32))))), (Int8.toInt32 (Int32.toInt8 xf)), (Int8.toInt32 (Int32.toInt8 xf)), (Int8.toInt32 (Int32.toInt8 xf)), (Int8.toInt32 (Int32.toInt8 xf)), (Int8.toInt32 (Int32.toInt8 xf))]) :: (xee, OA Z .int [((224 : Int32) + (xcp / (4096 : Int32))), ((128 : Int32) + ((xcp / (64 : Int32)) % (64 : Int32))), ((128 : Int32) + (xcp % (64 : Int32))), e3]) :: []) := H218.front 1 rfl
      refine o_callS X214 at_310 (rest := []) (c_atI l Z a0 hw [] n0 _ X214.size xbb (2 : Int32) (0 : Int32) (3 : Int32) xee xf [(Int8.toInt32 (Int32.toInt8 ((224 : Int32) ||| (xcp >>> ((12 : Int32) &&& 31))))), (Int8.toInt32 (Int32.toInt8 ((128 : Int32) ||| ((xcp >>> ((6 : Int32) &&& 31)) &&& (63 : Int32))))), (Int8.toInt32 (Int32.toInt8 ((128 : Int32) ||| (xcp &&& (63 : Int32))))), (Int8.toInt32 (Int32.toInt8 xf)), (Int8.toInt32 (Int32.toInt8 xf)), (Int8.toInt32 (Int32.toInt8 xf)), (Int8.toInt32 (Int32.toInt8 xf)), (Int8.toInt32 (Int32.toInt8 xf))] [((224 : Int32) + (xcp / (4096 : Int32))), ((128 : Int32) + ((xcp / (64 : Int32)) % (64 : Int32))), ((128 : Int32) + (xcp % (64 : Int32))), e3] [] H219 2 rfl (Int8.toInt32 (Int32.toInt8 ((128 : Int32) ||| (xcp &&& (63 : Int32))))) rfl 2 rfl ((128 : Int32) + (xcp % (64 : Int32))) rfl (by decide) (by decide) (v_e32 xcp hlo hhi)) (hw _ (List.mem_of_getElem? (i := 9) rfl)) (hw _ (List.mem_of_getElem? (i := 10) rfl)) (hw _ (List.mem_of_getElem? (i := 11) rfl)) (hw _ (List.mem_of_getElem? (i := 12) rfl)) (by decide) 0 (by decide) (by decide) rfl [(.ref xbb), (.int (2 : Int32)), (.int (0 : Int32)), (.int (3 : Int32)), (.ref xee), (.int xf)] rfl pd_2 rfl rfl (Nat.le_of_eq rfl) 2 12 rfl rfl (by decide) (by decide) 313 rfl ?_
      rintro _ T217 _ X217 ⟨rfl, rfl⟩
      show OE p e room_1 below s n0 Q' T217 (mkF m 313 #[.val (.int xc), .val (.int xi), .val (.int xf), .val (.int xcp), .val (.int (0 : Int32)), .val (.int (Int8.toInt32 (Int32.toInt8 xf))), .val (.ref xbb), .val (.ref xee), .val (.int (3 : Int32)), .val (.int (3 : Int32))] [(.int (1 : Int32))])
      refine o_ifEq X217 at_313 402 316 (by decide) (by decide) rfl (fun q => by exfalso; exact absurd q (by decide)) ?_
      intro hc313
      refine o_aload X217 at_316 rfl rfl 318 rfl ?_
      refine o_iconst (v := (3 : Int32)) X217 at_318 rfl 319 rfl ?_
      refine o_iload X217 at_319 rfl 321 rfl ?_
      refine o_iload X217 at_321 rfl 323 rfl ?_
      refine o_aload X217 at_323 rfl rfl 325 rfl ?_
      refine o_iloadN X217 at_325 rfl 326 rfl ?_
      have H221 : OL n0 h209 ((xee, OA Z .int [((224 : Int32) + (xcp / (4096 : Int32))), ((128 : Int32) + ((xcp / (64 : Int32)) % (64 : Int32))), ((128 : Int32) + (xcp % (64 : Int32))), e3]) :: (xbb, OA Z .byte [(Int8.toInt32 (Int32.toInt8 ((224 : Int32) ||| (xcp >>> ((12 : Int32) &&& 31))))), (Int8.toInt32 (Int32.toInt8 ((128 : Int32) ||| ((xcp >>> ((6 : Int32) &&& 31)) &&& (63 : Int32))))), (Int8.toInt32 (Int32.toInt8 ((128 : Int32) ||| (xcp &&& (63 : Int32))))), (Int8.toInt32 (Int32.toInt8 xf)), (Int8.toInt32 (Int32.toInt8 xf)), (Int8.toInt32 (Int32.toInt8 xf)), (Int8.toInt32 (Int32.toInt8 xf)), (Int8.toInt32 (Int32.toInt8 xf))]) :: []) := H219.front 1 rfl
      have H222 : OL n0 h209 ((xbb, OA Z .byte [(Int8.toInt32 (Int32.toInt8 ((224 : Int32) ||| (xcp >>> ((12 : Int32) &&& 31))))), (Int8.toInt32 (Int32.toInt8 ((128 : Int32) ||| ((xcp >>> ((6 : Int32) &&& 31)) &&& (63 : Int32))))), (Int8.toInt32 (Int32.toInt8 ((128 : Int32) ||| (xcp &&& (63 : Int32))))), (Int8.toInt32 (Int32.toInt8 xf)), (Int8.toInt32 (Int32.toInt8 xf)), (Int8.toInt32 (Int32.toInt8 xf)), (Int8.toInt32 (Int32.toInt8 xf)), (Int8.toInt32 (Int32.toInt8 xf))]) :: (xee, OA Z .int [((224 : Int32) + (xcp / (4096 : Int32))), ((128 : Int32) + ((xcp / (64 : Int32)) % (64 : Int32))), ((128 : Int32) + (xcp % (64 : Int32))), e3]) :: []) := H221.front 1 rfl
      refine o_callS X217 at_326 (rest := []) (c_atO l Z a0 hw [] n0 _ X217.size xbb (3 : Int32) (0 : Int32) (3 : Int32) xee xf [(Int8.toInt32 (Int32.toInt8 ((224 : Int32) ||| (xcp >>> ((12 : Int32) &&& 31))))), (Int8.toInt32 (Int32.toInt8 ((128 : Int32) ||| ((xcp >>> ((6 : Int32) &&& 31)) &&& (63 : Int32))))), (Int8.toInt32 (Int32.toInt8 ((128 : Int32) ||| (xcp &&& (63 : Int32))))), (Int8.toInt32 (Int32.toInt8 xf)), (Int8.toInt32 (Int32.toInt8 xf)), (Int8.toInt32 (Int32.toInt8 xf)), (Int8.toInt32 (Int32.toInt8 xf)), (Int8.toInt32 (Int32.toInt8 xf))] [((224 : Int32) + (xcp / (4096 : Int32))), ((128 : Int32) + ((xcp / (64 : Int32)) % (64 : Int32))), ((128 : Int32) + (xcp % (64 : Int32))), e3] [] H222 3 rfl (Int8.toInt32 (Int32.toInt8 xf)) rfl (by decide) (v_fill _)) (hw _ (List.mem_of_getElem? (i := 9) rfl)) (hw _ (List.mem_of_getElem? (i := 10) rfl)) (hw _ (List.mem_of_getElem? (i := 11) rfl)) (hw _ (List.mem_of_getElem? (i := 12) rfl)) (by decide) 0 (by decide) (by decide) rfl [(.ref xbb), (.int (3 : Int32)), (.int (0 : Int32)), (.int (3 : Int32)), (.ref xee), (.int xf)] rfl pd_2 rfl rfl (Nat.le_of_eq rfl) 2 12 rfl rfl (by decide) (by decide) 329 rfl ?_
      rintro _ T220 _ X220 ⟨rfl, rfl⟩
      show OE p e room_1 below s n0 Q' T220 (mkF m 329 #[.val (.int xc), .val (.int xi), .val (.int xf), .val (.int xcp), .val (.int (0 : Int32)), .val (.int (Int8.toInt32 (Int32.toInt8 xf))), .val (.ref xbb), .val (.ref xee), .val (.int (3 : Int32)), .val (.int (3 : Int32))] [(.int (1 : Int32))])
      refine o_ifEq X220 at_329 402 332 (by decide) (by decide) rfl (fun q => by exfalso; exact absurd q (by decide)) ?_
      intro hc329
      refine o_aload X220 at_332 rfl rfl 334 rfl ?_
      refine o_iconst (v := (4 : Int32)) X220 at_334 rfl 335 rfl ?_
      refine o_iload X220 at_335 rfl 337 rfl ?_
      refine o_iload X220 at_337 rfl 339 rfl ?_
      refine o_aload X220 at_339 rfl rfl 341 rfl ?_
      refine o_iloadN X220 at_341 rfl 342 rfl ?_
      have H224 : OL n0 h209 ((xee, OA Z .int [((224 : Int32) + (xcp / (4096 : Int32))), ((128 : Int32) + ((xcp / (64 : Int32)) % (64 : Int32))), ((128 : Int32) + (xcp % (64 : Int32))), e3]) :: (xbb, OA Z .byte [(Int8.toInt32 (Int32.toInt8 ((224 : Int32) ||| (xcp >>> ((12 : Int32) &&& 31))))), (Int8.toInt32 (Int32.toInt8 ((128 : Int32) ||| ((xcp >>> ((6 : Int32) &&& 31)) &&& (63 : Int32))))), (Int8.toInt32 (Int32.toInt8 ((128 : Int32) ||| (xcp &&& (63 : Int32))))), (Int8.toInt32 (Int32.toInt8 xf)), (Int8.toInt32 (Int32.toInt8 xf)), (Int8.toInt32 (Int32.toInt8 xf)), (Int8.toInt32 (Int32.toInt8 xf)), (Int8.toInt32 (Int32.toInt8 xf))]) :: []) := H222.front 1 rfl
      have H225 : OL n0 h209 ((xbb, OA Z .byte [(Int8.toInt32 (Int32.toInt8 ((224 : Int32) ||| (xcp >>> ((12 : Int32) &&& 31))))), (Int8.toInt32 (Int32.toInt8 ((128 : Int32) ||| ((xcp >>> ((6 : Int32) &&& 31)) &&& (63 : Int32))))), (Int8.toInt32 (Int32.toInt8 ((128 : Int32) ||| (xcp &&& (63 : Int32))))), (Int8.toInt32 (Int32.toInt8 xf)), (Int8.toInt32 (Int32.toInt8 xf)), (Int8.toInt32 (Int32.toInt8 xf)), (Int8.toInt32 (Int32.toInt8 xf)), (Int8.toInt32 (Int32.toInt8 xf))]) :: (xee, OA Z .int [((224 : Int32) + (xcp / (4096 : Int32))), ((128 : Int32) + ((xcp / (64 : Int32)) % (64 : Int32))), ((128 : Int32) + (xcp % (64 : Int32))), e3]) :: []) := H224.front 1 rfl
      refine o_callS X220 at_342 (rest := []) (c_atO l Z a0 hw [] n0 _ X220.size xbb (4 : Int32) (0 : Int32) (3 : Int32) xee xf [(Int8.toInt32 (Int32.toInt8 ((224 : Int32) ||| (xcp >>> ((12 : Int32) &&& 31))))), (Int8.toInt32 (Int32.toInt8 ((128 : Int32) ||| ((xcp >>> ((6 : Int32) &&& 31)) &&& (63 : Int32))))), (Int8.toInt32 (Int32.toInt8 ((128 : Int32) ||| (xcp &&& (63 : Int32))))), (Int8.toInt32 (Int32.toInt8 xf)), (Int8.toInt32 (Int32.toInt8 xf)), (Int8.toInt32 (Int32.toInt8 xf)), (Int8.toInt32 (Int32.toInt8 xf)), (Int8.toInt32 (Int32.toInt8 xf))] [((224 : Int32) + (xcp / (4096 : Int32))), ((128 : Int32) + ((xcp / (64 : Int32)) % (64 : Int32))), ((128 : Int32) + (xcp % (64 : Int32))), e3] [] H225 4 rfl (Int8.toInt32 (Int32.toInt8 xf)) rfl (by decide) (v_fill _)) (hw _ (List.mem_of_getElem? (i := 9) rfl)) (hw _ (List.mem_of_getElem? (i := 10) rfl)) (hw _ (List.mem_of_getElem? (i := 11) rfl)) (hw _ (List.mem_of_getElem? (i := 12) rfl)) (by decide) 0 (by decide) (by decide) rfl [(.ref xbb), (.int (4 : Int32)), (.int (0 : Int32)), (.int (3 : Int32)), (.ref xee), (.int xf)] rfl pd_2 rfl rfl (Nat.le_of_eq rfl) 2 12 rfl rfl (by decide) (by decide) 345 rfl ?_
      rintro _ T223 _ X223 ⟨rfl, rfl⟩
      show OE p e room_1 below s n0 Q' T223 (mkF m 345 #[.val (.int xc), .val (.int xi), .val (.int xf), .val (.int xcp), .val (.int (0 : Int32)), .val (.int (Int8.toInt32 (Int32.toInt8 xf))), .val (.ref xbb), .val (.ref xee), .val (.int (3 : Int32)), .val (.int (3 : Int32))] [(.int (1 : Int32))])
      refine o_ifEq X223 at_345 402 348 (by decide) (by decide) rfl (fun q => by exfalso; exact absurd q (by decide)) ?_
      intro hc345
      refine o_aload X223 at_348 rfl rfl 350 rfl ?_
      refine o_iconst (v := (5 : Int32)) X223 at_350 rfl 351 rfl ?_
      refine o_iload X223 at_351 rfl 353 rfl ?_
      refine o_iload X223 at_353 rfl 355 rfl ?_
      refine o_aload X223 at_355 rfl rfl 357 rfl ?_
      refine o_iloadN X223 at_357 rfl 358 rfl ?_
      have H227 : OL n0 h209 ((xee, OA Z .int [((224 : Int32) + (xcp / (4096 : Int32))), ((128 : Int32) + ((xcp / (64 : Int32)) % (64 : Int32))), ((128 : Int32) + (xcp % (64 : Int32))), e3]) :: (xbb, OA Z .byte [(Int8.toInt32 (Int32.toInt8 ((224 : Int32) ||| (xcp >>> ((12 : Int32) &&& 31))))), (Int8.toInt32 (Int32.toInt8 ((128 : Int32) ||| ((xcp >>> ((6 : Int32) &&& 31)) &&& (63 : Int32))))), (Int8.toInt32 (Int32.toInt8 ((128 : Int32) ||| (xcp &&& (63 : Int32))))), (Int8.toInt32 (Int32.toInt8 xf)), (Int8.toInt32 (Int32.toInt8 xf)), (Int8.toInt32 (Int32.toInt8 xf)), (Int8.toInt32 (Int32.toInt8 xf)), (Int8.toInt32 (Int32.toInt8 xf))]) :: []) := H225.front 1 rfl
      have H228 : OL n0 h209 ((xbb, OA Z .byte [(Int8.toInt32 (Int32.toInt8 ((224 : Int32) ||| (xcp >>> ((12 : Int32) &&& 31))))), (Int8.toInt32 (Int32.toInt8 ((128 : Int32) ||| ((xcp >>> ((6 : Int32) &&& 31)) &&& (63 : Int32))))), (Int8.toInt32 (Int32.toInt8 ((128 : Int32) ||| (xcp &&& (63 : Int32))))), (Int8.toInt32 (Int32.toInt8 xf)), (Int8.toInt32 (Int32.toInt8 xf)), (Int8.toInt32 (Int32.toInt8 xf)), (Int8.toInt32 (Int32.toInt8 xf)), (Int8.toInt32 (Int32.toInt8 xf))]) :: (xee, OA Z .int [((224 : Int32) + (xcp / (4096 : Int32))), ((128 : Int32) + ((xcp / (64 : Int32)) % (64 : Int32))), ((128 : Int32) + (xcp % (64 : Int32))), e3]) :: []) := H227.front 1 rfl
      refine o_callS X223 at_358 (rest := []) (c_atO l Z a0 hw [] n0 _ X223.size xbb (5 : Int32) (0 : Int32) (3 : Int32) xee xf [(Int8.toInt32 (Int32.toInt8 ((224 : Int32) ||| (xcp >>> ((12 : Int32) &&& 31))))), (Int8.toInt32 (Int32.toInt8 ((128 : Int32) ||| ((xcp >>> ((6 : Int32) &&& 31)) &&& (63 : Int32))))), (Int8.toInt32 (Int32.toInt8 ((128 : Int32) ||| (xcp &&& (63 : Int32))))), (Int8.toInt32 (Int32.toInt8 xf)), (Int8.toInt32 (Int32.toInt8 xf)), (Int8.toInt32 (Int32.toInt8 xf)), (Int8.toInt32 (Int32.toInt8 xf)), (Int8.toInt32 (Int32.toInt8 xf))] [((224 : Int32) + (xcp / (4096 : Int32))), ((128 : Int32) + ((xcp / (64 : Int32)) % (64 : Int32))), ((128 : Int32) + (xcp % (64 : Int32))), e3] [] H228 5 rfl (Int8.toInt32 (Int32.toInt8 xf)) rfl (by decide) (v_fill _)) (hw _ (List.mem_of_getElem? (i := 9) rfl)) (hw _ (List.mem_of_getElem? (i := 10) rfl)) (hw _ (List.mem_of_getElem? (i := 11) rfl)) (hw _ (List.mem_of_getElem? (i := 12) rfl)) (by decide) 0 (by decide) (by decide) rfl [(.ref xbb), (.int (5 : Int32)), (.int (0 : Int32)), (.int (3 : Int32)), (.ref xee), (.int xf)] rfl pd_2 rfl rfl (Nat.le_of_eq rfl) 2 12 rfl rfl (by decide) (by decide) 361 rfl ?_
      rintro _ T226 _ X226 ⟨rfl, rfl⟩
      show OE p e room_1 below s n0 Q' T226 (mkF m 361 #[.val (.int xc), .val (.int xi), .val (.int xf), .val (.int xcp), .val (.int (0 : Int32)), .val (.int (Int8.toInt32 (Int32.toInt8 xf))), .val (.ref xbb), .val (.ref xee), .val (.int (3 : Int32)), .val (.int (3 : Int32))] [(.int (1 : Int32))])
      refine o_ifEq X226 at_361 402 364 (by decide) (by decide) rfl (fun q => by exfalso; exact absurd q (by decide)) ?_
      intro hc361
      refine o_aload X226 at_364 rfl rfl 366 rfl ?_
      refine o_bipush (v := (6 : Int32)) X226 at_366 rfl 368 rfl ?_
      refine o_iload X226 at_368 rfl 370 rfl ?_
      refine o_iload X226 at_370 rfl 372 rfl ?_
      refine o_aload X226 at_372 rfl rfl 374 rfl ?_
      refine o_iloadN X226 at_374 rfl 375 rfl ?_
      have H230 : OL n0 h209 ((xee, OA Z .int [((224 : Int32) + (xcp / (4096 : Int32))), ((128 : Int32) + ((xcp / (64 : Int32)) % (64 : Int32))), ((128 : Int32) + (xcp % (64 : Int32))), e3]) :: (xbb, OA Z .byte [(Int8.toInt32 (Int32.toInt8 ((224 : Int32) ||| (xcp >>> ((12 : Int32) &&& 31))))), (Int8.toInt32 (Int32.toInt8 ((128 : Int32) ||| ((xcp >>> ((6 : Int32) &&& 31)) &&& (63 : Int32))))), (Int8.toInt32 (Int32.toInt8 ((128 : Int32) ||| (xcp &&& (63 : Int32))))), (Int8.toInt32 (Int32.toInt8 xf)), (Int8.toInt32 (Int32.toInt8 xf)), (Int8.toInt32 (Int32.toInt8 xf)), (Int8.toInt32 (Int32.toInt8 xf)), (Int8.toInt32 (Int32.toInt8 xf))]) :: []) := H228.front 1 rfl
      have H231 : OL n0 h209 ((xbb, OA Z .byte [(Int8.toInt32 (Int32.toInt8 ((224 : Int32) ||| (xcp >>> ((12 : Int32) &&& 31))))), (Int8.toInt32 (Int32.toInt8 ((128 : Int32) ||| ((xcp >>> ((6 : Int32) &&& 31)) &&& (63 : Int32))))), (Int8.toInt32 (Int32.toInt8 ((128 : Int32) ||| (xcp &&& (63 : Int32))))), (Int8.toInt32 (Int32.toInt8 xf)), (Int8.toInt32 (Int32.toInt8 xf)), (Int8.toInt32 (Int32.toInt8 xf)), (Int8.toInt32 (Int32.toInt8 xf)), (Int8.toInt32 (Int32.toInt8 xf))]) :: (xee, OA Z .int [((224 : Int32) + (xcp / (4096 : Int32))), ((128 : Int32) + ((xcp / (64 : Int32)) % (64 : Int32))), ((128 : Int32) + (xcp % (64 : Int32))), e3]) :: []) := H230.front 1 rfl
      refine o_callS X226 at_375 (rest := []) (c_atO l Z a0 hw [] n0 _ X226.size xbb (6 : Int32) (0 : Int32) (3 : Int32) xee xf [(Int8.toInt32 (Int32.toInt8 ((224 : Int32) ||| (xcp >>> ((12 : Int32) &&& 31))))), (Int8.toInt32 (Int32.toInt8 ((128 : Int32) ||| ((xcp >>> ((6 : Int32) &&& 31)) &&& (63 : Int32))))), (Int8.toInt32 (Int32.toInt8 ((128 : Int32) ||| (xcp &&& (63 : Int32))))), (Int8.toInt32 (Int32.toInt8 xf)), (Int8.toInt32 (Int32.toInt8 xf)), (Int8.toInt32 (Int32.toInt8 xf)), (Int8.toInt32 (Int32.toInt8 xf)), (Int8.toInt32 (Int32.toInt8 xf))] [((224 : Int32) + (xcp / (4096 : Int32))), ((128 : Int32) + ((xcp / (64 : Int32)) % (64 : Int32))), ((128 : Int32) + (xcp % (64 : Int32))), e3] [] H231 6 rfl (Int8.toInt32 (Int32.toInt8 xf)) rfl (by decide) (v_fill _)) (hw _ (List.mem_of_getElem? (i := 9) rfl)) (hw _ (List.mem_of_getElem? (i := 10) rfl)) (hw _ (List.mem_of_getElem? (i := 11) rfl)) (hw _ (List.mem_of_getElem? (i := 12) rfl)) (by decide) 0 (by decide) (by decide) rfl [(.ref xbb), (.int (6 : Int32)), (.int (0 : Int32)), (.int (3 : Int32)), (.ref xee), (.int xf)] rfl pd_2 rfl rfl (Nat.le_of_eq rfl) 2 12 rfl rfl (by decide) (by decide) 378 rfl ?_
      rintro _ T229 _ X229 ⟨rfl, rfl⟩
      show OE p e room_1 below s n0 Q' T229 (mkF m 378 #[.val (.int xc), .val (.int xi), .val (.int xf), .val (.int xcp), .val (.int (0 : Int32)), .val (.int (Int8.toInt32 (Int32.toInt8 xf))), .val (.ref xbb), .val (.ref xee), .val (.int (3 : Int32)), .val (.int (3 : Int32))] [(.int (1 : Int32))])
      refine o_ifEq X229 at_378 402 381 (by decide) (by decide) rfl (fun q => by exfalso; exact absurd q (by decide)) ?_
      intro hc378
      refine o_aload X229 at_381 rfl rfl 383 rfl ?_
      refine o_bipush (v := (7 : Int32)) X229 at_383 rfl 385 rfl ?_
      refine o_iload X229 at_385 rfl 387 rfl ?_
      refine o_iload X229 at_387 rfl 389 rfl ?_
      refine o_aload X229 at_389 rfl rfl 391 rfl ?_
      refine o_iloadN X229 at_391 rfl 392 rfl ?_
      have H233 : OL n0 h209 ((xee, OA Z .int [((224 : Int32) + (xcp / (4096 : Int32))), ((128 : Int32) + ((xcp / (64 : Int32)) % (64 : Int32))), ((128 : Int32) + (xcp % (64 : Int32))), e3]) :: (xbb, OA Z .byte [(Int8.toInt32 (Int32.toInt8 ((224 : Int32) ||| (xcp >>> ((12 : Int32) &&& 31))))), (Int8.toInt32 (Int32.toInt8 ((128 : Int32) ||| ((xcp >>> ((6 : Int32) &&& 31)) &&& (63 : Int32))))), (Int8.toInt32 (Int32.toInt8 ((128 : Int32) ||| (xcp &&& (63 : Int32))))), (Int8.toInt32 (Int32.toInt8 xf)), (Int8.toInt32 (Int32.toInt8 xf)), (Int8.toInt32 (Int32.toInt8 xf)), (Int8.toInt32 (Int32.toInt8 xf)), (Int8.toInt32 (Int32.toInt8 xf))]) :: []) := H231.front 1 rfl
      have H234 : OL n0 h209 ((xbb, OA Z .byte [(Int8.toInt32 (Int32.toInt8 ((224 : Int32) ||| (xcp >>> ((12 : Int32) &&& 31))))), (Int8.toInt32 (Int32.toInt8 ((128 : Int32) ||| ((xcp >>> ((6 : Int32) &&& 31)) &&& (63 : Int32))))), (Int8.toInt32 (Int32.toInt8 ((128 : Int32) ||| (xcp &&& (63 : Int32))))), (Int8.toInt32 (Int32.toInt8 xf)), (Int8.toInt32 (Int32.toInt8 xf)), (Int8.toInt32 (Int32.toInt8 xf)), (Int8.toInt32 (Int32.toInt8 xf)), (Int8.toInt32 (Int32.toInt8 xf))]) :: (xee, OA Z .int [((224 : Int32) + (xcp / (4096 : Int32))), ((128 : Int32) + ((xcp / (64 : Int32)) % (64 : Int32))), ((128 : Int32) + (xcp % (64 : Int32))), e3]) :: []) := H233.front 1 rfl
      refine o_callS X229 at_392 (rest := []) (c_atO l Z a0 hw [] n0 _ X229.size xbb (7 : Int32) (0 : Int32) (3 : Int32) xee xf [(Int8.toInt32 (Int32.toInt8 ((224 : Int32) ||| (xcp >>> ((12 : Int32) &&& 31))))), (Int8.toInt32 (Int32.toInt8 ((128 : Int32) ||| ((xcp >>> ((6 : Int32) &&& 31)) &&& (63 : Int32))))), (Int8.toInt32 (Int32.toInt8 ((128 : Int32) ||| (xcp &&& (63 : Int32))))), (Int8.toInt32 (Int32.toInt8 xf)), (Int8.toInt32 (Int32.toInt8 xf)), (Int8.toInt32 (Int32.toInt8 xf)), (Int8.toInt32 (Int32.toInt8 xf)), (Int8.toInt32 (Int32.toInt8 xf))] [((224 : Int32) + (xcp / (4096 : Int32))), ((128 : Int32) + ((xcp / (64 : Int32)) % (64 : Int32))), ((128 : Int32) + (xcp % (64 : Int32))), e3] [] H234 7 rfl (Int8.toInt32 (Int32.toInt8 xf)) rfl (by decide) (v_fill _)) (hw _ (List.mem_of_getElem? (i := 9) rfl)) (hw _ (List.mem_of_getElem? (i := 10) rfl)) (hw _ (List.mem_of_getElem? (i := 11) rfl)) (hw _ (List.mem_of_getElem? (i := 12) rfl)) (by decide) 0 (by decide) (by decide) rfl [(.ref xbb), (.int (7 : Int32)), (.int (0 : Int32)), (.int (3 : Int32)), (.ref xee), (.int xf)] rfl pd_2 rfl rfl (Nat.le_of_eq rfl) 2 12 rfl rfl (by decide) (by decide) 395 rfl ?_
      rintro _ T232 _ X232 ⟨rfl, rfl⟩
      show OE p e room_1 below s n0 Q' T232 (mkF m 395 #[.val (.int xc), .val (.int xi), .val (.int xf), .val (.int xcp), .val (.int (0 : Int32)), .val (.int (Int8.toInt32 (Int32.toInt8 xf))), .val (.ref xbb), .val (.ref xee), .val (.int (3 : Int32)), .val (.int (3 : Int32))] [(.int (1 : Int32))])
      refine o_ifEq X232 at_395 402 398 (by decide) (by decide) rfl (fun q => by exfalso; exact absurd q (by decide)) ?_
      intro hc395
      refine o_iconst (v := (1 : Int32)) X232 at_398 rfl 399 rfl ?_
      refine o_goto X232 at_399 403 (by decide) (by decide) ?_
      exact o_retZ X232 at_403 (by decide) (by decide) (hQ _ _ rfl)
    · skip
      refine o_iloadN X_J248 at_248 rfl 249 rfl ?_
      refine o_aload X_J248 at_249 rfl rfl 251 rfl ?_
      refine o_iload X_J248 at_251 rfl 253 rfl ?_
      have H236 : OL n0 h ((xbb, OA Z .byte [(Int8.toInt32 (Int32.toInt8 xf)), (Int8.toInt32 (Int32.toInt8 xf)), (Int8.toInt32 (Int32.toInt8 xf)), (Int8.toInt32 (Int32.toInt8 xf)), (Int8.toInt32 (Int32.toInt8 xf)), (Int8.toInt32 (Int32.toInt8 xf)), (Int8.toInt32 (Int32.toInt8 xf)), (Int8.toInt32 (Int32.toInt8 xf))]) :: (xee, OA Z .int [((224 : Int32) + (xcp / (4096 : Int32))), ((128 : Int32) + ((xcp / (64 : Int32)) % (64 : Int32))), ((128 : Int32) + (xcp % (64 : Int32))), e3]) :: []) := H_J248.front 1 rfl
      refine o_callS X_J248 at_253 (rest := []) (c_enc3 l Z a0 hw [] n0 _ X_J248.size xcp xbb (1 : Int32) [(Int8.toInt32 (Int32.toInt8 xf)), (Int8.toInt32 (Int32.toInt8 xf)), (Int8.toInt32 (Int32.toInt8 xf)), (Int8.toInt32 (Int32.toInt8 xf)), (Int8.toInt32 (Int32.toInt8 xf)), (Int8.toInt32 (Int32.toInt8 xf)), (Int8.toInt32 (Int32.toInt8 xf)), (Int8.toInt32 (Int32.toInt8 xf))] ((xee, OA Z .int [((224 : Int32) + (xcp / (4096 : Int32))), ((128 : Int32) + ((xcp / (64 : Int32)) % (64 : Int32))), ((128 : Int32) + (xcp % (64 : Int32))), e3]) :: []) H236 1 rfl (by show 4 ≤ 8; decide) (by decide) hlo hhi) (hw _ (List.mem_of_getElem? (i := 5) rfl)) (hw _ (List.mem_of_getElem? (i := 6) rfl)) (hw _ (List.mem_of_getElem? (i := 7) rfl)) (hw _ (List.mem_of_getElem? (i := 8) rfl)) (by decide) 0 (by decide) (by decide) rfl [(.int xcp), (.ref xbb), (.int (1 : Int32))] rfl pd_1 rfl rfl (Nat.le_of_eq rfl) 2 12 rfl rfl (by decide) (by decide) 256 rfl ?_
      rintro _ T235 h235 X235 ⟨rfl, H235⟩
      replace H235 : OL n0 h235 ((xbb, OA Z .byte [(Int8.toInt32 (Int32.toInt8 xf)), (Int8.toInt32 (Int32.toInt8 ((224 : Int32) ||| (xcp >>> ((12 : Int32) &&& 31))))), (Int8.toInt32 (Int32.toInt8 ((128 : Int32) ||| ((xcp >>> ((6 : Int32) &&& 31)) &&& (63 : Int32))))), (Int8.toInt32 (Int32.toInt8 ((128 : Int32) ||| (xcp &&& (63 : Int32))))), (Int8.toInt32 (Int32.toInt8 xf)), (Int8.toInt32 (Int32.toInt8 xf)), (Int8.toInt32 (Int32.toInt8 xf)), (Int8.toInt32 (Int32.toInt8 xf))]) :: (xee, OA Z .int [((224 : Int32) + (xcp / (4096 : Int32))), ((128 : Int32) + ((xcp / (64 : Int32)) % (64 : Int32))), ((128 : Int32) + (xcp % (64 : Int32))), e3]) :: []) := H235
      show OE p e room_1 below s n0 Q' T235 (mkF m 256 #[.val (.int xc), .val (.int xi), .val (.int xf), .val (.int xcp), .val (.int (1 : Int32)), .val (.int (Int8.toInt32 (Int32.toInt8 xf))), .val (.ref xbb), .val (.ref xee), .val (.int (3 : Int32)), .unset] [(.int ((((1 : Int32) + (1 : Int32)) + (1 : Int32)) + (1 : Int32)))])
      refine o_istore X235 at_256 #[.val (.int xc), .val (.int xi), .val (.int xf), .val (.int xcp), .val (.int (1 : Int32)), .val (.int (Int8.toInt32 (Int32.toInt8 xf))), .val (.ref xbb), .val (.ref xee), .val (.int (3 : Int32)), .val (.int ((((1 : Int32) + (1 : Int32)) + (1 : Int32)) + (1 : Int32)))] rfl 258 rfl ?_
      rw [show ((((1 : Int32) + (1 : Int32)) + (1 : Int32)) + (1 : Int32)) = (4 : Int32) from rfl]
      refine o_iload X235 at_258 rfl 260 rfl ?_
      refine o_iload X235 at_260 rfl 262 rfl ?_
      refine o_iload X235 at_262 rfl 264 rfl ?_
      refine o_iadd X235 at_264 265 rfl ?_
      refine o_icmpNe X235 at_265 402 268 (by decide) (by decide) rfl (fun q => by exfalso; exact q rfl) ?_
      intro hc265
      refine o_aload X235 at_268 rfl rfl 270 rfl ?_
      refine o_iconst (v := (0 : Int32)) X235 at_270 rfl 271 rfl ?_
      refine o_iload X235 at_271 rfl 273 rfl ?_
      refine o_iload X235 at_273 rfl 275 rfl ?_
      refine o_aload X235 at_275 rfl rfl 277 rfl ?_
      refine o_iloadN X235 at_277 rfl 278 rfl ?_
      have H238 : OL n0 h235 ((xee, OA Z .int [((224 : Int32) + (xcp / (4096 : Int32))), ((128 : Int32) + ((xcp / (64 : Int32)) % (64 : Int32))), ((128 : Int32) + (xcp % (64 : Int32))), e3]) :: (xbb, OA Z .byte [(Int8.toInt32 (Int32.toInt8 xf)), (Int8.toInt32 (Int32.toInt8 ((224 : Int32) ||| (xcp >>> ((12 : Int32) &&& 31))))), (Int8.toInt32 (Int32.toInt8 ((128 : Int32) ||| ((xcp >>> ((6 : Int32) &&& 31)) &&& (63 : Int32))))), (Int8.toInt32 (Int32.toInt8 ((128 : Int32) ||| (xcp &&& (63 : Int32))))), (Int8.toInt32 (Int32.toInt8 xf)), (Int8.toInt32 (Int32.toInt8 xf)), (Int8.toInt32 (Int32.toInt8 xf)), (Int8.toInt32 (Int32.toInt8 xf))]) :: []) := H235.front 1 rfl
      have H239 : OL n0 h235 ((xbb, OA Z .byte [(Int8.toInt32 (Int32.toInt8 xf)), (Int8.toInt32 (Int32.toInt8 ((224 : Int32) ||| (xcp >>> ((12 : Int32) &&& 31))))), (Int8.toInt32 (Int32.toInt8 ((128 : Int32) ||| ((xcp >>> ((6 : Int32) &&& 31)) &&& (63 : Int32))))), (Int8.toInt32 (Int32.toInt8 ((128 : Int32) ||| (xcp &&& (63 : Int32))))), (Int8.toInt32 (Int32.toInt8 xf)), (Int8.toInt32 (Int32.toInt8 xf)), (Int8.toInt32 (Int32.toInt8 xf)), (Int8.toInt32 (Int32.toInt8 xf))]) :: (xee, OA Z .int [((224 : Int32) + (xcp / (4096 : Int32))), ((128 : Int32) + ((xcp / (64 : Int32)) % (64 : Int32))), ((128 : Int32) + (xcp % (64 : Int32))), e3]) :: []) := H238.front 1 rfl
      refine o_callS X235 at_278 (rest := []) (c_atO l Z a0 hw [] n0 _ X235.size xbb (0 : Int32) (1 : Int32) (3 : Int32) xee xf [(Int8.toInt32 (Int32.toInt8 xf)), (Int8.toInt32 (Int32.toInt8 ((224 : Int32) ||| (xcp >>> ((12 : Int32) &&& 31))))), (Int8.toInt32 (Int32.toInt8 ((128 : Int32) ||| ((xcp >>> ((6 : Int32) &&& 31)) &&& (63 : Int32))))), (Int8.toInt32 (Int32.toInt8 ((128 : Int32) ||| (xcp &&& (63 : Int32))))), (Int8.toInt32 (Int32.toInt8 xf)), (Int8.toInt32 (Int32.toInt8 xf)), (Int8.toInt32 (Int32.toInt8 xf)), (Int8.toInt32 (Int32.toInt8 xf))] [((224 : Int32) + (xcp / (4096 : Int32))), ((128 : Int32) + ((xcp / (64 : Int32)) % (64 : Int32))), ((128 : Int32) + (xcp % (64 : Int32))), e3] [] H239 0 rfl (Int8.toInt32 (Int32.toInt8 xf)) rfl (by decide) (v_fill _)) (hw _ (List.mem_of_getElem? (i := 9) rfl)) (hw _ (List.mem_of_getElem? (i := 10) rfl)) (hw _ (List.mem_of_getElem? (i := 11) rfl)) (hw _ (List.mem_of_getElem? (i := 12) rfl)) (by decide) 0 (by decide) (by decide) rfl [(.ref xbb), (.int (0 : Int32)), (.int (1 : Int32)), (.int (3 : Int32)), (.ref xee), (.int xf)] rfl pd_2 rfl rfl (Nat.le_of_eq rfl) 2 12 rfl rfl (by decide) (by decide) 281 rfl ?_
      rintro _ T237 _ X237 ⟨rfl, rfl⟩
      show OE p e room_1 below s n0 Q' T237 (mkF m 281 #[.val (.int xc), .val (.int xi), .val (.int xf), .val (.int xcp), .val (.int (1 : Int32)), .val (.int (Int8.toInt32 (Int32.toInt8 xf))), .val (.ref xbb), .val (.ref xee), .val (.int (3 : Int32)), .val (.int (4 : Int32))] [(.int (1 : Int32))])
      refine o_ifEq X237 at_281 402 284 (by decide) (by decide) rfl (fun q => by exfalso; exact absurd q (by decide)) ?_
      intro hc281
      refine o_aload X237 at_284 rfl rfl 286 rfl ?_
      refine o_iconst (v := (1 : Int32)) X237 at_286 rfl 287 rfl ?_
      refine o_iload X237 at_287 rfl 289 rfl ?_
      refine o_iload X237 at_289 rfl 291 rfl ?_
      refine o_aload X237 at_291 rfl rfl 293 rfl ?_
      refine o_iloadN X237 at_293 rfl 294 rfl ?_
      have H241 : OL n0 h235 ((xee, OA Z .int [((224 : Int32) + (xcp / (4096 : Int32))), ((128 : Int32) + ((xcp / (64 : Int32)) % (64 : Int32))), ((128 : Int32) + (xcp % (64 : Int32))), e3]) :: (xbb, OA Z .byte [(Int8.toInt32 (Int32.toInt8 xf)), (Int8.toInt32 (Int32.toInt8 ((224 : Int32) ||| (xcp >>> ((12 : Int32) &&& 31))))), (Int8.toInt32 (Int32.toInt8 ((128 : Int32) ||| ((xcp >>> ((6 : Int32) &&& 31)) &&& (63 : Int32))))), (Int8.toInt32 (Int32.toInt8 ((128 : Int32) ||| (xcp &&& (63 : Int32))))), (Int8.toInt32 (Int32.toInt8 xf)), (Int8.toInt32 (Int32.toInt8 xf)), (Int8.toInt32 (Int32.toInt8 xf)), (Int8.toInt32 (Int32.toInt8 xf))]) :: []) := H239.front 1 rfl
      have H242 : OL n0 h235 ((xbb, OA Z .byte [(Int8.toInt32 (Int32.toInt8 xf)), (Int8.toInt32 (Int32.toInt8 ((224 : Int32) ||| (xcp >>> ((12 : Int32) &&& 31))))), (Int8.toInt32 (Int32.toInt8 ((128 : Int32) ||| ((xcp >>> ((6 : Int32) &&& 31)) &&& (63 : Int32))))), (Int8.toInt32 (Int32.toInt8 ((128 : Int32) ||| (xcp &&& (63 : Int32))))), (Int8.toInt32 (Int32.toInt8 xf)), (Int8.toInt32 (Int32.toInt8 xf)), (Int8.toInt32 (Int32.toInt8 xf)), (Int8.toInt32 (Int32.toInt8 xf))]) :: (xee, OA Z .int [((224 : Int32) + (xcp / (4096 : Int32))), ((128 : Int32) + ((xcp / (64 : Int32)) % (64 : Int32))), ((128 : Int32) + (xcp % (64 : Int32))), e3]) :: []) := H241.front 1 rfl
      refine o_callS X237 at_294 (rest := []) (c_atI l Z a0 hw [] n0 _ X237.size xbb (1 : Int32) (1 : Int32) (3 : Int32) xee xf [(Int8.toInt32 (Int32.toInt8 xf)), (Int8.toInt32 (Int32.toInt8 ((224 : Int32) ||| (xcp >>> ((12 : Int32) &&& 31))))), (Int8.toInt32 (Int32.toInt8 ((128 : Int32) ||| ((xcp >>> ((6 : Int32) &&& 31)) &&& (63 : Int32))))), (Int8.toInt32 (Int32.toInt8 ((128 : Int32) ||| (xcp &&& (63 : Int32))))), (Int8.toInt32 (Int32.toInt8 xf)), (Int8.toInt32 (Int32.toInt8 xf)), (Int8.toInt32 (Int32.toInt8 xf)), (Int8.toInt32 (Int32.toInt8 xf))] [((224 : Int32) + (xcp / (4096 : Int32))), ((128 : Int32) + ((xcp / (64 : Int32)) % (64 : Int32))), ((128 : Int32) + (xcp % (64 : Int32))), e3] [] H242 1 rfl (Int8.toInt32 (Int32.toInt8 ((224 : Int32) ||| (xcp >>> ((12 : Int32) &&& 31))))) rfl 0 rfl ((224 : Int32) + (xcp / (4096 : Int32))) rfl (by decide) (by decide) (v_e30 xcp hlo hhi)) (hw _ (List.mem_of_getElem? (i := 9) rfl)) (hw _ (List.mem_of_getElem? (i := 10) rfl)) (hw _ (List.mem_of_getElem? (i := 11) rfl)) (hw _ (List.mem_of_getElem? (i := 12) rfl)) (by decide) 0 (by decide) (by decide) rfl [(.ref xbb), (.int (1 : Int32)), (.int (1 : Int32)), (.int (3 : Int32)), (.ref xee), (.int xf)] rfl pd_2 rfl rfl (Nat.le_of_eq rfl) 2 12 rfl rfl (by decide) (by decide) 297 rfl ?_
      rintro _ T240 _ X240 ⟨rfl, rfl⟩
      show OE p e room_1 below s n0 Q' T240 (mkF m 297 #[.val (.int xc), .val (.int xi), .val (.int xf), .val (.int xcp), .val (.int (1 : Int32)), .val (.int (Int8.toInt32 (Int32.toInt8 xf))), .val (.ref xbb), .val (.ref xee), .val (.int (3 : Int32)), .val (.int (4 : Int32))] [(.int (1 : Int32))])
      refine o_ifEq X240 at_297 402 300 (by decide) (by decide) rfl (fun q => by exfalso; exact absurd q (by decide)) ?_
      intro hc297
      refine o_aload X240 at_300 rfl rfl 302 rfl ?_
      refine o_iconst (v := (2 : Int32)) X240 at_302 rfl 303 rfl ?_
      refine o_iload X240 at_303 rfl 305 rfl ?_
      refine o_iload X240 at_305 rfl 307 rfl ?_
      refine o_aload X240 at_307 rfl rfl 309 rfl ?_
      refine o_iloadN X240 at_309 rfl 310 rfl ?_
      have H244 : OL n0 h235 ((xee, OA Z .int [((224 : Int32) + (xcp / (4096 : Int32))), ((128 : Int32) + ((xcp / (64 : Int32)) % (64 : Int32))), ((128 : Int32) + (xcp % (64 : Int32))), e3]) :: (xbb, OA Z .byte [(Int8.toInt32 (Int32.toInt8 xf)), (Int8.toInt32 (Int32.toInt8 ((224 : Int32) ||| (xcp >>> ((12 : Int32) &&& 31))))), (Int8.toInt32 (Int32.toInt8 ((128 : Int32) ||| ((xcp >>> ((6 : Int32) &&& 31)) &&& (63 : Int32))))), (Int8.toInt32 (Int32.toInt8 ((128 : Int32) ||| (xcp &&& (63 : Int32))))), (Int8.toInt32 (Int32.toInt8 xf)), (Int8.toInt32 (Int32.toInt8 xf)), (Int8.toInt32 (Int32.toInt8 xf)), (Int8.toInt32 (Int32.toInt8 xf))]) :: []) := H242.front 1 rfl
      have H245 : OL n0 h235 ((xbb, OA Z .byte [(Int8.toInt32 (Int32.toInt8 xf)), (Int8.toInt32 (Int32.toInt8 ((224 : Int32) ||| (xcp >>> ((12 : Int32) &&& 31))))), (Int8.toInt32 (Int32.toInt8 ((128 : Int32) ||| ((xcp >>> ((6 : Int32) &&& 31)) &&& (63 : Int32))))), (Int8.toInt32 (Int32.toInt8 ((128 : Int32) ||| (xcp &&& (63 : Int32))))), (Int8.toInt32 (Int32.toInt8 xf)), (Int8.toInt32 (Int32.toInt8 xf)), (Int8.toInt32 (Int32.toInt8 xf)), (Int8.toInt32 (Int32.toInt8 xf))]) :: (xee, OA Z .int [((224 : Int32) + (xcp / (4096 : Int32))), ((128 : Int32) + ((xcp / (64 : Int32)) % (64 : Int32))), ((128 : Int32) + (xcp % (64 : Int32))), e3]) :: []) := H244.front 1 rfl
      refine o_callS X240 at_310 (rest := []) (c_atI l Z a0 hw [] n0 _ X240.size xbb (2 : Int32) (1 : Int32) (3 : Int32) xee xf [(Int8.toInt32 (Int32.toInt8 xf)), (Int8.toInt32 (Int32.toInt8 ((224 : Int32) ||| (xcp >>> ((12 : Int32) &&& 31))))), (Int8.toInt32 (Int32.toInt8 ((128 : Int32) ||| ((xcp >>> ((6 : Int32) &&& 31)) &&& (63 : Int32))))), (Int8.toInt32 (Int32.toInt8 ((128 : Int32) ||| (xcp &&& (63 : Int32))))), (Int8.toInt32 (Int32.toInt8 xf)), (Int8.toInt32 (Int32.toInt8 xf)), (Int8.toInt32 (Int32.toInt8 xf)), (Int8.toInt32 (Int32.toInt8 xf))] [((224 : Int32) + (xcp / (4096 : Int32))), ((128 : Int32) + ((xcp / (64 : Int32)) % (64 : Int32))), ((128 : Int32) + (xcp % (64 : Int32))), e3] [] H245 2 rfl (Int8.toInt32 (Int32.toInt8 ((128 : Int32) ||| ((xcp >>> ((6 : Int32) &&& 31)) &&& (63 : Int32))))) rfl 1 rfl ((128 : Int32) + ((xcp / (64 : Int32)) % (64 : Int32))) rfl (by decide) (by decide) (v_e31 xcp hlo hhi)) (hw _ (List.mem_of_getElem? (i := 9) rfl)) (hw _ (List.mem_of_getElem? (i := 10) rfl)) (hw _ (List.mem_of_getElem? (i := 11) rfl)) (hw _ (List.mem_of_getElem? (i := 12) rfl)) (by decide) 0 (by decide) (by decide) rfl [(.ref xbb), (.int (2 : Int32)), (.int (1 : Int32)), (.int (3 : Int32)), (.ref xee), (.int xf)] rfl pd_2 rfl rfl (Nat.le_of_eq rfl) 2 12 rfl rfl (by decide) (by decide) 313 rfl ?_
      rintro _ T243 _ X243 ⟨rfl, rfl⟩
      show OE p e room_1 below s n0 Q' T243 (mkF m 313 #[.val (.int xc), .val (.int xi), .val (.int xf), .val (.int xcp), .val (.int (1 : Int32)), .val (.int (Int8.toInt32 (Int32.toInt8 xf))), .val (.ref xbb), .val (.ref xee), .val (.int (3 : Int32)), .val (.int (4 : Int32))] [(.int (1 : Int32))])
      refine o_ifEq X243 at_313 402 316 (by decide) (by decide) rfl (fun q => by exfalso; exact absurd q (by decide)) ?_
      intro hc313
      refine o_aload X243 at_316 rfl rfl 318 rfl ?_
      refine o_iconst (v := (3 : Int32)) X243 at_318 rfl 319 rfl ?_
      refine o_iload X243 at_319 rfl 321 rfl ?_
      refine o_iload X243 at_321 rfl 323 rfl ?_
      refine o_aload X243 at_323 rfl rfl 325 rfl ?_
      refine o_iloadN X243 at_325 rfl 326 rfl ?_
      have H247 : OL n0 h235 ((xee, OA Z .int [((224 : Int32) + (xcp / (4096 : Int32))), ((128 : Int32) + ((xcp / (64 : Int32)) % (64 : Int32))), ((128 : Int32) + (xcp % (64 : Int32))), e3]) :: (xbb, OA Z .byte [(Int8.toInt32 (Int32.toInt8 xf)), (Int8.toInt32 (Int32.toInt8 ((224 : Int32) ||| (xcp >>> ((12 : Int32) &&& 31))))), (Int8.toInt32 (Int32.toInt8 ((128 : Int32) ||| ((xcp >>> ((6 : Int32) &&& 31)) &&& (63 : Int32))))), (Int8.toInt32 (Int32.toInt8 ((128 : Int32) ||| (xcp &&& (63 : Int32))))), (Int8.toInt32 (Int32.toInt8 xf)), (Int8.toInt32 (Int32.toInt8 xf)), (Int8.toInt32 (Int32.toInt8 xf)), (Int8.toInt32 (Int32.toInt8 xf))]) :: []) := H245.front 1 rfl
      have H248 : OL n0 h235 ((xbb, OA Z .byte [(Int8.toInt32 (Int32.toInt8 xf)), (Int8.toInt32 (Int32.toInt8 ((224 : Int32) ||| (xcp >>> ((12 : Int32) &&& 31))))), (Int8.toInt32 (Int32.toInt8 ((128 : Int32) ||| ((xcp >>> ((6 : Int32) &&& 31)) &&& (63 : Int32))))), (Int8.toInt32 (Int32.toInt8 ((128 : Int32) ||| (xcp &&& (63 : Int32))))), (Int8.toInt32 (Int32.toInt8 xf)), (Int8.toInt32 (Int32.toInt8 xf)), (Int8.toInt32 (Int32.toInt8 xf)), (Int8.toInt32 (Int32.toInt8 xf))]) :: (xee, OA Z .int [((224 : Int32) + (xcp / (4096 : Int32))), ((128 : Int32) + ((xcp / (64 : Int32)) % (64 : Int32))), ((128 : Int32) + (xcp % (64 : Int32))), e3]) :: []) := H247.front 1 rfl
      refine o_callS X243 at_326 (rest := []) (c_atI l Z a0 hw [] n0 _ X243.size xbb (3 : Int32) (1 : Int32) (3 : Int32) xee xf [(Int8.toInt32 (Int32.toInt8 xf)), (Int8.toInt32 (Int32.toInt8 ((224 : Int32) ||| (xcp >>> ((12 : Int32) &&& 31))))), (Int8.toInt32 (Int32.toInt8 ((128 : Int32) ||| ((xcp >>> ((6 : Int32) &&& 31)) &&& (63 : Int32))))), (Int8.toInt32 (Int32.toInt8 ((128 : Int32) ||| (xcp &&& (63 : Int32))))), (Int8.toInt32 (Int32.toInt8 xf)), (Int8.toInt32 (Int32.toInt8 xf)), (Int8.toInt32 (Int32.toInt8 xf)), (Int8.toInt32 (Int32.toInt8 xf))] [((224 : Int32) + (xcp / (4096 : Int32))), ((128 : Int32) + ((xcp / (64 : Int32)) % (64 : Int32))), ((128 : Int32) + (xcp % (64 : Int32))), e3] [] H248 3 rfl (Int8.toInt32 (Int32.toInt8 ((128 : Int32) ||| (xcp &&& (63 : Int32))))) rfl 2 rfl ((128 : Int32) + (xcp % (64 : Int32))) rfl (by decide) (by decide) (v_e32 xcp hlo hhi)) (hw _ (List.mem_of_getElem? (i := 9) rfl)) (hw _ (List.mem_of_getElem? (i := 10) rfl)) (hw _ (List.mem_of_getElem? (i := 11) rfl)) (hw _ (List.mem_of_getElem? (i := 12) rfl)) (by decide) 0 (by decide) (by decide) rfl [(.ref xbb), (.int (3 : Int32)), (.int (1 : Int32)), (.int (3 : Int32)), (.ref xee), (.int xf)] rfl pd_2 rfl rfl (Nat.le_of_eq rfl) 2 12 rfl rfl (by decide) (by decide) 329 rfl ?_
      rintro _ T246 _ X246 ⟨rfl, rfl⟩
      show OE p e room_1 below s n0 Q' T246 (mkF m 329 #[.val (.int xc), .val (.int xi), .val (.int xf), .val (.int xcp), .val (.int (1 : Int32)), .val (.int (Int8.toInt32 (Int32.toInt8 xf))), .val (.ref xbb), .val (.ref xee), .val (.int (3 : Int32)), .val (.int (4 : Int32))] [(.int (1 : Int32))])
      refine o_ifEq X246 at_329 402 332 (by decide) (by decide) rfl (fun q => by exfalso; exact absurd q (by decide)) ?_
      intro hc329
      refine o_aload X246 at_332 rfl rfl 334 rfl ?_
      refine o_iconst (v := (4 : Int32)) X246 at_334 rfl 335 rfl ?_
      refine o_iload X246 at_335 rfl 337 rfl ?_
      refine o_iload X246 at_337 rfl 339 rfl ?_
      refine o_aload X246 at_339 rfl rfl 341 rfl ?_
      refine o_iloadN X246 at_341 rfl 342 rfl ?_
      have H250 : OL n0 h235 ((xee, OA Z .int [((224 : Int32) + (xcp / (4096 : Int32))), ((128 : Int32) + ((xcp / (64 : Int32)) % (64 : Int32))), ((128 : Int32) + (xcp % (64 : Int32))), e3]) :: (xbb, OA Z .byte [(Int8.toInt32 (Int32.toInt8 xf)), (Int8.toInt32 (Int32.toInt8 ((224 : Int32) ||| (xcp >>> ((12 : Int32) &&& 31))))), (Int8.toInt32 (Int32.toInt8 ((128 : Int32) ||| ((xcp >>> ((6 : Int32) &&& 31)) &&& (63 : Int32))))), (Int8.toInt32 (Int32.toInt8 ((128 : Int32) ||| (xcp &&& (63 : Int32))))), (Int8.toInt32 (Int32.toInt8 xf)), (Int8.toInt32 (Int32.toInt8 xf)), (Int8.toInt32 (Int32.toInt8 xf)), (Int8.toInt32 (Int32.toInt8 xf))]) :: []) := H248.front 1 rfl
      have H251 : OL n0 h235 ((xbb, OA Z .byte [(Int8.toInt32 (Int32.toInt8 xf)), (Int8.toInt32 (Int32.toInt8 ((224 : Int32) ||| (xcp >>> ((12 : Int32) &&& 31))))), (Int8.toInt32 (Int32.toInt8 ((128 : Int32) ||| ((xcp >>> ((6 : Int32) &&& 31)) &&& (63 : Int32))))), (Int8.toInt32 (Int32.toInt8 ((128 : Int32) ||| (xcp &&& (63 : Int32))))), (Int8.toInt32 (Int32.toInt8 xf)), (Int8.toInt32 (Int32.toInt8 xf)), (Int8.toInt32 (Int32.toInt8 xf)), (Int8.toInt32 (Int32.toInt8 xf))]) :: (xee, OA Z .int [((224 : Int32) + (xcp / (4096 : Int32))), ((128 : Int32) + ((xcp / (64 : Int32)) % (64 : Int32))), ((128 : Int32) + (xcp % (64 : Int32))), e3]) :: []) := H250.front 1 rfl
      refine o_callS X246 at_342 (rest := []) (c_atO l Z a0 hw [] n0 _ X246.size xbb (4 : Int32) (1 : Int32) (3 : Int32) xee xf [(Int8.toInt32 (Int32.toInt8 xf)), (Int8.toInt32 (Int32.toInt8 ((224 : Int32) ||| (xcp >>> ((12 : Int32) &&& 31))))), (Int8.toInt32 (Int32.toInt8 ((128 : Int32) ||| ((xcp >>> ((6 : Int32) &&& 31)) &&& (63 : Int32))))), (Int8.toInt32 (Int32.toInt8 ((128 : Int32) ||| (xcp &&& (63 : Int32))))), (Int8.toInt32 (Int32.toInt8 xf)), (Int8.toInt32 (Int32.toInt8 xf)), (Int8.toInt32 (Int32.toInt8 xf)), (Int8.toInt32 (Int32.toInt8 xf))] [((224 : Int32) + (xcp / (4096 : Int32))), ((128 : Int32) + ((xcp / (64 : Int32)) % (64 : Int32))), ((128 : Int32) + (xcp % (64 : Int32))), e3] [] H251 4 rfl (Int8.toInt32 (Int32.toInt8 xf)) rfl (by decide) (v_fill _)) (hw _ (List.mem_of_getElem? (i := 9) rfl)) (hw _ (List.mem_of_getElem? (i := 10) rfl)) (hw _ (List.mem_of_getElem? (i := 11) rfl)) (hw _ (List.mem_of_getElem? (i := 12) rfl)) (by decide) 0 (by decide) (by decide) rfl [(.ref xbb), (.int (4 : Int32)), (.int (1 : Int32)), (.int (3 : Int32)), (.ref xee), (.int xf)] rfl pd_2 rfl rfl (Nat.le_of_eq rfl) 2 12 rfl rfl (by decide) (by decide) 345 rfl ?_
      rintro _ T249 _ X249 ⟨rfl, rfl⟩
      show OE p e room_1 below s n0 Q' T249 (mkF m 345 #[.val (.int xc), .val (.int xi), .val (.int xf), .val (.int xcp), .val (.int (1 : Int32)), .val (.int (Int8.toInt32 (Int32.toInt8 xf))), .val (.ref xbb), .val (.ref xee), .val (.int (3 : Int32)), .val (.int (4 : Int32))] [(.int (1 : Int32))])
      refine o_ifEq X249 at_345 402 348 (by decide) (by decide) rfl (fun q => by exfalso; exact absurd q (by decide)) ?_
      intro hc345
      refine o_aload X249 at_348 rfl rfl 350 rfl ?_
      refine o_iconst (v := (5 : Int32)) X249 at_350 rfl 351 rfl ?_
      refine o_iload X249 at_351 rfl 353 rfl ?_
      refine o_iload X249 at_353 rfl 355 rfl ?_
      refine o_aload X249 at_355 rfl rfl 357 rfl ?_
      refine o_iloadN X249 at_357 rfl 358 rfl ?_
      have H253 : OL n0 h235 ((xee, OA Z .int [((224 : Int32) + (xcp / (4096 : Int32))), ((128 : Int32) + ((xcp / (64 : Int32)) % (64 : Int32))), ((128 : Int32) + (xcp % (64 : Int32))), e3]) :: (xbb, OA Z .byte [(Int8.toInt32 (Int32.toInt8 xf)), (Int8.toInt32 (Int32.toInt8 ((224 : Int32) ||| (xcp >>> ((12 : Int32) &&& 31))))), (Int8.toInt32 (Int32.toInt8 ((128 : Int32) ||| ((xcp >>> ((6 : Int32) &&& 31)) &&& (63 : Int32))))), (Int8.toInt32 (Int32.toInt8 ((128 : Int32) ||| (xcp &&& (63 : Int32))))), (Int8.toInt32 (Int32.toInt8 xf)), (Int8.toInt32 (Int32.toInt8 xf)), (Int8.toInt32 (Int32.toInt8 xf)), (Int8.toInt32 (Int32.toInt8 xf))]) :: []) := H251.front 1 rfl
      have H254 : OL n0 h235 ((xbb, OA Z .byte [(Int8.toInt32 (Int32.toInt8 xf)), (Int8.toInt32 (Int32.toInt8 ((224 : Int32) ||| (xcp >>> ((12 : Int32) &&& 31))))), (Int8.toInt32 (Int32.toInt8 ((128 : Int32) ||| ((xcp >>> ((6 : Int32) &&& 31)) &&& (63 : Int32))))), (Int8.toInt32 (Int32.toInt8 ((128 : Int32) ||| (xcp &&& (63 : Int32))))), (Int8.toInt32 (Int32.toInt8 xf)), (Int8.toInt32 (Int32.toInt8 xf)), (Int8.toInt32 (Int32.toInt8 xf)), (Int8.toInt32 (Int32.toInt8 xf))]) :: (xee, OA Z .int [((224 : Int32) + (xcp / (4096 : Int32))), ((128 : Int32) + ((xcp / (64 : Int32)) % (64 : Int32))), ((128 : Int32) + (xcp % (64 : Int32))), e3]) :: []) := H253.front 1 rfl
      refine o_callS X249 at_358 (rest := []) (c_atO l Z a0 hw [] n0 _ X249.size xbb (5 : Int32) (1 : Int32) (3 : Int32) xee xf [(Int8.toInt32 (Int32.toInt8 xf)), (Int8.toInt32 (Int32.toInt8 ((224 : Int32) ||| (xcp >>> ((12 : Int32) &&& 31))))), (Int8.toInt32 (Int32.toInt8 ((128 : Int32) ||| ((xcp >>> ((6 : Int32) &&& 31)) &&& (63 : Int32))))), (Int8.toInt32 (Int32.toInt8 ((128 : Int32) ||| (xcp &&& (63 : Int32))))), (Int8.toInt32 (Int32.toInt8 xf)), (Int8.toInt32 (Int32.toInt8 xf)), (Int8.toInt32 (Int32.toInt8 xf)), (Int8.toInt32 (Int32.toInt8 xf))] [((224 : Int32) + (xcp / (4096 : Int32))), ((128 : Int32) + ((xcp / (64 : Int32)) % (64 : Int32))), ((128 : Int32) + (xcp % (64 : Int32))), e3] [] H254 5 rfl (Int8.toInt32 (Int32.toInt8 xf)) rfl (by decide) (v_fill _)) (hw _ (List.mem_of_getElem? (i := 9) rfl)) (hw _ (List.mem_of_getElem? (i := 10) rfl)) (hw _ (List.mem_of_getElem? (i := 11) rfl)) (hw _ (List.mem_of_getElem? (i := 12) rfl)) (by decide) 0 (by decide) (by decide) rfl [(.ref xbb), (.int (5 : Int32)), (.int (1 : Int32)), (.int (3 : Int32)), (.ref xee), (.int xf)] rfl pd_2 rfl rfl (Nat.le_of_eq rfl) 2 12 rfl rfl (by decide) (by decide) 361 rfl ?_
      rintro _ T252 _ X252 ⟨rfl, rfl⟩
      show OE p e room_1 below s n0 Q' T252 (mkF m 361 #[.val (.int xc), .val (.int xi), .val (.int xf), .val (.int xcp), .val (.int (1 : Int32)), .val (.int (Int8.toInt32 (Int32.toInt8 xf))), .val (.ref xbb), .val (.ref xee), .val (.int (3 : Int32)), .val (.int (4 : Int32))] [(.int (1 : Int32))])
      refine o_ifEq X252 at_361 402 364 (by decide) (by decide) rfl (fun q => by exfalso; exact absurd q (by decide)) ?_
      intro hc361
      refine o_aload X252 at_364 rfl rfl 366 rfl ?_
      refine o_bipush (v := (6 : Int32)) X252 at_366 rfl 368 rfl ?_
      refine o_iload X252 at_368 rfl 370 rfl ?_
      refine o_iload X252 at_370 rfl 372 rfl ?_
      refine o_aload X252 at_372 rfl rfl 374 rfl ?_
      refine o_iloadN X252 at_374 rfl 375 rfl ?_
      have H256 : OL n0 h235 ((xee, OA Z .int [((224 : Int32) + (xcp / (4096 : Int32))), ((128 : Int32) + ((xcp / (64 : Int32)) % (64 : Int32))), ((128 : Int32) + (xcp % (64 : Int32))), e3]) :: (xbb, OA Z .byte [(Int8.toInt32 (Int32.toInt8 xf)), (Int8.toInt32 (Int32.toInt8 ((224 : Int32) ||| (xcp >>> ((12 : Int32) &&& 31))))), (Int8.toInt32 (Int32.toInt8 ((128 : Int32) ||| ((xcp >>> ((6 : Int32) &&& 31)) &&& (63 : Int32))))), (Int8.toInt32 (Int32.toInt8 ((128 : Int32) ||| (xcp &&& (63 : Int32))))), (Int8.toInt32 (Int32.toInt8 xf)), (Int8.toInt32 (Int32.toInt8 xf)), (Int8.toInt32 (Int32.toInt8 xf)), (Int8.toInt32 (Int32.toInt8 xf))]) :: []) := H254.front 1 rfl
      have H257 : OL n0 h235 ((xbb, OA Z .byte [(Int8.toInt32 (Int32.toInt8 xf)), (Int8.toInt32 (Int32.toInt8 ((224 : Int32) ||| (xcp >>> ((12 : Int32) &&& 31))))), (Int8.toInt32 (Int32.toInt8 ((128 : Int32) ||| ((xcp >>> ((6 : Int32) &&& 31)) &&& (63 : Int32))))), (Int8.toInt32 (Int32.toInt8 ((128 : Int32) ||| (xcp &&& (63 : Int32))))), (Int8.toInt32 (Int32.toInt8 xf)), (Int8.toInt32 (Int32.toInt8 xf)), (Int8.toInt32 (Int32.toInt8 xf)), (Int8.toInt32 (Int32.toInt8 xf))]) :: (xee, OA Z .int [((224 : Int32) + (xcp / (4096 : Int32))), ((128 : Int32) + ((xcp / (64 : Int32)) % (64 : Int32))), ((128 : Int32) + (xcp % (64 : Int32))), e3]) :: []) := H256.front 1 rfl
      refine o_callS X252 at_375 (rest := []) (c_atO l Z a0 hw [] n0 _ X252.size xbb (6 : Int32) (1 : Int32) (3 : Int32) xee xf [(Int8.toInt32 (Int32.toInt8 xf)), (Int8.toInt32 (Int32.toInt8 ((224 : Int32) ||| (xcp >>> ((12 : Int32) &&& 31))))), (Int8.toInt32 (Int32.toInt8 ((128 : Int32) ||| ((xcp >>> ((6 : Int32) &&& 31)) &&& (63 : Int32))))), (Int8.toInt32 (Int32.toInt8 ((128 : Int32) ||| (xcp &&& (63 : Int32))))), (Int8.toInt32 (Int32.toInt8 xf)), (Int8.toInt32 (Int32.toInt8 xf)), (Int8.toInt32 (Int32.toInt8 xf)), (Int8.toInt32 (Int32.toInt8 xf))] [((224 : Int32) + (xcp / (4096 : Int32))), ((128 : Int32) + ((xcp / (64 : Int32)) % (64 : Int32))), ((128 : Int32) + (xcp % (64 : Int32))), e3] [] H257 6 rfl (Int8.toInt32 (Int32.toInt8 xf)) rfl (by decide) (v_fill _)) (hw _ (List.mem_of_getElem? (i := 9) rfl)) (hw _ (List.mem_of_getElem? (i := 10) rfl)) (hw _ (List.mem_of_getElem? (i := 11) rfl)) (hw _ (List.mem_of_getElem? (i := 12) rfl)) (by decide) 0 (by decide) (by decide) rfl [(.ref xbb), (.int (6 : Int32)), (.int (1 : Int32)), (.int (3 : Int32)), (.ref xee), (.int xf)] rfl pd_2 rfl rfl (Nat.le_of_eq rfl) 2 12 rfl rfl (by decide) (by decide) 378 rfl ?_
      rintro _ T255 _ X255 ⟨rfl, rfl⟩
      show OE p e room_1 below s n0 Q' T255 (mkF m 378 #[.val (.int xc), .val (.int xi), .val (.int xf), .val (.int xcp), .val (.int (1 : Int32)), .val (.int (Int8.toInt32 (Int32.toInt8 xf))), .val (.ref xbb), .val (.ref xee), .val (.int (3 : Int32)), .val (.int (4 : Int32))] [(.int (1 : Int32))])
      refine o_ifEq X255 at_378 402 381 (by decide) (by decide) rfl (fun q => by exfalso; exact absurd q (by decide)) ?_
      intro hc378
      refine o_aload X255 at_381 rfl rfl 383 rfl ?_
      refine o_bipush (v := (7 : Int32)) X255 at_383 rfl 385 rfl ?_
      refine o_iload X255 at_385 rfl 387 rfl ?_
      refine o_iload X255 at_387 rfl 389 rfl ?_
      refine o_aload X255 at_389 rfl rfl 391 rfl ?_
      refine o_iloadN X255 at_391 rfl 392 rfl ?_
      have H259 : OL n0 h235 ((xee, OA Z .int [((224 : Int32) + (xcp / (4096 : Int32))), ((128 : Int32) + ((xcp / (64 : Int32)) % (64 : Int32))), ((128 : Int32) + (xcp % (64 : Int32))), e3]) :: (xbb, OA Z .byte [(Int8.toInt32 (Int32.toInt8 xf)), (Int8.toInt32 (Int32.toInt8 ((224 : Int32) ||| (xcp >>> ((12 : Int32) &&& 31))))), (Int8.toInt32 (Int32.toInt8 ((128 : Int32) ||| ((xcp >>> ((6 : Int32) &&& 31)) &&& (63 : Int32))))), (Int8.toInt32 (Int32.toInt8 ((128 : Int32) ||| (xcp &&& (63 : Int32))))), (Int8.toInt32 (Int32.toInt8 xf)), (Int8.toInt32 (Int32.toInt8 xf)), (Int8.toInt32 (Int32.toInt8 xf)), (Int8.toInt32 (Int32.toInt8 xf))]) :: []) := H257.front 1 rfl
      have H260 : OL n0 h235 ((xbb, OA Z .byte [(Int8.toInt32 (Int32.toInt8 xf)), (Int8.toInt32 (Int32.toInt8 ((224 : Int32) ||| (xcp >>> ((12 : Int32) &&& 31))))), (Int8.toInt32 (Int32.toInt8 ((128 : Int32) ||| ((xcp >>> ((6 : Int32) &&& 31)) &&& (63 : Int32))))), (Int8.toInt32 (Int32.toInt8 ((128 : Int32) ||| (xcp &&& (63 : Int32))))), (Int8.toInt32 (Int32.toInt8 xf)), (Int8.toInt32 (Int32.toInt8 xf)), (Int8.toInt32 (Int32.toInt8 xf)), (Int8.toInt32 (Int32.toInt8 xf))]) :: (xee, OA Z .int [((224 : Int32) + (xcp / (4096 : Int32))), ((128 : Int32) + ((xcp / (64 : Int32)) % (64 : Int32))), ((128 : Int32) + (xcp % (64 : Int32))), e3]) :: []) := H259.front 1 rfl
      refine o_callS X255 at_392 (rest := []) (c_atO l Z a0 hw [] n0 _ X255.size xbb (7 : Int32) (1 : Int32) (3 : Int32) xee xf [(Int8.toInt32 (Int32.toInt8 xf)), (Int8.toInt32 (Int32.toInt8 ((224 : Int32) ||| (xcp >>> ((12 : Int32) &&& 31))))), (Int8.toInt32 (Int32.toInt8 ((128 : Int32) ||| ((xcp >>> ((6 : Int32) &&& 31)) &&& (63 : Int32))))), (Int8.toInt32 (Int32.toInt8 ((128 : Int32) ||| (xcp &&& (63 : Int32))))), (Int8.toInt32 (Int32.toInt8 xf)), (Int8.toInt32 (Int32.toInt8 xf)), (Int8.toInt32 (Int32.toInt8 xf)), (Int8.toInt32 (Int32.toInt8 xf))] [((224 : Int32) + (xcp / (4096 : Int32))), ((128 : Int32) + ((xcp / (64 : Int32)) % (64 : Int32))), ((128 : Int32) + (xcp % (64 : Int32))), e3] [] H260 7 rfl (Int8.toInt32 (Int32.toInt8 xf)) rfl (by decide) (v_fill _)) (hw _ (List.mem_of_getElem? (i := 9) rfl)) (hw _ (List.mem_of_getElem? (i := 10) rfl)) (hw _ (List.mem_of_getElem? (i := 11) rfl)) (hw _ (List.mem_of_getElem? (i := 12) rfl)) (by decide) 0 (by decide) (by decide) rfl [(.ref xbb), (.int (7 : Int32)), (.int (1 : Int32)), (.int (3 : Int32)), (.ref xee), (.int xf)] rfl pd_2 rfl rfl (Nat.le_of_eq rfl) 2 12 rfl rfl (by decide) (by decide) 395 rfl ?_
      rintro _ T258 _ X258 ⟨rfl, rfl⟩
      show OE p e room_1 below s n0 Q' T258 (mkF m 395 #[.val (.int xc), .val (.int xi), .val (.int xf), .val (.int xcp), .val (.int (1 : Int32)), .val (.int (Int8.toInt32 (Int32.toInt8 xf))), .val (.ref xbb), .val (.ref xee), .val (.int (3 : Int32)), .val (.int (4 : Int32))] [(.int (1 : Int32))])
      refine o_ifEq X258 at_395 402 398 (by decide) (by decide) rfl (fun q => by exfalso; exact absurd q (by decide)) ?_
      intro hc395
      refine o_iconst (v := (1 : Int32)) X258 at_398 rfl 399 rfl ?_
      refine o_goto X258 at_399 403 (by decide) (by decide) ?_
      exact o_retZ X258 at_403 (by decide) (by decide) (hQ _ _ rfl)
    · skip
      refine o_iloadN X_J248 at_248 rfl 249 rfl ?_
      refine o_aload X_J248 at_249 rfl rfl 251 rfl ?_
      refine o_iload X_J248 at_251 rfl 253 rfl ?_
      have H262 : OL n0 h ((xbb, OA Z .byte [(Int8.toInt32 (Int32.toInt8 xf)), (Int8.toInt32 (Int32.toInt8 xf)), (Int8.toInt32 (Int32.toInt8 xf)), (Int8.toInt32 (Int32.toInt8 xf)), (Int8.toInt32 (Int32.toInt8 xf)), (Int8.toInt32 (Int32.toInt8 xf)), (Int8.toInt32 (Int32.toInt8 xf)), (Int8.toInt32 (Int32.toInt8 xf))]) :: (xee, OA Z .int [((224 : Int32) + (xcp / (4096 : Int32))), ((128 : Int32) + ((xcp / (64 : Int32)) % (64 : Int32))), ((128 : Int32) + (xcp % (64 : Int32))), e3]) :: []) := H_J248.front 1 rfl
      refine o_callS X_J248 at_253 (rest := []) (c_enc3 l Z a0 hw [] n0 _ X_J248.size xcp xbb (2 : Int32) [(Int8.toInt32 (Int32.toInt8 xf)), (Int8.toInt32 (Int32.toInt8 xf)), (Int8.toInt32 (Int32.toInt8 xf)), (Int8.toInt32 (Int32.toInt8 xf)), (Int8.toInt32 (Int32.toInt8 xf)), (Int8.toInt32 (Int32.toInt8 xf)), (Int8.toInt32 (Int32.toInt8 xf)), (Int8.toInt32 (Int32.toInt8 xf))] ((xee, OA Z .int [((224 : Int32) + (xcp / (4096 : Int32))), ((128 : Int32) + ((xcp / (64 : Int32)) % (64 : Int32))), ((128 : Int32) + (xcp % (64 : Int32))), e3]) :: []) H262 2 rfl (by show 5 ≤ 8; decide) (by decide) hlo hhi) (hw _ (List.mem_of_getElem? (i := 5) rfl)) (hw _ (List.mem_of_getElem? (i := 6) rfl)) (hw _ (List.mem_of_getElem? (i := 7) rfl)) (hw _ (List.mem_of_getElem? (i := 8) rfl)) (by decide) 0 (by decide) (by decide) rfl [(.int xcp), (.ref xbb), (.int (2 : Int32))] rfl pd_1 rfl rfl (Nat.le_of_eq rfl) 2 12 rfl rfl (by decide) (by decide) 256 rfl ?_
      rintro _ T261 h261 X261 ⟨rfl, H261⟩
      replace H261 : OL n0 h261 ((xbb, OA Z .byte [(Int8.toInt32 (Int32.toInt8 xf)), (Int8.toInt32 (Int32.toInt8 xf)), (Int8.toInt32 (Int32.toInt8 ((224 : Int32) ||| (xcp >>> ((12 : Int32) &&& 31))))), (Int8.toInt32 (Int32.toInt8 ((128 : Int32) ||| ((xcp >>> ((6 : Int32) &&& 31)) &&& (63 : Int32))))), (Int8.toInt32 (Int32.toInt8 ((128 : Int32) ||| (xcp &&& (63 : Int32))))), (Int8.toInt32 (Int32.toInt8 xf)), (Int8.toInt32 (Int32.toInt8 xf)), (Int8.toInt32 (Int32.toInt8 xf))]) :: (xee, OA Z .int [((224 : Int32) + (xcp / (4096 : Int32))), ((128 : Int32) + ((xcp / (64 : Int32)) % (64 : Int32))), ((128 : Int32) + (xcp % (64 : Int32))), e3]) :: []) := H261
      show OE p e room_1 below s n0 Q' T261 (mkF m 256 #[.val (.int xc), .val (.int xi), .val (.int xf), .val (.int xcp), .val (.int (2 : Int32)), .val (.int (Int8.toInt32 (Int32.toInt8 xf))), .val (.ref xbb), .val (.ref xee), .val (.int (3 : Int32)), .unset] [(.int ((((2 : Int32) + (1 : Int32)) + (1 : Int32)) + (1 : Int32)))])
      refine o_istore X261 at_256 #[.val (.int xc), .val (.int xi), .val (.int xf), .val (.int xcp), .val (.int (2 : Int32)), .val (.int (Int8.toInt32 (Int32.toInt8 xf))), .val (.ref xbb), .val (.ref xee), .val (.int (3 : Int32)), .val (.int ((((2 : Int32) + (1 : Int32)) + (1 : Int32)) + (1 : Int32)))] rfl 258 rfl ?_
      rw [show ((((2 : Int32) + (1 : Int32)) + (1 : Int32)) + (1 : Int32)) = (5 : Int32) from rfl]
      refine o_iload X261 at_258 rfl 260 rfl ?_
      refine o_iload X261 at_260 rfl 262 rfl ?_
      refine o_iload X261 at_262 rfl 264 rfl ?_
      refine o_iadd X261 at_264 265 rfl ?_
      refine o_icmpNe X261 at_265 402 268 (by decide) (by decide) rfl (fun q => by exfalso; exact q rfl) ?_
      intro hc265
      refine o_aload X261 at_268 rfl rfl 270 rfl ?_
      refine o_iconst (v := (0 : Int32)) X261 at_270 rfl 271 rfl ?_
      refine o_iload X261 at_271 rfl 273 rfl ?_
      refine o_iload X261 at_273 rfl 275 rfl ?_
      refine o_aload X261 at_275 rfl rfl 277 rfl ?_
      refine o_iloadN X261 at_277 rfl 278 rfl ?_
      have H264 : OL n0 h261 ((xee, OA Z .int [((224 : Int32) + (xcp / (4096 : Int32))), ((128 : Int32) + ((xcp / (64 : Int32)) % (64 : Int32))), ((128 : Int32) + (xcp % (64 : Int32))), e3]) :: (xbb, OA Z .byte [(Int8.toInt32 (Int32.toInt8 xf)), (Int8.toInt32 (Int32.toInt8 xf)), (Int8.toInt32 (Int32.toInt8 ((224 : Int32) ||| (xcp >>> ((12 : Int32) &&& 31))))), (Int8.toInt32 (Int32.toInt8 ((128 : Int32) ||| ((xcp >>> ((6 : Int32) &&& 31)) &&& (63 : Int32))))), (Int8.toInt32 (Int32.toInt8 ((128 : Int32) ||| (xcp &&& (63 : Int32))))), (Int8.toInt32 (Int32.toInt8 xf)), (Int8.toInt32 (Int32.toInt8 xf)), (Int8.toInt32 (Int32.toInt8 xf))]) :: []) := H261.front 1 rfl
      have H265 : OL n0 h261 ((xbb, OA Z .byte [(Int8.toInt32 (Int32.toInt8 xf)), (Int8.toInt32 (Int32.toInt8 xf)), (Int8.toInt32 (Int32.toInt8 ((224 : Int32) ||| (xcp >>> ((12 : Int32) &&& 31))))), (Int8.toInt32 (Int32.toInt8 ((128 : Int32) ||| ((xcp >>> ((6 : Int32) &&& 31)) &&& (63 : Int32))))), (Int8.toInt32 (Int32.toInt8 ((128 : Int32) ||| (xcp &&& (63 : Int32))))), (Int8.toInt32 (Int32.toInt8 xf)), (Int8.toInt32 (Int32.toInt8 xf)), (Int8.toInt32 (Int32.toInt8 xf))]) :: (xee, OA Z .int [((224 : Int32) + (xcp / (4096 : Int32))), ((128 : Int32) + ((xcp / (64 : Int32)) % (64 : Int32))), ((128 : Int32) + (xcp % (64 : Int32))), e3]) :: []) := H264.front 1 rfl
      refine o_callS X261 at_278 (rest := []) (c_atO l Z a0 hw [] n0 _ X261.size xbb (0 : Int32) (2 : Int32) (3 : Int32) xee xf [(Int8.toInt32 (Int32.toInt8 xf)), (Int8.toInt32 (Int32.toInt8 xf)), (Int8.toInt32 (Int32.toInt8 ((224 : Int32) ||| (xcp >>> ((12 : Int32) &&& 31))))), (Int8.toInt32 (Int32.toInt8 ((128 : Int32) ||| ((xcp >>> ((6 : Int32) &&& 31)) &&& (63 : Int32))))), (Int8.toInt32 (Int32.toInt8 ((128 : Int32) ||| (xcp &&& (63 : Int32))))), (Int8.toInt32 (Int32.toInt8 xf)), (Int8.toInt32 (Int32.toInt8 xf)), (Int8.toInt32 (Int32.toInt8 xf))] [((224 : Int32) + (xcp / (4096 : Int32))), ((128 : Int32) + ((xcp / (64 : Int32)) % (64 : Int32))), ((128 : Int32) + (xcp % (64 : Int32))), e3] [] H265 0 rfl (Int8.toInt32 (Int32.toInt8 xf)) rfl (by decide) (v_fill _)) (hw _ (List.mem_of_getElem? (i := 9) rfl)) (hw _ (List.mem_of_getElem? (i := 10) rfl)) (hw _ (List.mem_of_getElem? (i := 11) rfl)) (hw _ (List.mem_of_getElem? (i := 12) rfl)) (by decide) 0 (by decide) (by decide) rfl [(.ref xbb), (.int (0 : Int32)), (.int (2 : Int32)), (.int (3 : Int32)), (.ref xee), (.int xf)] rfl pd_2 rfl rfl (Nat.le_of_eq rfl) 2 12 rfl rfl (by decide) (by decide) 281 rfl ?_
      rintro _ T263 _ X263 ⟨rfl, rfl⟩
      show OE p e room_1 below s n0 Q' T263 (mkF m 281 #[.val (.int xc), .val (.int xi), .val (.int xf), .val (.int xcp), .val (.int (2 : Int32)), .val (.int (Int8.toInt32 (Int32.toInt8 xf))), .val (.ref xbb), .val (.ref xee), .val (.int (3 : Int32)), .val (.int (5 : Int32))] [(.int (1 : Int32))])
      refine o_ifEq X263 at_281 402 284 (by decide) (by decide) rfl (fun q => by exfalso; exact absurd q (by decide)) ?_
      intro hc281
      refine o_aload X263 at_284 rfl rfl 286 rfl ?_
      refine o_iconst (v := (1 : Int32)) X263 at_286 rfl 287 rfl ?_
      refine o_iload X263 at_287 rfl 289 rfl ?_
      refine o_iload X263 at_289 rfl 291 rfl ?_
      refine o_aload X263 at_291 rfl rfl 293 rfl ?_
      refine o_iloadN X263 at_293 rfl 294 rfl ?_
      have H267 : OL n0 h261 ((xee, OA Z .int [((224 : Int32) + (xcp / (4096 : Int32))), ((128 : Int32) + ((xcp / (64 : Int32)) % (64 : Int32))), ((128 : Int32) + (xcp % (64 : Int32))), e3]) :: (xbb, OA Z .byte [(Int8.toInt32 (Int32.toInt8 xf)), (Int8.toInt32 (Int32.toInt8 xf)), (Int8.toInt32 (Int32.toInt8 ((224 : Int32) ||| (xcp >>> ((12 : Int32) &&& 31))))), (Int8.toInt32 (Int32.toInt8 ((128 : Int32) ||| ((xcp >>> ((6 : Int32) &&& 31)) &&& (63 : Int32))))), (Int8.toInt32 (Int32.toInt8 ((128 : Int32) ||| (xcp &&& (63 : Int32))))), (Int8.toInt32 (Int32.toInt8 xf)), (Int8.toInt32 (Int32.toInt8 xf)), (Int8.toInt32 (Int32.toInt8 xf))]) :: []) := H265.front 1 rfl
      have H268 : OL n0 h261 ((xbb, OA Z .byte [(Int8.toInt32 (Int32.toInt8 xf)), (Int8.toInt32 (Int32.toInt8 xf)), (Int8.toInt32 (Int32.toInt8 ((224 : Int32) ||| (xcp >>> ((12 : Int32) &&& 31))))), (Int8.toInt32 (Int32.toInt8 ((128 : Int32) ||| ((xcp >>> ((6 : Int32) &&& 31)) &&& (63 : Int32))))), (Int8.toInt32 (Int32.toInt8 ((128 : Int32) ||| (xcp &&& (63 : Int32))))), (Int8.toInt32 (Int32.toInt8 xf)), (Int8.toInt32 (Int32.toInt8 xf)), (Int8.toInt32 (Int32.toInt8 xf))]) :: (xee, OA Z .int [((224 : Int32) + (xcp / (4096 : Int32))), ((128 : Int32) + ((xcp / (64 : Int32)) % (64 : Int32))), ((128 : Int32) + (xcp % (64 : Int32))), e3]) :: []) := H267.front 1 rfl
      refine o_callS X263 at_294 (rest := []) (c_atO l Z a0 hw [] n0 _ X263.size xbb (1 : Int32) (2 : Int32) (3 : Int32) xee xf [(Int8.toInt32 (Int32.toInt8 xf)), (Int8.toInt32 (Int32.toInt8 xf)), (Int8.toInt32 (Int32.toInt8 ((224 : Int32) ||| (xcp >>> ((12 : Int32) &&& 31))))), (Int8.toInt32 (Int32.toInt8 ((128 : Int32) ||| ((xcp >>> ((6 : Int32) &&& 31)) &&& (63 : Int32))))), (Int8.toInt32 (Int32.toInt8 ((128 : Int32) ||| (xcp &&& (63 : Int32))))), (Int8.toInt32 (Int32.toInt8 xf)), (Int8.toInt32 (Int32.toInt8 xf)), (Int8.toInt32 (Int32.toInt8 xf))] [((224 : Int32) + (xcp / (4096 : Int32))), ((128 : Int32) + ((xcp / (64 : Int32)) % (64 : Int32))), ((128 : Int32) + (xcp % (64 : Int32))), e3] [] H268 1 rfl (Int8.toInt32 (Int32.toInt8 xf)) rfl (by decide) (v_fill _)) (hw _ (List.mem_of_getElem? (i := 9) rfl)) (hw _ (List.mem_of_getElem? (i := 10) rfl)) (hw _ (List.mem_of_getElem? (i := 11) rfl)) (hw _ (List.mem_of_getElem? (i := 12) rfl)) (by decide) 0 (by decide) (by decide) rfl [(.ref xbb), (.int (1 : Int32)), (.int (2 : Int32)), (.int (3 : Int32)), (.ref xee), (.int xf)] rfl pd_2 rfl rfl (Nat.le_of_eq rfl) 2 12 rfl rfl (by decide) (by decide) 297 rfl ?_
      rintro _ T266 _ X266 ⟨rfl, rfl⟩
      show OE p e room_1 below s n0 Q' T266 (mkF m 297 #[.val (.int xc), .val (.int xi), .val (.int xf), .val (.int xcp), .val (.int (2 : Int32)), .val (.int (Int8.toInt32 (Int32.toInt8 xf))), .val (.ref xbb), .val (.ref xee), .val (.int (3 : Int32)), .val (.int (5 : Int32))] [(.int (1 : Int32))])
      refine o_ifEq X266 at_297 402 300 (by decide) (by decide) rfl (fun q => by exfalso; exact absurd q (by decide)) ?_
      intro hc297
      refine o_aload X266 at_300 rfl rfl 302 rfl ?_
      refine o_iconst (v := (2 : Int32)) X266 at_302 rfl 303 rfl ?_
      refine o_iload X266 at_303 rfl 305 rfl ?_
      refine o_iload X266 at_305 rfl 307 rfl ?_
      refine o_aload X266 at_307 rfl rfl 309 rfl ?_
      refine o_iloadN X266 at_309 rfl 310 rfl ?_
      have H270 : OL n0 h261 ((xee, OA Z .int [((224 : Int32) + (xcp / (4096 : Int32))), ((128 : Int32) + ((xcp / (64 : Int32)) % (64 : Int32))), ((128 : Int32) + (xcp % (64 : Int32))), e3]) :: (xbb, OA Z .byte [(Int8.toInt32 (Int32.toInt8 xf)), (Int8.toInt32 (Int32.toInt8 xf)), (Int8.toInt32 (Int32.toInt8 ((224 : Int32) ||| (xcp >>> ((12 : Int32) &&& 31))))), (Int8.toInt32 (Int32.toInt8 ((128 : Int32) ||| ((xcp >>> ((6 : Int32) &&& 31)) &&& (63 : Int32))))), (Int8.toInt32 (Int32.toInt8 ((128 : Int32) ||| (xcp &&& (63 : Int32))))), (Int8.toInt32 (Int32.toInt8 xf)), (Int8.toInt32 (Int32.toInt8 xf)), (Int8.toInt32 (Int32.toInt8 xf))]) :: []) := H268.front 1 rfl
      have H271 : OL n0 h261 ((xbb, OA Z .byte [(Int8.toInt32 (Int32.toInt8 xf)), (Int8.toInt32 (Int32.toInt8 xf)), (Int8.toInt32 (Int32.toInt8 ((224 : Int32) ||| (xcp >>> ((12 : Int32) &&& 31))))), (Int8.toInt32 (Int32.toInt8 ((128 : Int32) ||| ((xcp >>> ((6 : Int32) &&& 31)) &&& (63 : Int32))))), (Int8.toInt32 (Int32.toInt8 ((128 : Int32) ||| (xcp &&& (63 : Int32))))), (Int8.toInt32 (Int32.toInt8 xf)), (Int8.toInt32 (Int32.toInt8 xf)), (Int8.toInt32 (Int32.toInt8 xf))]) :: (xee, OA Z .int [((224 : Int32) + (xcp / (4096 : Int32))), ((128 : Int32) + ((xcp / (64 : Int32)) % (64 : Int32))), ((128 : Int32) + (xcp % (64 : Int32))), e3]) :: []) := H270.front 1 rfl
      refine o_callS X266 at_310 (rest := []) (c_atI l Z a0 hw [] n0 _ X266.size xbb (2 : Int32) (2 : Int32) (3 : Int32) xee xf [(Int8.toInt32 (Int32.toInt8 xf)), (Int8.toInt32 (Int32.toInt8 xf)), (Int8.toInt32 (Int32.toInt8 ((224 : Int32) ||| (xcp >>> ((12 : Int32) &&& 31))))), (Int8.toInt32 (Int32.toInt8 ((128 : Int32) ||| ((xcp >>> ((6 : Int32) &&& 31)) &&& (63 : Int32))))), (Int8.toInt32 (Int32.toInt8 ((128 : Int32) ||| (xcp &&& (63 : Int32))))), (Int8.toInt32 (Int32.toInt8 xf)), (Int8.toInt32 (Int32.toInt8 xf)), (Int8.toInt32 (Int32.toInt8 xf))] [((224 : Int32) + (xcp / (4096 : Int32))), ((128 : Int32) + ((xcp / (64 : Int32)) % (64 : Int32))), ((128 : Int32) + (xcp % (64 : Int32))), e3] [] H271 2 rfl (Int8.toInt32 (Int32.toInt8 ((224 : Int32) ||| (xcp >>> ((12 : Int32) &&& 31))))) rfl 0 rfl ((224 : Int32) + (xcp / (4096 : Int32))) rfl (by decide) (by decide) (v_e30 xcp hlo hhi)) (hw _ (List.mem_of_getElem? (i := 9) rfl)) (hw _ (List.mem_of_getElem? (i := 10) rfl)) (hw _ (List.mem_of_getElem? (i := 11) rfl)) (hw _ (List.mem_of_getElem? (i := 12) rfl)) (by decide) 0 (by decide) (by decide) rfl [(.ref xbb), (.int (2 : Int32)), (.int (2 : Int32)), (.int (3 : Int32)), (.ref xee), (.int xf)] rfl pd_2 rfl rfl (Nat.le_of_eq rfl) 2 12 rfl rfl (by decide) (by decide) 313 rfl ?_
      rintro _ T269 _ X269 ⟨rfl, rfl⟩
      show OE p e room_1 below s n0 Q' T269 (mkF m 313 #[.val (.int xc), .val (.int xi), .val (.int xf), .val (.int xcp), .val (.int (2 : Int32)), .val (.int (Int8.toInt32 (Int32.toInt8 xf))), .val (.ref xbb), .val (.ref xee), .val (.int (3 : Int32)), .val (.int (5 : Int32))] [(.int (1 : Int32))])
      refine o_ifEq X269 at_313 402 316 (by decide) (by decide) rfl (fun q => by exfalso; exact absurd q (by decide)) ?_
      intro hc313
      refine o_aload X269 at_316 rfl rfl 318 rfl ?_
      refine o_iconst (v := (3 : Int32)) X269 at_318 rfl 319 rfl ?_
      refine o_iload X269 at_319 rfl 321 rfl ?_
      refine o_iload X269 at_321 rfl 323 rfl ?_
      refine o_aload X269 at_323 rfl rfl 325 rfl ?_
      refine o_iloadN X269 at_325 rfl 326 rfl ?_
      have H273 : OL n0 h261 ((xee, OA Z .int [((224 : Int32) + (xcp / (4096 : Int32))), ((128 : Int32) + ((xcp / (64 : Int32)) % (64 : Int32))), ((128 : Int32) + (xcp % (64 : Int32))), e3]) :: (xbb, OA Z .byte [(Int8.toInt32 (Int32.toInt8 xf)), (Int8.toInt32 (Int32.toInt8 xf)), (Int8.toInt32 (Int32.toInt8 ((224 : Int32) ||| (xcp >>> ((12 : Int32) &&& 31))))), (Int8.toInt32 (Int32.toInt8 ((128 : Int32) ||| ((xcp >>> ((6 : Int32) &&& 31)) &&& (63 : Int32))))), (Int8.toInt32 (Int32.toInt8 ((128 : Int32) ||| (xcp &&& (63 : Int32))))), (Int8.toInt32 (Int32.toInt8 xf)), (Int8.toInt32 (Int32.toInt8 xf)), (Int8.toInt32 (Int32.toInt8 xf))]) :: []) := H271.front 1 rfl
      have H274 : OL n0 h261 ((xbb, OA Z .byte [(Int8.toInt32 (Int32.toInt8 xf)), (Int8.toInt32 (Int32.toInt8 xf)), (Int8.toInt32 (Int32.toInt8 ((224 : Int32) ||| (xcp >>> ((12 : Int32) &&& 31))))), (Int8.toInt32 (Int32.toInt8 ((128 : Int32) ||| ((xcp >>> ((6 : Int32) &&& 31)) &&& (63 : Int32))))), (Int8.toInt32 (Int32.toInt8 ((128 : Int32) ||| (xcp &&& (63 : Int32))))), (Int8.toInt32 (Int32.toInt8 xf)), (Int8.toInt32 (Int32.toInt8 xf)), (Int8.toInt32 (Int32.toInt8 xf))]) :: (xee, OA Z .int [((224 : Int32) + (xcp / (4096 : Int32))), ((128 : Int32) + ((xcp / (64 : Int32)) % (64 : Int32))), ((128 : Int32) + (xcp % (64 : Int32))), e3]) :: []) := H273.front 1 rfl
      refine o_callS X269 at_326 (rest := []) (c_atI l Z a0 hw [] n0 _ X269.size xbb (3 : Int32) (2 : Int32) (3 : Int32) xee xf [(Int8.toInt32 (Int32.toInt8 xf)), (Int8.toInt32 (Int32.toInt8 xf)), (Int8.toInt32 (Int32.toInt8 ((224 : Int32) ||| (xcp >>> ((12 : Int32) &&& 31))))), (Int8.toInt32 (Int32.toInt8 ((128 : Int32) ||| ((xcp >>> ((6 : Int32) &&& 31)) &&& (63 : Int32))))), (Int8.toInt32 (Int32.toInt8 ((128 : Int32) ||| (xcp &&& (63 : Int32))))), (Int8.toInt32 (Int32.toInt8 xf)), (Int8.toInt32 (Int32.toInt8 xf)), (Int8.toInt32 (Int32.toInt8 xf))] [((224 : Int32) + (xcp / (4096 : Int32))), ((128 : Int32) + ((xcp / (64 : Int32)) % (64 : Int32))), ((128 : Int32) + (xcp % (64 : Int32))), e3] [] H274 3 rfl (Int8.toInt32 (Int32.toInt8 ((128 : Int32) ||| ((xcp >>> ((6 : Int32) &&& 31)) &&& (63 : Int32))))) rfl 1 rfl ((128 : Int32) + ((xcp / (64 : Int32)) % (64 : Int32))) rfl (by decide) (by decide) (v_e31 xcp hlo hhi)) (hw _ (List.mem_of_getElem? (i := 9) rfl)) (hw _ (List.mem_of_getElem? (i := 10) rfl)) (hw _ (List.mem_of_getElem? (i := 11) rfl)) (hw _ (List.mem_of_getElem? (i := 12) rfl)) (by decide) 0 (by decide) (by decide) rfl [(.ref xbb), (.int (3 : Int32)), (.int (2 : Int32)), (.int (3 : Int32)), (.ref xee), (.int xf)] rfl pd_2 rfl rfl (Nat.le_of_eq rfl) 2 12 rfl rfl (by decide) (by decide) 329 rfl ?_
      rintro _ T272 _ X272 ⟨rfl, rfl⟩
      show OE p e room_1 below s n0 Q' T272 (mkF m 329 #[.val (.int xc), .val (.int xi), .val (.int xf), .val (.int xcp), .val (.int (2 : Int32)), .val (.int (Int8.toInt32 (Int32.toInt8 xf))), .val (.ref xbb), .val (.ref xee), .val (.int (3 : Int32)), .val (.int (5 : Int32))] [(.int (1 : Int32))])
      refine o_ifEq X272 at_329 402 332 (by decide) (by decide) rfl (fun q => by exfalso; exact absurd q (by decide)) ?_
      intro hc329
      refine o_aload X272 at_332 rfl rfl 334 rfl ?_
      refine o_iconst (v := (4 : Int32)) X272 at_334 rfl 335 rfl ?_
      refine o_iload X272 at_335 rfl 337 rfl ?_
      refine o_iload X272 at_337 rfl 339 rfl ?_
      refine o_aload X272 at_339 rfl rfl 341 rfl ?_
      refine o_iloadN X272 at_341 rfl 342 rfl ?_
      have H276 : OL n0 h261 ((xee, OA Z .int [((224 : Int32) + (xcp / (4096 : Int32))), ((128 : Int32) + ((xcp / (64 : Int32)) % (64 : Int32))), ((128 : Int32) + (xcp % (64 : Int32))), e3]) :: (xbb, OA Z .byte [(Int8.toInt32 (Int32.toInt8 xf)), (Int8.toInt32 (Int32.toInt8 xf)), (Int8.toInt32 (Int32.toInt8 ((224 : Int32) ||| (xcp >>> ((12 : Int32) &&& 31))))), (Int8.toInt32 (Int32.toInt8 ((128 : Int32) ||| ((xcp >>> ((6 : Int32) &&& 31)) &&& (63 : Int32))))), (Int8.toInt32 (Int32.toInt8 ((128 : Int32) ||| (xcp &&& (63 : Int32))))), (Int8.toInt32 (Int32.toInt8 xf)), (Int8.toInt32 (Int32.toInt8 xf)), (Int8.toInt32 (Int32.toInt8 xf))]) :: []) := H274.front 1 rfl
      have H277 : OL n0 h261 ((xbb, OA Z .byte [(Int8.toInt32 (Int32.toInt8 xf)), (Int8.toInt32 (Int32.toInt8 xf)), (Int8.toInt32 (Int32.toInt8 ((224 : Int32) ||| (xcp >>> ((12 : Int32) &&& 31))))), (Int8.toInt32 (Int32.toInt8 ((128 : Int32) ||| ((xcp >>> ((6 : Int32) &&& 31)) &&& (63 : Int32))))), (Int8.toInt32 (Int32.toInt8 ((128 : Int32) ||| (xcp &&& (63 : Int32))))), (Int8.toInt32 (Int32.toInt8 xf)), (Int8.toInt32 (Int32.toInt8 xf)), (Int8.toInt32 (Int32.toInt8 xf))]) :: (xee, OA Z .int [((224 : Int32) + (xcp / (4096 : Int32))), ((128 : Int32) + ((xcp / (64 : Int32)) % (64 : Int32))), ((128 : Int32) + (xcp % (64 : Int32))), e3]) :: []) := H276.front 1 rfl
      refine o_callS X272 at_342 (rest := []) (c_atI l Z a0 hw [] n0 _ X272.size xbb (4 : Int32) (2 : Int32) (3 : Int32) xee xf [(Int8.toInt32 (Int32.toInt8 xf)), (Int8.toInt32 (Int32.toInt8 xf)), (Int8.toInt32 (Int32.toInt8 ((224 : Int32) ||| (xcp >>> ((12 : Int32) &&& 31))))), (Int8.toInt32 (Int32.toInt8 ((128 : Int32) ||| ((xcp >>> ((6 : Int32) &&& 31)) &&& (63 : Int32))))), (Int8.toInt32 (Int32.toInt8 ((128 : Int32) ||| (xcp &&& (63 : Int32))))), (Int8.toInt32 (Int32.toInt8 xf)), (Int8.toInt32 (Int32.toInt8 xf)), (Int8.toInt32 (Int32.toInt8 xf))] [((224 : Int32) + (xcp / (4096 : Int32))), ((128 : Int32) + ((xcp / (64 : Int32)) % (64 : Int32))), ((128 : Int32) + (xcp % (64 : Int32))), e3] [] H277 4 rfl (Int8.toInt32 (Int32.toInt8 ((128 : Int32) ||| (xcp &&& (63 : Int32))))) rfl 2 rfl ((128 : Int32) + (xcp % (64 : Int32))) rfl (by decide) (by decide) (v_e32 xcp hlo hhi)) (hw _ (List.mem_of_getElem? (i := 9) rfl)) (hw _ (List.mem_of_getElem? (i := 10) rfl)) (hw _ (List.mem_of_getElem? (i := 11) rfl)) (hw _ (List.mem_of_getElem? (i := 12) rfl)) (by decide) 0 (by decide) (by decide) rfl [(.ref xbb), (.int (4 : Int32)), (.int (2 : Int32)), (.int (3 : Int32)), (.ref xee), (.int xf)] rfl pd_2 rfl rfl (Nat.le_of_eq rfl) 2 12 rfl rfl (by decide) (by decide) 345 rfl ?_
      rintro _ T275 _ X275 ⟨rfl, rfl⟩
      show OE p e room_1 below s n0 Q' T275 (mkF m 345 #[.val (.int xc), .val (.int xi), .val (.int xf), .val (.int xcp), .val (.int (2 : Int32)), .val (.int (Int8.toInt32 (Int32.toInt8 xf))), .val (.ref xbb), .val (.ref xee), .val (.int (3 : Int32)), .val (.int (5 : Int32))] [(.int (1 : Int32))])
      refine o_ifEq X275 at_345 402 348 (by decide) (by decide) rfl (fun q => by exfalso; exact absurd q (by decide)) ?_
      intro hc345
      refine o_aload X275 at_348 rfl rfl 350 rfl ?_
      refine o_iconst (v := (5 : Int32)) X275 at_350 rfl 351 rfl ?_
      refine o_iload X275 at_351 rfl 353 rfl ?_
      refine o_iload X275 at_353 rfl 355 rfl ?_
      refine o_aload X275 at_355 rfl rfl 357 rfl ?_
      refine o_iloadN X275 at_357 rfl 358 rfl ?_
      have H279 : OL n0 h261 ((xee, OA Z .int [((224 : Int32) + (xcp / (4096 : Int32))), ((128 : Int32) + ((xcp / (64 : Int32)) % (64 : Int32))), ((128 : Int32) + (xcp % (64 : Int32))), e3]) :: (xbb, OA Z .byte [(Int8.toInt32 (Int32.toInt8 xf)), (Int8.toInt32 (Int32.toInt8 xf)), (Int8.toInt32 (Int32.toInt8 ((224 : Int32) ||| (xcp >>> ((12 : Int32) &&& 31))))), (Int8.toInt32 (Int32.toInt8 ((128 : Int32) ||| ((xcp >>> ((6 : Int32) &&& 31)) &&& (63 : Int32))))), (Int8.toInt32 (Int32.toInt8 ((128 : Int32) ||| (xcp &&& (63 : Int32))))), (Int8.toInt32 (Int32.toInt8 xf)), (Int8.toInt32 (Int32.toInt8 xf)), (Int8.toInt32 (Int32.toInt8 xf))]) :: []) := H277.front 1 rfl
      have H280 : OL n0 h261 ((xbb, OA Z .byte [(Int8.toInt32 (Int32.toInt8 xf)), (Int8.toInt32 (Int32.toInt8 xf)), (Int8.toInt32 (Int32.toInt8 ((224 : Int32) ||| (xcp >>> ((12 : Int32) &&& 31))))), (Int8.toInt32 (Int32.toInt8 ((128 : Int32) ||| ((xcp >>> ((6 : Int32) &&& 31)) &&& (63 : Int32))))), (Int8.toInt32 (Int32.toInt8 ((128 : Int32) ||| (xcp &&& (63 : Int32))))), (Int8.toInt32 (Int32.toInt8 xf)), (Int8.toInt32 (Int32.toInt8 xf)), (Int8.toInt32 (Int32.toInt8 xf))]) :: (xee, OA Z .int [((224 : Int32) + (xcp / (4096 : Int32))), ((128 : Int32) + ((xcp / (64 : Int32)) % (64 : Int32))), ((128 : Int32) + (xcp % (64 : Int32))), e3]) :: []) := H279.front 1 rfl
      refine o_callS X275 at_358 (rest := []) (c_atO l Z a0 hw [] n0 _ X275.size xbb (5 : Int32) (2 : Int32) (3 : Int32) xee xf [(Int8.toInt32 (Int32.toInt8 xf)), (Int8.toInt32 (Int32.toInt8 xf)), (Int8.toInt32 (Int32.toInt8 ((224 : Int32) ||| (xcp >>> ((12 : Int32) &&& 31))))), (Int8.toInt32 (Int32.toInt8 ((128 : Int32) ||| ((xcp >>> ((6 : Int32) &&& 31)) &&& (63 : Int32))))), (Int8.toInt32 (Int32.toInt8 ((128 : Int32) ||| (xcp &&& (63 : Int32))))), (Int8.toInt32 (Int32.toInt8 xf)), (Int8.toInt32 (Int32.toInt8 xf)), (Int8.toInt32 (Int32.toInt8 xf))] [((224 : Int32) + (xcp / (4096 : Int32))), ((128 : Int32) + ((xcp / (64 : Int32)) % (64 : Int32))), ((128 : Int32) + (xcp % (64 : Int32))), e3] [] H280 5 rfl (Int8.toInt32 (Int32.toInt8 xf)) rfl (by decide) (v_fill _)) (hw _ (List.mem_of_getElem? (i := 9) rfl)) (hw _ (List.mem_of_getElem? (i := 10) rfl)) (hw _ (List.mem_of_getElem? (i := 11) rfl)) (hw _ (List.mem_of_getElem? (i := 12) rfl)) (by decide) 0 (by decide) (by decide) rfl [(.ref xbb), (.int (5 : Int32)), (.int (2 : Int32)), (.int (3 : Int32)), (.ref xee), (.int xf)] rfl pd_2 rfl rfl (Nat.le_of_eq rfl) 2 12 rfl rfl (by decide) (by decide) 361 rfl ?_
      rintro _ T278 _ X278 ⟨rfl, rfl⟩
      show OE p e room_1 below s n0 Q' T278 (mkF m 361 #[.val (.int xc), .val (.int xi), .val (.int xf), .val (.int xcp), .val (.int (2 : Int32)), .val (.int (Int8.toInt32 (Int32.toInt8 xf))), .val (.ref xbb), .val (.ref xee), .val (.int (3 : Int32)), .val (.int (5 : Int32))] [(.int (1 : Int32))])
      refine o_ifEq X278 at_361 402 364 (by decide) (by decide) rfl (fun q => by exfalso; exact absurd q (by decide)) ?_
      intro hc361
      refine o_aload X278 at_364 rfl rfl 366 rfl ?_
      refine o_bipush (v := (6 : Int32)) X278 at_366 rfl 368 rfl ?_
      refine o_iload X278 at_368 rfl 370 rfl ?_
      refine o_iload X278 at_370 rfl 372 rfl ?_
      refine o_aload X278 at_372 rfl rfl 374 rfl ?_
      refine o_iloadN X278 at_374 rfl 375 rfl ?_
      have H282 : OL n0 h261 ((xee, OA Z .int [((224 : Int32) + (xcp / (4096 : Int32))), ((128 : Int32) + ((xcp / (64 : Int32)) % (64 : Int32))), ((128 : Int32) + (xcp % (64 : Int32))), e3]) :: (xbb, OA Z .byte [(Int8.toInt32 (Int32.toInt8 xf)), (Int8.toInt32 (Int32.toInt8 xf)), (Int8.toInt32 (Int32.toInt8 ((224 : Int32) ||| (xcp >>> ((12 : Int32) &&& 31))))), (Int8.toInt32 (Int32.toInt8 ((128 : Int32) ||| ((xcp >>> ((6 : Int32) &&& 31)) &&& (63 : Int32))))), (Int8.toInt32 (Int32.toInt8 ((128 : Int32) ||| (xcp &&& (63 : Int32))))), (Int8.toInt32 (Int32.toInt8 xf)), (Int8.toInt32 (Int32.toInt8 xf)), (Int8.toInt32 (Int32.toInt8 xf))]) :: []) := H280.front 1 rfl
      have H283 : OL n0 h261 ((xbb, OA Z .byte [(Int8.toInt32 (Int32.toInt8 xf)), (Int8.toInt32 (Int32.toInt8 xf)), (Int8.toInt32 (Int32.toInt8 ((224 : Int32) ||| (xcp >>> ((12 : Int32) &&& 31))))), (Int8.toInt32 (Int32.toInt8 ((128 : Int32) ||| ((xcp >>> ((6 : Int32) &&& 31)) &&& (63 : Int32))))), (Int8.toInt32 (Int32.toInt8 ((128 : Int32) ||| (xcp &&& (63 : Int32))))), (Int8.toInt32 (Int32.toInt8 xf)), (Int8.toInt32 (Int32.toInt8 xf)), (Int8.toInt32 (Int32.toInt8 xf))]) :: (xee, OA Z .int [((224 : Int32) + (xcp / (4096 : Int32))), ((128 : Int32) + ((xcp / (64 : Int32)) % (64 : Int32))), ((128 : Int32) + (xcp % (64 : Int32))), e3]) :: []) := H282.front 1 rfl
      refine o_callS X278 at_375 (rest := []) (c_atO l Z a0 hw [] n0 _ X278.size xbb (6 : Int32) (2 : Int32) (3 : Int32) xee xf [(Int8.toInt32 (Int32.toInt8 xf)), (Int8.toInt32 (Int32.toInt8 xf)), (Int8.toInt32 (Int32.toInt8 ((224 : Int32) ||| (xcp >>> ((12 : Int32) &&& 31))))), (Int8.toInt32 (Int32.toInt8 ((128 : Int32) ||| ((xcp >>> ((6 : Int32) &&& 31)) &&& (63 : Int32))))), (Int8.toInt32 (Int32.toInt8 ((128 : Int32) ||| (xcp &&& (63 : Int32))))), (Int8.toInt32 (Int32.toInt8 xf)), (Int8.toInt32 (Int32.toInt8 xf)), (Int8.toInt32 (Int32.toInt8 xf))] [((224 : Int32) + (xcp / (4096 : Int32))), ((128 : Int32) + ((xcp / (64 : Int32)) % (64 : Int32))), ((128 : Int32) + (xcp % (64 : Int32))), e3] [] H283 6 rfl (Int8.toInt32 (Int32.toInt8 xf)) rfl (by decide) (v_fill _)) (hw _ (List.mem_of_getElem? (i := 9) rfl)) (hw _ (List.mem_of_getElem? (i := 10) rfl)) (hw _ (List.mem_of_getElem? (i := 11) rfl)) (hw _ (List.mem_of_getElem? (i := 12) rfl)) (by decide) 0 (by decide) (by decide) rfl [(.ref xbb), (.int (6 : Int32)), (.int (2 : Int32)), (.int (3 : Int32)), (.ref xee), (.int xf)] rfl pd_2 rfl rfl (Nat.le_of_eq rfl) 2 12 rfl rfl (by decide) (by decide) 378 rfl ?_
      rintro _ T281 _ X281 ⟨rfl, rfl⟩
      show OE p e room_1 below s n0 Q' T281 (mkF m 378 #[.val (.int xc), .val (.int xi), .val (.int xf), .val (.int xcp), .val (.int (2 : Int32)), .val (.int (Int8.toInt32 (Int32.toInt8 xf))), .val (.ref xbb), .val (.ref xee), .val (.int (3 : Int32)), .val (.int (5 : Int32))] [(.int (1 : Int32))])
      refine o_ifEq X281 at_378 402 381 (by decide) (by decide) rfl (fun q => by exfalso; exact absurd q (by decide)) ?_
      intro hc378
      refine o_aload X281 at_381 rfl rfl 383 rfl ?_
      refine o_bipush (v := (7 : Int32)) X281 at_383 rfl 385 rfl ?_
      refine o_iload X281 at_385 rfl 387 rfl ?_
      refine o_iload X281 at_387 rfl 389 rfl ?_
      refine o_aload X281 at_389 rfl rfl 391 rfl ?_
      refine o_iloadN X281 at_391 rfl 392 rfl ?_
      have H285 : OL n0 h261 ((xee, OA Z .int [((224 : Int32) + (xcp / (4096 : Int32))), ((128 : Int32) + ((xcp / (64 : Int32)) % (64 : Int32))), ((128 : Int32) + (xcp % (64 : Int32))), e3]) :: (xbb, OA Z .byte [(Int8.toInt32 (Int32.toInt8 xf)), (Int8.toInt32 (Int32.toInt8 xf)), (Int8.toInt32 (Int32.toInt8 ((224 : Int32) ||| (xcp >>> ((12 : Int32) &&& 31))))), (Int8.toInt32 (Int32.toInt8 ((128 : Int32) ||| ((xcp >>> ((6 : Int32) &&& 31)) &&& (63 : Int32))))), (Int8.toInt32 (Int32.toInt8 ((128 : Int32) ||| (xcp &&& (63 : Int32))))), (Int8.toInt32 (Int32.toInt8 xf)), (Int8.toInt32 (Int32.toInt8 xf)), (Int8.toInt32 (Int32.toInt8 xf))]) :: []) := H283.front 1 rfl
      have H286 : OL n0 h261 ((xbb, OA Z .byte [(Int8.toInt32 (Int32.toInt8 xf)), (Int8.toInt32 (Int32.toInt8 xf)), (Int8.toInt32 (Int32.toInt8 ((224 : Int32) ||| (xcp >>> ((12 : Int32) &&& 31))))), (Int8.toInt32 (Int32.toInt8 ((128 : Int32) ||| ((xcp >>> ((6 : Int32) &&& 31)) &&& (63 : Int32))))), (Int8.toInt32 (Int32.toInt8 ((128 : Int32) ||| (xcp &&& (63 : Int32))))), (Int8.toInt32 (Int32.toInt8 xf)), (Int8.toInt32 (Int32.toInt8 xf)), (Int8.toInt32 (Int32.toInt8 xf))]) :: (xee, OA Z .int [((224 : Int32) + (xcp / (4096 : Int32))), ((128 : Int32) + ((xcp / (64 : Int32)) % (64 : Int32))), ((128 : Int32) + (xcp % (64 : Int32))), e3]) :: []) := H285.front 1 rfl
      refine o_callS X281 at_392 (rest := []) (c_atO l Z a0 hw [] n0 _ X281.size xbb (7 : Int32) (2 : Int32) (3 : Int32) xee xf [(Int8.toInt32 (Int32.toInt8 xf)), (Int8.toInt32 (Int32.toInt8 xf)), (Int8.toInt32 (Int32.toInt8 ((224 : Int32) ||| (xcp >>> ((12 : Int32) &&& 31))))), (Int8.toInt32 (Int32.toInt8 ((128 : Int32) ||| ((xcp >>> ((6 : Int32) &&& 31)) &&& (63 : Int32))))), (Int8.toInt32 (Int32.toInt8 ((128 : Int32) ||| (xcp &&& (63 : Int32))))), (Int8.toInt32 (Int32.toInt8 xf)), (Int8.toInt32 (Int32.toInt8 xf)), (Int8.toInt32 (Int32.toInt8 xf))] [((224 : Int32) + (xcp / (4096 : Int32))), ((128 : Int32) + ((xcp / (64 : Int32)) % (64 : Int32))), ((128 : Int32) + (xcp % (64 : Int32))), e3] [] H286 7 rfl (Int8.toInt32 (Int32.toInt8 xf)) rfl (by decide) (v_fill _)) (hw _ (List.mem_of_getElem? (i := 9) rfl)) (hw _ (List.mem_of_getElem? (i := 10) rfl)) (hw _ (List.mem_of_getElem? (i := 11) rfl)) (hw _ (List.mem_of_getElem? (i := 12) rfl)) (by decide) 0 (by decide) (by decide) rfl [(.ref xbb), (.int (7 : Int32)), (.int (2 : Int32)), (.int (3 : Int32)), (.ref xee), (.int xf)] rfl pd_2 rfl rfl (Nat.le_of_eq rfl) 2 12 rfl rfl (by decide) (by decide) 395 rfl ?_
      rintro _ T284 _ X284 ⟨rfl, rfl⟩
      show OE p e room_1 below s n0 Q' T284 (mkF m 395 #[.val (.int xc), .val (.int xi), .val (.int xf), .val (.int xcp), .val (.int (2 : Int32)), .val (.int (Int8.toInt32 (Int32.toInt8 xf))), .val (.ref xbb), .val (.ref xee), .val (.int (3 : Int32)), .val (.int (5 : Int32))] [(.int (1 : Int32))])
      refine o_ifEq X284 at_395 402 398 (by decide) (by decide) rfl (fun q => by exfalso; exact absurd q (by decide)) ?_
      intro hc395
      refine o_iconst (v := (1 : Int32)) X284 at_398 rfl 399 rfl ?_
      refine o_goto X284 at_399 403 (by decide) (by decide) ?_
      exact o_retZ X284 at_403 (by decide) (by decide) (hQ _ _ rfl)
    · skip
      refine o_iloadN X_J248 at_248 rfl 249 rfl ?_
      refine o_aload X_J248 at_249 rfl rfl 251 rfl ?_
      refine o_iload X_J248 at_251 rfl 253 rfl ?_
      have H288 : OL n0 h ((xbb, OA Z .byte [(Int8.toInt32 (Int32.toInt8 xf)), (Int8.toInt32 (Int32.toInt8 xf)), (Int8.toInt32 (Int32.toInt8 xf)), (Int8.toInt32 (Int32.toInt8 xf)), (Int8.toInt32 (Int32.toInt8 xf)), (Int8.toInt32 (Int32.toInt8 xf)), (Int8.toInt32 (Int32.toInt8 xf)), (Int8.toInt32 (Int32.toInt8 xf))]) :: (xee, OA Z .int [((224 : Int32) + (xcp / (4096 : Int32))), ((128 : Int32) + ((xcp / (64 : Int32)) % (64 : Int32))), ((128 : Int32) + (xcp % (64 : Int32))), e3]) :: []) := H_J248.front 1 rfl
      refine o_callS X_J248 at_253 (rest := []) (c_enc3 l Z a0 hw [] n0 _ X_J248.size xcp xbb (3 : Int32) [(Int8.toInt32 (Int32.toInt8 xf)), (Int8.toInt32 (Int32.toInt8 xf)), (Int8.toInt32 (Int32.toInt8 xf)), (Int8.toInt32 (Int32.toInt8 xf)), (Int8.toInt32 (Int32.toInt8 xf)), (Int8.toInt32 (Int32.toInt8 xf)), (Int8.toInt32 (Int32.toInt8 xf)), (Int8.toInt32 (Int32.toInt8 xf))] ((xee, OA Z .int [((224 : Int32) + (xcp / (4096 : Int32))), ((128 : Int32) + ((xcp / (64 : Int32)) % (64 : Int32))), ((128 : Int32) + (xcp % (64 : Int32))), e3]) :: []) H288 3 rfl (by show 6 ≤ 8; decide) (by decide) hlo hhi) (hw _ (List.mem_of_getElem? (i := 5) rfl)) (hw _ (List.mem_of_getElem? (i := 6) rfl)) (hw _ (List.mem_of_getElem? (i := 7) rfl)) (hw _ (List.mem_of_getElem? (i := 8) rfl)) (by decide) 0 (by decide) (by decide) rfl [(.int xcp), (.ref xbb), (.int (3 : Int32))] rfl pd_1 rfl rfl (Nat.le_of_eq rfl) 2 12 rfl rfl (by decide) (by decide) 256 rfl ?_
      rintro _ T287 h287 X287 ⟨rfl, H287⟩
      replace H287 : OL n0 h287 ((xbb, OA Z .byte [(Int8.toInt32 (Int32.toInt8 xf)), (Int8.toInt32 (Int32.toInt8 xf)), (Int8.toInt32 (Int32.toInt8 xf)), (Int8.toInt32 (Int32.toInt8 ((224 : Int32) ||| (xcp >>> ((12 : Int32) &&& 31))))), (Int8.toInt32 (Int32.toInt8 ((128 : Int32) ||| ((xcp >>> ((6 : Int32) &&& 31)) &&& (63 : Int32))))), (Int8.toInt32 (Int32.toInt8 ((128 : Int32) ||| (xcp &&& (63 : Int32))))), (Int8.toInt32 (Int32.toInt8 xf)), (Int8.toInt32 (Int32.toInt8 xf))]) :: (xee, OA Z .int [((224 : Int32) + (xcp / (4096 : Int32))), ((128 : Int32) + ((xcp / (64 : Int32)) % (64 : Int32))), ((128 : Int32) + (xcp % (64 : Int32))), e3]) :: []) := H287
      show OE p e room_1 below s n0 Q' T287 (mkF m 256 #[.val (.int xc), .val (.int xi), .val (.int xf), .val (.int xcp), .val (.int (3 : Int32)), .val (.int (Int8.toInt32 (Int32.toInt8 xf))), .val (.ref xbb), .val (.ref xee), .val (.int (3 : Int32)), .unset] [(.int ((((3 : Int32) + (1 : Int32)) + (1 : Int32)) + (1 : Int32)))])
      refine o_istore X287 at_256 #[.val (.int xc), .val (.int xi), .val (.int xf), .val (.int xcp), .val (.int (3 : Int32)), .val (.int (Int8.toInt32 (Int32.toInt8 xf))), .val (.ref xbb), .val (.ref xee), .val (.int (3 : Int32)), .val (.int ((((3 : Int32) + (1 : Int32)) + (1 : Int32)) + (1 : Int32)))] rfl 258 rfl ?_
      rw [show ((((3 : Int32) + (1 : Int32)) + (1 : Int32)) + (1 : Int32)) = (6 : Int32) from rfl]
      refine o_iload X287 at_258 rfl 260 rfl ?_
      refine o_iload X287 at_260 rfl 262 rfl ?_
      refine o_iload X287 at_262 rfl 264 rfl ?_
      refine o_iadd X287 at_264 265 rfl ?_
      refine o_icmpNe X287 at_265 402 268 (by decide) (by decide) rfl (fun q => by exfalso; exact q rfl) ?_
      intro hc265
      refine o_aload X287 at_268 rfl rfl 270 rfl ?_
      refine o_iconst (v := (0 : Int32)) X287 at_270 rfl 271 rfl ?_
      refine o_iload X287 at_271 rfl 273 rfl ?_
      refine o_iload X287 at_273 rfl 275 rfl ?_
      refine o_aload X287 at_275 rfl rfl 277 rfl ?_
      refine o_iloadN X287 at_277 rfl 278 rfl ?_
      have H290 : OL n0 h287 ((xee, OA Z .int [((224 : Int32) + (xcp / (4096 : Int32))), ((128 : Int32) + ((xcp / (64 : Int32)) % (64 : Int32))), ((128 : Int32) + (xcp % (64 : Int32))), e3]) :: (xbb, OA Z .byte [(Int8.toInt32 (Int32.toInt8 xf)), (Int8.toInt32 (Int32.toInt8 xf)), (Int8.toInt32 (Int32.toInt8 xf)), (Int8.toInt32 (Int32.toInt8 ((224 : Int32) ||| (xcp >>> ((12 : Int32) &&& 31))))), (Int8.toInt32 (Int32.toInt8 ((128 : Int32) ||| ((xcp >>> ((6 : Int32) &&& 31)) &&& (63 : Int32))))), (Int8.toInt32 (Int32.toInt8 ((128 : Int32) ||| (xcp &&& (63 : Int32))))), (Int8.toInt32 (Int32.toInt8 xf)), (Int8.toInt32 (Int32.toInt8 xf))]) :: []) := H287.front 1 rfl
      have H291 : OL n0 h287 ((xbb, OA Z .byte [(Int8.toInt32 (Int32.toInt8 xf)), (Int8.toInt32 (Int32.toInt8 xf)), (Int8.toInt32 (Int32.toInt8 xf)), (Int8.toInt32 (Int32.toInt8 ((224 : Int32) ||| (xcp >>> ((12 : Int32) &&& 31))))), (Int8.toInt32 (Int32.toInt8 ((128 : Int32) ||| ((xcp >>> ((6 : Int32) &&& 31)) &&& (63 : Int32))))), (Int8.toInt32 (Int32.toInt8 ((128 : Int32) ||| (xcp &&& (63 : Int32))))), (Int8.toInt32 (Int32.toInt8 xf)), (Int8.toInt32 (Int32.toInt8 xf))]) :: (xee, OA Z .int [((224 : Int32) + (xcp / (4096 : Int32))), ((128 : Int32) + ((xcp / (64 : Int32)) % (64 : Int32))), ((128 : Int32) + (xcp % (64 : Int32))), e3]) :: []) := H290.front 1 rfl
      refine o_callS X287 at_278 (rest := []) (c_atO l Z a0 hw [] n0 _ X287.size xbb (0 : Int32) (3 : Int32) (3 : Int32) xee xf [(Int8.toInt32 (Int32.toInt8 xf)), (Int8.toInt32 (Int32.toInt8 xf)), (Int8.toInt32 (Int32.toInt8 xf)), (Int8.toInt32 (Int32.toInt8 ((224 : Int32) ||| (xcp >>> ((12 : Int32) &&& 31))))), (Int8.toInt32 (Int32.toInt8 ((128 : Int32) ||| ((xcp >>> ((6 : Int32) &&& 31)) &&& (63 : Int32))))), (Int8.toInt32 (Int32.toInt8 ((128 : Int32) ||| (xcp &&& (63 : Int32))))), (Int8.toInt32 (Int32.toInt8 xf)), (Int8.toInt32 (Int32.toInt8 xf))] [((224 : Int32) + (xcp / (4096 : Int32))), ((128 : Int32) + ((xcp / (64 : Int32)) % (64 : Int32))), ((128 : Int32) + (xcp % (64 : Int32))), e3] [] H291 0 rfl (Int8.toInt32 (Int32.toInt8 xf)) rfl (by decide) (v_fill _)) (hw _ (List.mem_of_getElem? (i := 9) rfl)) (hw _ (List.mem_of_getElem? (i := 10) rfl)) (hw _ (List.mem_of_getElem? (i := 11) rfl)) (hw _ (List.mem_of_getElem? (i := 12) rfl)) (by decide) 0 (by decide) (by decide) rfl [(.ref xbb), (.int (0 : Int32)), (.int (3 : Int32)), (.int (3 : Int32)), (.ref xee), (.int xf)] rfl pd_2 rfl rfl (Nat.le_of_eq rfl) 2 12 rfl rfl (by decide) (by decide) 281 rfl ?_
      rintro _ T289 _ X289 ⟨rfl, rfl⟩
      show OE p e room_1 below s n0 Q' T289 (mkF m 281 #[.val (.int xc), .val (.int xi), .val (.int xf), .val (.int xcp), .val (.int (3 : Int32)), .val (.int (Int8.toInt32 (Int32.toInt8 xf))), .val (.ref xbb), .val (.ref xee), .val (.int (3 : Int32)), .val (.int (6 : Int32))] [(.int (1 : Int32))])
      refine o_ifEq X289 at_281 402 284 (by decide) (by decide) rfl (fun q => by exfalso; exact absurd q (by decide)) ?_
      intro hc281
      refine o_aload X289 at_284 rfl rfl 286 rfl ?_
      refine o_iconst (v := (1 : Int32)) X289 at_286 rfl 287 rfl ?_
      refine o_iload X289 at_287 rfl 289 rfl ?_
      refine o_iload X289 at_289 rfl 291 rfl ?_
      refine o_aload X289 at_291 rfl rfl 293 rfl ?_
      refine o_iloadN X289 at_293 rfl 294 rfl ?_
      have H293 : OL n0 h287 ((xee, OA Z .int [((224 : Int32) + (xcp / (4096 : Int32))), ((128 : Int32) + ((xcp / (64 : Int32)) % (64 : Int32))), ((128 : Int32) + (xcp % (64 : Int32))), e3]) :: (xbb, OA Z .byte [(Int8.toInt32 (Int32.toInt8 xf)), (Int8.toInt32 (Int32.toInt8 xf)), (Int8.toInt32 (Int32.toInt8 xf)), (Int8.toInt32 (Int32.toInt8 ((224 : Int32) ||| (xcp >>> ((12 : Int32) &&& 31))))), (Int8.toInt32 (Int32.toInt8 ((128 : Int32) ||| ((xcp >>> ((6 : Int32) &&& 31)) &&& (63 : Int32))))), (Int8.toInt32 (Int32.toInt8 ((128 : Int32) ||| (xcp &&& (63 : Int32))))), (Int8.toInt32 (Int32.toInt8 xf)), (Int8.toInt32 (Int32.toInt8 xf))]) :: []) := H291.front 1 rfl
      have H294 : OL n0 h287 ((xbb, OA Z .byte [(Int8.toInt32 (Int32.toInt8 xf)), (Int8.toInt32 (Int32.toInt8 xf)), (Int8.toInt32 (Int32.toInt8 xf)), (Int8.toInt32 (Int32.toInt8 ((224 : Int32) ||| (xcp >>> ((12 : Int32) &&& 31))))), (Int8.toInt32 (Int32.toInt8 ((128 : Int32) ||| ((xcp >>> ((6 : Int32) &&& 31)) &&& (63 : Int32))))), (Int8.toInt32 (Int32.toInt8 ((128 : Int32) ||| (xcp &&& (63 : Int32))))), (Int8.toInt32 (Int32.toInt8 xf)), (Int8.toInt32 (Int32.toInt8 xf))]) :: (xee, OA Z .int [((224 : Int32) + (xcp / (4096 : Int32))), ((128 : Int32) + ((xcp / (64 : Int32)) % (64 : Int32))), ((128 : Int32) + (xcp % (64 : Int32))), e3]) :: []) := H293.front 1 rfl
      refine o_callS X289 at_294 (rest := []) (c_atO l Z a0 hw [] n0 _ X289.size xbb (1 : Int32) (3 : Int32) (3 : Int32) xee xf [(Int8.toInt32 (Int32.toInt8 xf)), (Int8.toInt32 (Int32.toInt8 xf)), (Int8.toInt32 (Int32.toInt8 xf)), (Int8.toInt32 (Int32.toInt8 ((224 : Int32) ||| (xcp >>> ((12 : Int32) &&& 31))))), (Int8.toInt32 (Int32.toInt8 ((128 : Int32) ||| ((xcp >>> ((6 : Int32) &&& 31)) &&& (63 : Int32))))), (Int8.toInt32 (Int32.toInt8 ((128 : Int32) ||| (xcp &&& (63 : Int32))))), (Int8.toInt32 (Int32.toInt8 xf)), (Int8.toInt32 (Int32.toInt8 xf))] [((224 : Int32) + (xcp / (4096 : Int32))), ((128 : Int32) + ((xcp / (64 : Int32)) % (64 : Int32))), ((128 : Int32) + (xcp % (64 : Int32))), e3] [] H294 1 rfl (Int8.toInt32 (Int32.toInt8 xf)) rfl (by decide) (v_fill _)) (hw _ (List.mem_of_getElem? (i := 9) rfl)) (hw _ (List.mem_of_getElem? (i := 10) rfl)) (hw _ (List.mem_of_getElem? (i := 11) rfl)) (hw _ (List.mem_of_getElem? (i := 12) rfl)) (by decide) 0 (by decide) (by decide) rfl [(.ref xbb), (.int (1 : Int32)), (.int (3 : Int32)), (.int (3 : Int32)), (.ref xee), (.int xf)] rfl pd_2 rfl rfl (Nat.le_of_eq rfl) 2 12 rfl rfl (by decide) (by decide) 297 rfl ?_
      rintro _ T292 _ X292 ⟨rfl, rfl⟩
      show OE p e room_1 below s n0 Q' T292 (mkF m 297 #[.val (.int xc), .val (.int xi), .val (.int xf), .val (.int xcp), .val (.int (3 : Int32)), .val (.int (Int8.toInt32 (Int32.toInt8 xf))), .val (.ref xbb), .val (.ref xee), .val (.int (3 : Int32)), .val (.int (6 : Int32))] [(.int (1 : Int32))])
      refine o_ifEq X292 at_297 402 300 (by decide) (by decide) rfl (fun q => by exfalso; exact absurd q (by decide)) ?_
      intro hc297
      refine o_aload X292 at_300 rfl rfl 302 rfl ?_
      refine o_iconst (v := (2 : Int32)) X292 at_302 rfl 303 rfl ?_
      refine o_iload X292 at_303 rfl 305 rfl ?_
      refine o_iload X292 at_305 rfl 307 rfl ?_
      refine o_aload X292 at_307 rfl rfl 309 rfl ?_
      refine o_iloadN X292 at_309 rfl 310 rfl ?_
      have H296 : OL n0 h287 ((xee, OA Z .int [((224 : Int32) + (xcp / (4096 : Int32))), ((128 : Int32) + ((xcp / (64 : Int32)) % (64 : Int32))), ((128 : Int32) + (xcp % (64 : Int32))), e3]) :: (xbb, OA Z .byte [(Int8.toInt32 (Int32.toInt8 xf)), (Int8.toInt32 (Int32.toInt8 xf)), (Int8.toInt32 (Int32.toInt8 xf)), (Int8.toInt32 (Int32.toInt8 ((224 : Int32) ||| (xcp >>> ((12 : Int32) &&& 31))))), (Int8.toInt32 (Int32.toInt8 ((128 : Int32) ||| ((xcp >>> ((6 : Int32) &&& 31)) &&& (63 : Int32))))), (Int8.toInt32 (Int32.toInt8 ((128 : Int32) ||| (xcp &&& (63 : Int32))))), (Int8.toInt32 (Int32.toInt8 xf)), (Int8.toInt32 (Int32.toInt8 xf))]) :: []) := H294.front 1 rfl
      have H297 : OL n0 h287 ((xbb, OA Z .byte [(Int8.toInt32 (Int32.toInt8 xf)), (Int8.toInt32 (Int32.toInt8 xf)), (Int8.toInt32 (Int32.toInt8 xf)), (Int8.toInt32 (Int32.toInt8 ((224 : Int32) ||| (xcp >>> ((12 : Int32) &&& 31))))), (Int8.toInt32 (Int32.toInt8 ((128 : Int32) ||| ((xcp >>> ((6 : Int32) &&& 31)) &&& (63 : Int32))))), (Int8.toInt32 (Int32.toInt8 ((128 : Int32) ||| (xcp &&& (63 : Int32))))), (Int8.toInt32 (Int32.toInt8 xf)), (Int8.toInt32 (Int32.toInt8 xf))]) :: (xee, OA Z .int [((224 : Int32) + (xcp / (4096 : Int32))), ((128 : Int32) + ((xcp / (64 : Int32)) % (64 : Int32))), ((128 : Int32) + (xcp % (64 : Int32))), e3]) :: []) := H296.front 1 rfl
      refine o_callS X292 at_310 (rest := []) (c_atO l Z a0 hw [] n0 _ X292.size xbb (2 : Int32) (3 : Int32) (3 : Int32) xee xf [(Int8.toInt32 (Int32.toInt8 xf)), (Int8.toInt32 (Int32.toInt8 xf)), (Int8.toInt32 (Int32.toInt8 xf)), (Int8.toInt32 (Int32.toInt8 ((224 : Int32) ||| (xcp >>> ((12 : Int32) &&& 31))))), (Int8.toInt32 (Int32.toInt8 ((128 : Int32) ||| ((xcp >>> ((6 : Int32) &&& 31)) &&& (63 : Int32))))), (Int8.toInt32 (Int32.toInt8 ((128 : Int32) ||| (xcp &&& (63 : Int32))))), (Int8.toInt32 (Int32.toInt8 xf)), (Int8.toInt32 (Int32.toInt8 xf))] [((224 : Int32) + (xcp / (4096 : Int32))), ((128 : Int32) + ((xcp / (64 : Int32)) % (64 : Int32))), ((128 : Int32) + (xcp % (64 : Int32))), e3] [] H297 2 rfl (Int8.toInt32 (Int32.toInt8 xf)) rfl (by decide) (v_fill _)) (hw _ (List.mem_of_getElem? (i := 9) rfl)) (hw _ (List.mem_of_getElem? (i := 10) rfl)) (hw _ (List.mem_of_getElem? (i := 11) rfl)) (hw _ (List.mem_of_getElem? (i := 12) rfl)) (by decide) 0 (by decide) (by decide) rfl [(.ref xbb), (.int (2 : Int32)), (.int (3 : Int32)), (.int (3 : Int32)), (.ref xee), (.int xf)] rfl pd_2 rfl rfl (Nat.le_of_eq rfl) 2 12 rfl rfl (by decide) (by decide) 313 rfl ?_
      rintro _ T295 _ X295 ⟨rfl, rfl⟩
      show OE p e room_1 below s n0 Q' T295 (mkF m 313 #[.val (.int xc), .val (.int xi), .val (.int xf), .val (.int xcp), .val (.int (3 : Int32)), .val (.int (Int8.toInt32 (Int32.toInt8 xf))), .val (.ref xbb), .val (.ref xee), .val (.int (3 : Int32)), .val (.int (6 : Int32))] [(.int (1 : Int32))])
      refine o_ifEq X295 at_313 402 316 (by decide) (by decide) rfl (fun q => by exfalso; exact absurd q (by decide)) ?_
      intro hc313
      refine o_aload X295 at_316 rfl rfl 318 rfl ?_
      refine o_iconst (v := (3 : Int32)) X295 at_318 rfl 319 rfl ?_
      refine o_iload X295 at_319 rfl 321 rfl ?_
      refine o_iload X295 at_321 rfl 323 rfl ?_
      refine o_aload X295 at_323 rfl rfl 325 rfl ?_
      refine o_iloadN X295 at_325 rfl 326 rfl ?_
      have H299 : OL n0 h287 ((xee, OA Z .int [((224 : Int32) + (xcp / (4096 : Int32))), ((128 : Int32) + ((xcp / (64 : Int32)) % (64 : Int32))), ((128 : Int32) + (xcp % (64 : Int32))), e3]) :: (xbb, OA Z .byte [(Int8.toInt32 (Int32.toInt8 xf)), (Int8.toInt32 (Int32.toInt8 xf)), (Int8.toInt32 (Int32.toInt8 xf)), (Int8.toInt32 (Int32.toInt8 ((224 : Int32) ||| (xcp >>> ((12 : Int32) &&& 31))))), (Int8.toInt32 (Int32.toInt8 ((128 : Int32) ||| ((xcp >>> ((6 : Int32) &&& 31)) &&& (63 : Int32))))), (Int8.toInt32 (Int32.toInt8 ((128 : Int32) ||| (xcp &&& (63 : Int32))))), (Int8.toInt32 (Int32.toInt8 xf)), (Int8.toInt32 (Int32.toInt8 xf))]) :: []) := H297.front 1 rfl
      have H300 : OL n0 h287 ((xbb, OA Z .byte [(Int8.toInt32 (Int32.toInt8 xf)), (Int8.toInt32 (Int32.toInt8 xf)), (Int8.toInt32 (Int32.toInt8 xf)), (Int8.toInt32 (Int32.toInt8 ((224 : Int32) ||| (xcp >>> ((12 : Int32) &&& 31))))), (Int8.toInt32 (Int32.toInt8 ((128 : Int32) ||| ((xcp >>> ((6 : Int32) &&& 31)) &&& (63 : Int32))))), (Int8.toInt32 (Int32.toInt8 ((128 : Int32) ||| (xcp &&& (63 : Int32))))), (Int8.toInt32 (Int32.toInt8 xf)), (Int8.toInt32 (Int32.toInt8 xf))]) :: (xee, OA Z .int [((224 : Int32) + (xcp / (4096 : Int32))), ((128 : Int32) + ((xcp / (64 : Int32)) % (64 : Int32))), ((128 : Int32) + (xcp % (64 : Int32))), e3]) :: []) := H299.front 1 rfl
      refine o_callS X295 at_326 (rest := []) (c_atI l Z a0 hw [] n0 _ X295.size xbb (3 : Int32) (3 : Int32) (3 : Int32) xee xf [(Int8.toInt32 (Int32.toInt8 xf)), (Int8.toInt32 (Int32.toInt8 xf)), (Int8.toInt32 (Int32.toInt8 xf)), (Int8.toInt32 (Int32.toInt8 ((224 : Int32) ||| (xcp >>> ((12 : Int32) &&& 31))))), (Int8.toInt32 (Int32.toInt8 ((128 : Int32) ||| ((xcp >>> ((6 : Int32) &&& 31)) &&& (63 : Int32))))), (Int8.toInt32 (Int32.toInt8 ((128 : Int32) ||| (xcp &&& (63 : Int32))))), (Int8.toInt32 (Int32.toInt8 xf)), (Int8.toInt32 (Int32.toInt8 xf))] [((224 : Int32) + (xcp / (4096 : Int32))), ((128 : Int32) + ((xcp / (64 : Int32)) % (64 : Int32))), ((128 : Int32) + (xcp % (64 : Int32))), e3] [] H300 3 rfl (Int8.toInt32 (Int32.toInt8 ((224 : Int32) ||| (xcp >>> ((12 : Int32) &&& 31))))) rfl 0 rfl ((224 : Int32) + (xcp / (4096 : Int32))) rfl (by decide) (by decide) (v_e30 xcp hlo hhi)) (hw _ (List.mem_of_getElem? (i := 9) rfl)) (hw _ (List.mem_of_getElem? (i := 10) rfl)) (hw _ (List.mem_of_getElem? (i := 11) rfl)) (hw _ (List.mem_of_getElem? (i := 12) rfl)) (by decide) 0 (by decide) (by decide) rfl [(.ref xbb), (.int (3 : Int32)), (.int (3 : Int32)), (.int (3 : Int32)), (.ref xee), (.int xf)] rfl pd_2 rfl rfl (Nat.le_of_eq rfl) 2 12 rfl rfl (by decide) (by decide) 329 rfl ?_
      rintro _ T298 _ X298 ⟨rfl, rfl⟩
      show OE p e room_1 below s n0 Q' T298 (mkF m 329 #[.val (.int xc), .val (.int xi), .val (.int xf), .val (.int xcp), .val (.int (3 : Int32)), .val (.int (Int8.toInt32 (Int32.toInt8 xf))), .val (.ref xbb), .val (.ref xee), .val (.int (3 : Int32)), .val (.int (6 : Int32))] [(.int (1 : Int32))])
      refine o_ifEq X298 at_329 402 332 (by decide) (by decide) rfl (fun q => by exfalso; exact absurd q (by decide)) ?_
      intro hc329
      refine o_aload X298 at_332 rfl rfl 334 rfl ?_
      refine o_iconst (v := (4 : Int32)) X298 at_334 rfl 335 rfl ?_
      refine o_iload X298 at_335 rfl 337 rfl ?_
      refine o_iload X298 at_337 rfl 339 rfl ?_
      refine o_aload X298 at_339 rfl rfl 341 rfl ?_
      refine o_iloadN X298 at_341 rfl 342 rfl ?_
      have H302 : OL n0 h287 ((xee, OA Z .int [((224 : Int32) + (xcp / (4096 : Int32))), ((128 : Int32) + ((xcp / (64 : Int32)) % (64 : Int32))), ((128 : Int32) + (xcp % (64 : Int32))), e3]) :: (xbb, OA Z .byte [(Int8.toInt32 (Int32.toInt8 xf)), (Int8.toInt32 (Int32.toInt8 xf)), (Int8.toInt32 (Int32.toInt8 xf)), (Int8.toInt32 (Int32.toInt8 ((224 : Int32) ||| (xcp >>> ((12 : Int32) &&& 31))))), (Int8.toInt32 (Int32.toInt8 ((128 : Int32) ||| ((xcp >>> ((6 : Int32) &&& 31)) &&& (63 : Int32))))), (Int8.toInt32 (Int32.toInt8 ((128 : Int32) ||| (xcp &&& (63 : Int32))))), (Int8.toInt32 (Int32.toInt8 xf)), (Int8.toInt32 (Int32.toInt8 xf))]) :: []) := H300.front 1 rfl
      have H303 : OL n0 h287 ((xbb, OA Z .byte [(Int8.toInt32 (Int32.toInt8 xf)), (Int8.toInt32 (Int32.toInt8 xf)), (Int8.toInt32 (Int32.toInt8 xf)), (Int8.toInt32 (Int32.toInt8 ((224 : Int32) ||| (xcp >>> ((12 : Int32) &&& 31))))), (Int8.toInt32 (Int32.toInt8 ((128 : Int32) ||| ((xcp >>> ((6 : Int32) &&& 31)) &&& (63 : Int32))))), (Int8.toInt32 (Int32.toInt8 ((128 : Int32) ||| (xcp &&& (63 : Int32))))), (Int8.toInt32 (Int32.toInt8 xf)), (Int8.toInt32 (Int32.toInt8 xf))]) :: (xee, OA Z .int [((224 : Int32) + (xcp / (4096 : Int32))), ((128 : Int32) + ((xcp / (64 : Int32)) % (64 : Int32))), ((128 : Int32) + (xcp % (64 : Int32))), e3]) :: []) := H302.front 1 rfl
      refine o_callS X298 at_342 (rest := []) (c_atI l Z a0 hw [] n0 _ X298.size xbb (4 : Int32) (3 : Int32) (3 : Int32) xee xf [(Int8.toInt32 (Int32.toInt8 xf)), (Int8.toInt32 (Int32.toInt8 xf)), (Int8.toInt32 (Int32.toInt8 xf)), (Int8.toInt32 (Int32.toInt8 ((224 : Int32) ||| (xcp >>> ((12 : Int32) &&& 31))))), (Int8.toInt32 (Int32.toInt8 ((128 : Int32) ||| ((xcp >>> ((6 : Int32) &&& 31)) &&& (63 : Int32))))), (Int8.toInt32 (Int32.toInt8 ((128 : Int32) ||| (xcp &&& (63 : Int32))))), (Int8.toInt32 (Int32.toInt8 xf)), (Int8.toInt32 (Int32.toInt8 xf))] [((224 : Int32) + (xcp / (4096 : Int32))), ((128 : Int32) + ((xcp / (64 : Int32)) % (64 : Int32))), ((128 : Int32) + (xcp % (64 : Int32))), e3] [] H303 4 rfl (Int8.toInt32 (Int32.toInt8 ((128 : Int32) ||| ((xcp >>> ((6 : Int32) &&& 31)) &&& (63 : Int32))))) rfl 1 rfl ((128 : Int32) + ((xcp / (64 : Int32)) % (64 : Int32))) rfl (by decide) (by decide) (v_e31 xcp hlo hhi)) (hw _ (List.mem_of_getElem? (i := 9) rfl)) (hw _ (List.mem_of_getElem? (i := 10) rfl)) (hw _ (List.mem_of_getElem? (i := 11) rfl)) (hw _ (List.mem_of_getElem? (i := 12) rfl)) (by decide) 0 (by decide) (by decide) rfl [(.ref xbb), (.int (4 : Int32)), (.int (3 : Int32)), (.int (3 : Int32)), (.ref xee), (.int xf)] rfl pd_2 rfl rfl (Nat.le_of_eq rfl) 2 12 rfl rfl (by decide) (by decide) 345 rfl ?_
      rintro _ T301 _ X301 ⟨rfl, rfl⟩
      show OE p e room_1 below s n0 Q' T301 (mkF m 345 #[.val (.int xc), .val (.int xi), .val (.int xf), .val (.int xcp), .val (.int (3 : Int32)), .val (.int (Int8.toInt32 (Int32.toInt8 xf))), .val (.ref xbb), .val (.ref xee), .val (.int (3 : Int32)), .val (.int (6 : Int32))] [(.int (1 : Int32))])
      refine o_ifEq X301 at_345 402 348 (by decide) (by decide) rfl (fun q => by exfalso; exact absurd q (by decide)) ?_
      intro hc345
      refine o_aload X301 at_348 rfl rfl 350 rfl ?_
      refine o_iconst (v := (5 : Int32)) X301 at_350 rfl 351 rfl ?_
      refine o_iload X301 at_351 rfl 353 rfl ?_
      refine o_iload X301 at_353 rfl 355 rfl ?_
      refine o_aload X301 at_355 rfl rfl 357 rfl ?_
      refine o_iloadN X301 at_357 rfl 358 rfl ?_
      have H305 : OL n0 h287 ((xee, OA Z .int [((224 : Int32) + (xcp / (4096 : Int32))), ((128 : Int32) + ((xcp / (64 : Int32)) % (64 : Int32))), ((128 : Int32) + (xcp % (64 : Int32))), e3]) :: (xbb, OA Z .byte [(Int8.toInt32 (Int32.toInt8 xf)), (Int8.toInt32 (Int32.toInt8 xf)), (Int8.toInt32 (Int32.toInt8 xf)), (Int8.toInt32 (Int32.toInt8 ((224 : Int32) ||| (xcp >>> ((12 : Int32) &&& 31))))), (Int8.toInt32 (Int32.toInt8 ((128 : Int32) ||| ((xcp >>> ((6 : Int32) &&& 31)) &&& (63 : Int32))))), (Int8.toInt32 (Int32.toInt8 ((128 : Int32) ||| (xcp &&& (63 : Int32))))), (Int8.toInt32 (Int32.toInt8 xf)), (Int8.toInt32 (Int32.toInt8 xf))]) :: []) := H303.front 1 rfl
      have H306 : OL n0 h287 ((xbb, OA Z .byte [(Int8.toInt32 (Int32.toInt8 xf)), (Int8.toInt32 (Int32.toInt8 xf)), (Int8.toInt32 (Int32.toInt8 xf)), (Int8.toInt32 (Int32.toInt8 ((224 : Int32) ||| (xcp >>> ((12 : Int32) &&& 31))))), (Int8.toInt32 (Int32.toInt8 ((128 : Int32) ||| ((xcp >>> ((6 : Int32) &&& 31)) &&& (63 : Int32))))), (Int8.toInt32 (Int32.toInt8 ((128 : Int32) ||| (xcp &&& (63 : Int32))))), (Int8.toInt32 (Int32.toInt8 xf)), (Int8.toInt32 (Int32.toInt8 xf))]) :: (xee, OA Z .int [((224 : Int32) + (xcp / (4096 : Int32))), ((128 : Int32) + ((xcp / (64 : Int32)) % (64 : Int32))), ((128 : Int32) + (xcp % (64 : Int32))), e3]) :: []) := H305.front 1 rfl
      refine o_callS X301 at_358 (rest := []) (c_atI l Z a0 hw [] n0 _ X301.size xbb (5 : Int32) (3 : Int32) (3 : Int32) xee xf [(Int8.toInt32 (Int32.toInt8 xf)), (Int8.toInt32 (Int32.toInt8 xf)), (Int8.toInt32 (Int32.toInt8 xf)), (Int8.toInt32 (Int32.toInt8 ((224 : Int32) ||| (xcp >>> ((12 : Int32) &&& 31))))), (Int8.toInt32 (Int32.toInt8 ((128 : Int32) ||| ((xcp >>> ((6 : Int32) &&& 31)) &&& (63 : Int32))))), (Int8.toInt32 (Int32.toInt8 ((128 : Int32) ||| (xcp &&& (63 : Int32))))), (Int8.toInt32 (Int32.toInt8 xf)), (Int8.toInt32 (Int32.toInt8 xf))] [((224 : Int32) + (xcp / (4096 : Int32))), ((128 : Int32) + ((xcp / (64 : Int32)) % (64 : Int32))), ((128 : Int32) + (xcp % (64 : Int32))), e3] [] H306 5 rfl (Int8.toInt32 (Int32.toInt8 ((128 : Int32) ||| (xcp &&& (63 : Int32))))) rfl 2 rfl ((128 : Int32) + (xcp % (64 : Int32))) rfl (by decide) (by decide) (v_e32 xcp hlo hhi)) (hw _ (List.mem_of_getElem? (i := 9) rfl)) (hw _ (List.mem_of_getElem? (i := 10) rfl)) (hw _ (List.mem_of_getElem? (i := 11) rfl)) (hw _ (List.mem_of_getElem? (i := 12) rfl)) (by decide) 0 (by decide) (by decide) rfl [(.ref xbb), (.int (5 : Int32)), (.int (3 : Int32)), (.int (3 : Int32)), (.ref xee), (.int xf)] rfl pd_2 rfl rfl (Nat.le_of_eq rfl) 2 12 rfl rfl (by decide) (by decide) 361 rfl ?_
      rintro _ T304 _ X304 ⟨rfl, rfl⟩
      show OE p e room_1 below s n0 Q' T304 (mkF m 361 #[.val (.int xc), .val (.int xi), .val (.int xf), .val (.int xcp), .val (.int (3 : Int32)), .val (.int (Int8.toInt32 (Int32.toInt8 xf))), .val (.ref xbb), .val (.ref xee), .val (.int (3 : Int32)), .val (.int (6 : Int32))] [(.int (1 : Int32))])
      refine o_ifEq X304 at_361 402 364 (by decide) (by decide) rfl (fun q => by exfalso; exact absurd q (by decide)) ?_
      intro hc361
      refine o_aload X304 at_364 rfl rfl 366 rfl ?_
      refine o_bipush (v := (6 : Int32)) X304 at_366 rfl 368 rfl ?_
      refine o_iload X304 at_368 rfl 370 rfl ?_
      refine o_iload X304 at_370 rfl 372 rfl ?_
      refine o_aload X304 at_372 rfl rfl 374 rfl ?_
      refine o_iloadN X304 at_374 rfl 375 rfl ?_
      have H308 : OL n0 h287 ((xee, OA Z .int [((224 : Int32) + (xcp / (4096 : Int32))), ((128 : Int32) + ((xcp / (64 : Int32)) % (64 : Int32))), ((128 : Int32) + (xcp % (64 : Int32))), e3]) :: (xbb, OA Z .byte [(Int8.toInt32 (Int32.toInt8 xf)), (Int8.toInt32 (Int32.toInt8 xf)), (Int8.toInt32 (Int32.toInt8 xf)), (Int8.toInt32 (Int32.toInt8 ((224 : Int32) ||| (xcp >>> ((12 : Int32) &&& 31))))), (Int8.toInt32 (Int32.toInt8 ((128 : Int32) ||| ((xcp >>> ((6 : Int32) &&& 31)) &&& (63 : Int32))))), (Int8.toInt32 (Int32.toInt8 ((128 : Int32) ||| (xcp &&& (63 : Int32))))), (Int8.toInt32 (Int32.toInt8 xf)), (Int8.toInt32 (Int32.toInt8 xf))]) :: []) := H306.front 1 rfl
      have H309 : OL n0 h287 ((xbb, OA Z .byte [(Int8.toInt32 (Int32.toInt8 xf)), (Int8.toInt32 (Int32.toInt8 xf)), (Int8.toInt32 (Int32.toInt8 xf)), (Int8.toInt32 (Int32.toInt8 ((224 : Int32) ||| (xcp >>> ((12 : Int32) &&& 31))))), (Int8.toInt32 (Int32.toInt8 ((128 : Int32) ||| ((xcp >>> ((6 : Int32) &&& 31)) &&& (63 : Int32))))), (Int8.toInt32 (Int32.toInt8 ((128 : Int32) ||| (xcp &&& (63 : Int32))))), (Int8.toInt32 (Int32.toInt8 xf)), (Int8.toInt32 (Int32.toInt8 xf))]) :: (xee, OA Z .int [((224 : Int32) + (xcp / (4096 : Int32))), ((128 : Int32) + ((xcp / (64 : Int32)) % (64 : Int32))), ((128 : Int32) + (xcp % (64 : Int32))), e3]) :: []) := H308.front 1 rfl
      refine o_callS X304 at_375 (rest := []) (c_atO l Z a0 hw [] n0 _ X304.size xbb (6 : Int32) (3 : Int32) (3 : Int32) xee xf [(Int8.toInt32 (Int32.toInt8 xf)), (Int8.toInt32 (Int32.toInt8 xf)), (Int8.toInt32 (Int32.toInt8 xf)), (Int8.toInt32 (Int32.toInt8 ((224 : Int32) ||| (xcp >>> ((12 : Int32) &&& 31))))), (Int8.toInt32 (Int32.toInt8 ((128 : Int32) ||| ((xcp >>> ((6 : Int32) &&& 31)) &&& (63 : Int32))))), (Int8.toInt32 (Int32.toInt8 ((128 : Int32) ||| (xcp &&& (63 : Int32))))), (Int8.toInt32 (Int32.toInt8 xf)), (Int8.toInt32 (Int32.toInt8 xf))] [((224 : Int32) + (xcp / (4096 : Int32))), ((128 : Int32) + ((xcp / (64 : Int32)) % (64 : Int32))), ((128 : Int32) + (xcp % (64 : Int32))), e3] [] H309 6 rfl (Int8.toInt32 (Int32.toInt8 xf)) rfl (by decide) (v_fill _)) (hw _ (List.mem_of_getElem? (i := 9) rfl)) (hw _ (List.mem_of_getElem? (i := 10) rfl)) (hw _ (List.mem_of_getElem? (i := 11) rfl)) (hw _ (List.mem_of_getElem? (i := 12) rfl)) (by decide) 0 (by decide) (by decide) rfl [(.ref xbb), (.int (6 : Int32)), (.int (3 : Int32)), (.int (3 : Int32)), (.ref xee), (.int xf)] rfl pd_2 rfl rfl (Nat.le_of_eq rfl) 2 12 rfl rfl (by decide) (by decide) 378 rfl ?_
      rintro _ T307 _ X307 ⟨rfl, rfl⟩
      show OE p e room_1 below s n0 Q' T307 (mkF m 378 #[.val (.int xc), .val (.int xi), .val (.int xf), .val (.int xcp), .val (.int (3 : Int32)), .val (.int (Int8.toInt32 (Int32.toInt8 xf))), .val (.ref xbb), .val (.ref xee), .val (.int (3 : Int32)), .val (.int (6 : Int32))] [(.int (1 : Int32))])
      refine o_ifEq X307 at_378 402 381 (by decide) (by decide) rfl (fun q => by exfalso; exact absurd q (by decide)) ?_
      intro hc378
      refine o_aload X307 at_381 rfl rfl 383 rfl ?_
      refine o_bipush (v := (7 : Int32)) X307 at_383 rfl 385 rfl ?_
      refine o_iload X307 at_385 rfl 387 rfl ?_
      refine o_iload X307 at_387 rfl 389 rfl ?_
      refine o_aload X307 at_389 rfl rfl 391 rfl ?_
      refine o_iloadN X307 at_391 rfl 392 rfl ?_
      have H311 : OL n0 h287 ((xee, OA Z .int [((224 : Int32) + (xcp / (4096 : Int32))), ((128 : Int32) + ((xcp / (64 : Int32)) % (64 : Int32))), ((128 : Int32) + (xcp % (64 : Int32))), e3]) :: (xbb, OA Z .byte [(Int8.toInt32 (Int32.toInt8 xf)), (Int8.toInt32 (Int32.toInt8 xf)), (Int8.toInt32 (Int32.toInt8 xf)), (Int8.toInt32 (Int32.toInt8 ((224 : Int32) ||| (xcp >>> ((12 : Int32) &&& 31))))), (Int8.toInt32 (Int32.toInt8 ((128 : Int32) ||| ((xcp >>> ((6 : Int32) &&& 31)) &&& (63 : Int32))))), (Int8.toInt32 (Int32.toInt8 ((128 : Int32) ||| (xcp &&& (63 : Int32))))), (Int8.toInt32 (Int32.toInt8 xf)), (Int8.toInt32 (Int32.toInt8 xf))]) :: []) := H309.front 1 rfl
      have H312 : OL n0 h287 ((xbb, OA Z .byte [(Int8.toInt32 (Int32.toInt8 xf)), (Int8.toInt32 (Int32.toInt8 xf)), (Int8.toInt32 (Int32.toInt8 xf)), (Int8.toInt32 (Int32.toInt8 ((224 : Int32) ||| (xcp >>> ((12 : Int32) &&& 31))))), (Int8.toInt32 (Int32.toInt8 ((128 : Int32) ||| ((xcp >>> ((6 : Int32) &&& 31)) &&& (63 : Int32))))), (Int8.toInt32 (Int32.toInt8 ((128 : Int32) ||| (xcp &&& (63 : Int32))))), (Int8.toInt32 (Int32.toInt8 xf)), (Int8.toInt32 (Int32.toInt8 xf))]) :: (xee, OA Z .int [((224 : Int32) + (xcp / (4096 : Int32))), ((128 : Int32) + ((xcp / (64 : Int32)) % (64 : Int32))), ((128 : Int32) + (xcp % (64 : Int32))), e3]) :: []) := H311.front 1 rfl
      refine o_callS X307 at_392 (rest := []) (c_atO l Z a0 hw [] n0 _ X307.size xbb (7 : Int32) (3 : Int32) (3 : Int32) xee xf [(Int8.toInt32 (Int32.toInt8 xf)), (Int8.toInt32 (Int32.toInt8 xf)), (Int8.toInt32 (Int32.toInt8 xf)), (Int8.toInt32 (Int32.toInt8 ((224 : Int32) ||| (xcp >>> ((12 : Int32) &&& 31))))), (Int8.toInt32 (Int32.toInt8 ((128 : Int32) ||| ((xcp >>> ((6 : Int32) &&& 31)) &&& (63 : Int32))))), (Int8.toInt32 (Int32.toInt8 ((128 : Int32) ||| (xcp &&& (63 : Int32))))), (Int8.toInt32 (Int32.toInt8 xf)), (Int8.toInt32 (Int32.toInt8 xf))] [((224 : Int32) + (xcp / (4096 : Int32))), ((128 : Int32) + ((xcp / (64 : Int32)) % (64 : Int32))), ((128 : Int32) + (xcp % (64 : Int32))), e3] [] H312 7 rfl (Int8.toInt32 (Int32.toInt8 xf)) rfl (by decide) (v_fill _)) (hw _ (List.mem_of_getElem? (i := 9) rfl)) (hw _ (List.mem_of_getElem? (i := 10) rfl)) (hw _ (List.mem_of_getElem? (i := 11) rfl)) (hw _ (List.mem_of_getElem? (i := 12) rfl)) (by decide) 0 (by decide) (by decide) rfl [(.ref xbb), (.int (7 : Int32)), (.int (3 : Int32)), (.int (3 : Int32)), (.ref xee), (.int xf)] rfl pd_2 rfl rfl (Nat.le_of_eq rfl) 2 12 rfl rfl (by decide) (by decide) 395 rfl ?_
      rintro _ T310 _ X310 ⟨rfl, rfl⟩
      show OE p e room_1 below s n0 Q' T310 (mkF m 395 #[.val (.int xc), .val (.int xi), .val (.int xf), .val (.int xcp), .val (.int (3 : Int32)), .val (.int (Int8.toInt32 (Int32.toInt8 xf))), .val (.ref xbb), .val (.ref xee), .val (.int (3 : Int32)), .val (.int (6 : Int32))] [(.int (1 : Int32))])
      refine o_ifEq X310 at_395 402 398 (by decide) (by decide) rfl (fun q => by exfalso; exact absurd q (by decide)) ?_
      intro hc395
      refine o_iconst (v := (1 : Int32)) X310 at_398 rfl 399 rfl ?_
      refine o_goto X310 at_399 403 (by decide) (by decide) ?_
      exact o_retZ X310 at_403 (by decide) (by decide) (hQ _ _ rfl)
    · skip
      refine o_iloadN X_J248 at_248 rfl 249 rfl ?_
      refine o_aload X_J248 at_249 rfl rfl 251 rfl ?_
      refine o_iload X_J248 at_251 rfl 253 rfl ?_
      have H314 : OL n0 h ((xbb, OA Z .byte [(Int8.toInt32 (Int32.toInt8 xf)), (Int8.toInt32 (Int32.toInt8 xf)), (Int8.toInt32 (Int32.toInt8 xf)), (Int8.toInt32 (Int32.toInt8 xf)), (Int8.toInt32 (Int32.toInt8 xf)), (Int8.toInt32 (Int32.toInt8 xf)), (Int8.toInt32 (Int32.toInt8 xf)), (Int8.toInt32 (Int32.toInt8 xf))]) :: (xee, OA Z .int [((240 : Int32) + (xcp / (262144 : Int32))), ((128 : Int32) + ((xcp / (4096 : Int32)) % (64 : Int32))), ((128 : Int32) + ((xcp / (64 : Int32)) % (64 : Int32))), ((128 : Int32) + (xcp % (64 : Int32)))]) :: []) := H_J248.front 1 rfl
      refine o_callS X_J248 at_253 (rest := []) (c_enc4 l Z a0 hw [] n0 _ X_J248.size xcp xbb (0 : Int32) [(Int8.toInt32 (Int32.toInt8 xf)), (Int8.toInt32 (Int32.toInt8 xf)), (Int8.toInt32 (Int32.toInt8 xf)), (Int8.toInt32 (Int32.toInt8 xf)), (Int8.toInt32 (Int32.toInt8 xf)), (Int8.toInt32 (Int32.toInt8 xf)), (Int8.toInt32 (Int32.toInt8 xf)), (Int8.toInt32 (Int32.toInt8 xf))] ((xee, OA Z .int [((240 : Int32) + (xcp / (262144 : Int32))), ((128 : Int32) + ((xcp / (4096 : Int32)) % (64 : Int32))), ((128 : Int32) + ((xcp / (64 : Int32)) % (64 : Int32))), ((128 : Int32) + (xcp % (64 : Int32)))]) :: []) H314 0 rfl (by show 4 ≤ 8; decide) (by decide) hlo hhi) (hw _ (List.mem_of_getElem? (i := 5) rfl)) (hw _ (List.mem_of_getElem? (i := 6) rfl)) (hw _ (List.mem_of_getElem? (i := 7) rfl)) (hw _ (List.mem_of_getElem? (i := 8) rfl)) (by decide) 0 (by decide) (by decide) rfl [(.int xcp), (.ref xbb), (.int (0 : Int32))] rfl pd_1 rfl rfl (Nat.le_of_eq rfl) 2 12 rfl rfl (by decide) (by decide) 256 rfl ?_
      rintro _ T313 h313 X313 ⟨rfl, H313⟩
      replace H313 : OL n0 h313 ((xbb, OA Z .byte [(Int8.toInt32 (Int32.toInt8 ((240 : Int32) ||| (xcp >>> ((18 : Int32) &&& 31))))), (Int8.toInt32 (Int32.toInt8 ((128 : Int32) ||| ((xcp >>> ((12 : Int32) &&& 31)) &&& (63 : Int32))))), (Int8.toInt32 (Int32.toInt8 ((128 : Int32) ||| ((xcp >>> ((6 : Int32) &&& 31)) &&& (63 : Int32))))), (Int8.toInt32 (Int32.toInt8 ((128 : Int32) ||| (xcp &&& (63 : Int32))))), (Int8.toInt32 (Int32.toInt8 xf)), (Int8.toInt32 (Int32.toInt8 xf)), (Int8.toInt32 (Int32.toInt8 xf)), (Int8.toInt32 (Int32.toInt8 xf))]) :: (xee, OA Z .int [((240 : Int32) + (xcp / (262144 : Int32))), ((128 : Int32) + ((xcp / (4096 : Int32)) % (64 : Int32))), ((128 : Int32) + ((xcp / (64 : Int32)) % (64 : Int32))), ((128 : Int32) + (xcp % (64 : Int32)))]) :: []) := H313
      show OE p e room_1 below s n0 Q' T313 (mkF m 256 #[.val (.int xc), .val (.int xi), .val (.int xf), .val (.int xcp), .val (.int (0 : Int32)), .val (.int (Int8.toInt32 (Int32.toInt8 xf))), .val (.ref xbb), .val (.ref xee), .val (.int (4 : Int32)), .unset] [(.int (((((0 : Int32) + (1 : Int32)) + (1 : Int32)) + (1 : Int32)) + (1 : Int32)))])
      refine o_istore X313 at_256 #[.val (.int xc), .val (.int xi), .val (.int xf), .val (.int xcp), .val (.int (0 : Int32)), .val (.int (Int8.toInt32 (Int32.toInt8 xf))), .val (.ref xbb), .val (.ref xee), .val (.int (4 : Int32)), .val (.int (((((0 : Int32) + (1 : Int32)) + (1 : Int32)) + (1 : Int32)) + (1 : Int32)))] rfl 258 rfl ?_
      rw [show (((((0 : Int32) + (1 : Int32)) + (1 : Int32)) + (1 : Int32)) + (1 : Int32)) = (4 : Int32) from rfl]
      refine o_iload X313 at_258 rfl 260 rfl ?_
      refine o_iload X313 at_260 rfl 262 rfl ?_
      refine o_iload X313 at_262 rfl 264 rfl ?_
      refine o_iadd X313 at_264 265 rfl ?_
      refine o_icmpNe X313 at_265 402 268 (by decide) (by decide) rfl (fun q => by exfalso; exact q rfl) ?_
      intro hc265
      refine o_aload X313 at_268 rfl rfl 270 rfl ?_
      refine o_iconst (v := (0 : Int32)) X313 at_270 rfl 271 rfl ?_
      refine o_iload X313 at_271 rfl 273 rfl ?_
      refine o_iload X313 at_273 rfl 275 rfl ?_
      refine o_aload X313 at_275 rfl rfl 277 rfl ?_
      refine o_iloadN X313 at_277 rfl 278 rfl ?_
      have H316 : OL n0 h313 ((xee, OA Z .int [((240 : Int32) + (xcp / (262144 : Int32))), ((128 : Int32) + ((xcp / (4096 : Int32)) % (64 : Int32))), ((128 : Int32) + ((xcp / (64 : Int32)) % (64 : Int32))), ((128 : Int32) + (xcp % (64 : Int32)))]) :: (xbb, OA Z .byte [(Int8.toInt32 (Int32.toInt8 ((240 : Int32) ||| (xcp >>> ((18 : Int32) &&& 31))))), (Int8.toInt32 (Int32.toInt8 ((128 : Int32) ||| ((xcp >>> ((12 : Int32) &&& 31)) &&& (63 : Int32))))), (Int8.toInt32 (Int32.toInt8 ((128 : Int32) ||| ((xcp >>> ((6 : Int32) &&& 31)) &&& (63 : Int32))))), (Int8.toInt32 (Int32.toInt8 ((128 : Int32) ||| (xcp &&& (63 : Int32))))), (Int8.toInt32 (Int32.toInt8 xf)), (Int8.toInt32 (Int32.toInt8 xf)), (Int8.toInt32 (Int32.toInt8 xf)), (Int8.toInt32 (Int32.toInt8 xf))]) :: []) := H313.front 1 rfl
      have H317 : OL n0 h313 ((xbb, OA Z .byte [(Int8.toInt32 (Int32.toInt8 ((240 : Int32) ||| (xcp >>> ((18 : Int32) &&& 31))))), (Int8.toInt32 (Int32.toInt8 ((128 : Int32) ||| ((xcp >>> ((12 : Int32) &&& 31)) &&& (63 : Int32))))), (Int8.toInt32 (Int32.toInt8 ((128 : Int32) ||| ((xcp >>> ((6 : Int32) &&& 31)) &&& (63 : Int32))))), (Int8.toInt32 (Int32.toInt8 ((128 : Int32) ||| (xcp &&& (63 : Int32))))), (Int8.toInt32 (Int32.toInt8 xf)), (Int8.toInt32 (Int32.toInt8 xf)), (Int8.toInt32 (Int32.toInt8 xf)), (Int8.toInt32 (Int32.toInt8 xf))]) :: (xee, OA Z .int [((240 : Int32) + (xcp / (262144 : Int32))), ((128 : Int32) + ((xcp / (4096 : Int32)) % (64 : Int32))), ((128 : Int32) + ((xcp / (64 : Int32)) % (64 : Int32))), ((128 : Int32) + (xcp % (64 : Int32)))]) :: []) := H316.front 1 rfl
      refine o_callS X313 at_278 (rest := []) (c_atI l Z a0 hw [] n0 _ X313.size xbb (0 : Int32) (0 : Int32) (4 : Int32) xee xf [(Int8.toInt32 (Int32.toInt8 ((240 : Int32) ||| (xcp >>> ((18 : Int32) &&& 31))))), (Int8.toInt32 (Int32.toInt8 ((128 : Int32) ||| ((xcp >>> ((12 : Int32) &&& 31)) &&& (63 : Int32))))), (Int8.toInt32 (Int32.toInt8 ((128 : Int32) ||| ((xcp >>> ((6 : Int32) &&& 31)) &&& (63 : Int32))))), (Int8.toInt32 (Int32.toInt8 ((128 : Int32) ||| (xcp &&& (63 : Int32))))), (Int8.toInt32 (Int32.toInt8 xf)), (Int8.toInt32 (Int32.toInt8 xf)), (Int8.toInt32 (Int32.toInt8 xf)), (Int8.toInt32 (Int32.toInt8 xf))] [((240 : Int32) + (xcp / (262144 : Int32))), ((128 : Int32) + ((xcp / (4096 : Int32)) % (64 : Int32))), ((128 : Int32) + ((xcp / (64 : Int32)) % (64 : Int32))), ((128 : Int32) + (xcp % (64 : Int32)))] [] H317 0 rfl (Int8.toInt32 (Int32.toInt8 ((240 : Int32) ||| (xcp >>> ((18 : Int32) &&& 31))))) rfl 0 rfl ((240 : Int32) + (xcp / (262144 : Int32))) rfl (by decide) (by decide) (v_e40 xcp hlo hhi)) (hw _ (List.mem_of_getElem? (i := 9) rfl)) (hw _ (List.mem_of_getElem? (i := 10) rfl)) (hw _ (List.mem_of_getElem? (i := 11) rfl)) (hw _ (List.mem_of_getElem? (i := 12) rfl)) (by decide) 0 (by decide) (by decide) rfl [(.ref xbb), (.int (0 : Int32)), (.int (0 : Int32)), (.int (4 : Int32)), (.ref xee), (.int xf)] rfl pd_2 rfl rfl (Nat.le_of_eq rfl) 2 12 rfl rfl (by decide) (by decide) 281 rfl ?_
      rintro _ T315 _ X315 ⟨rfl, rfl⟩
      show OE p e room_1 below s n0 Q' T315 (mkF m 281 #[.val (.int xc), .val (.int xi), .val (.int xf), .val (.int xcp), .val (.int (0 : Int32)), .val (.int (Int8.toInt32 (Int32.toInt8 xf))), .val (.ref xbb), .val (.ref xee), .val (.int (4 : Int32)), .val (.int (4 : Int32))] [(.int (1 : Int32))])
      refine o_ifEq X315 at_281 402 284 (by decide) (by decide) rfl (fun q => by exfalso; exact absurd q (by decide)) ?_
      intro hc281
      refine o_aload X315 at_284 rfl rfl 286 rfl ?_
      refine o_iconst (v := (1 : Int32)) X315 at_286 rfl 287 rfl ?_
      refine o_iload X315 at_287 rfl 289 rfl ?_
      refine o_iload X315 at_289 rfl 291 rfl ?_
      refine o_aload X315 at_291 rfl rfl 293 rfl ?_
      refine o_iloadN X315 at_293 rfl 294 rfl ?_
      have H319 : OL n0 h313 ((xee, OA Z .int [((240 : Int32) + (xcp / (262144 : Int32))), ((128 : Int32) + ((xcp / (4096 : Int32)) % (64 : Int32))), ((128 : Int32) + ((xcp / (64 : Int32)) % (64 : Int32))), ((128 : Int32) + (xcp % (64 : Int32)))]) :: (xbb, OA Z .byte [(Int8.toInt32 (Int32.toInt8 ((240 : Int32) ||| (xcp >>> ((18 : Int32) &&& 31))))), (Int8.toInt32 (Int32.toInt8 ((128 : Int32) ||| ((xcp >>> ((12 : Int32) &&& 31)) &&& (63 : Int32))))), (Int8.toInt32 (Int32.toInt8 ((128 : Int32) ||| ((xcp >>> ((6 : Int32) &&& 31)) &&& (63 : Int32))))), (Int8.toInt32 (Int32.toInt8 ((128 : Int32) ||| (xcp &&& (63 : Int32))))), (Int8.toInt32 (Int32.toInt8 xf)), (Int8.toInt32 (Int32.toInt8 xf)), (Int8.toInt32 (Int32.toInt8 xf)), (Int8.toInt32 (Int32.toInt8 xf))]) :: []) := H317.front 1 rfl
      have H320 : OL n0 h313 ((xbb, OA Z .byte [(Int8.toInt32 (Int32.toInt8 ((240 : Int32) ||| (xcp >>> ((18 : Int32) &&& 31))))), (Int8.toInt32 (Int32.toInt8 ((128 : Int32) ||| ((xcp >>> ((12 : Int32) &&& 31)) &&& (63 : Int32))))), (Int8.toInt32 (Int32.toInt8 ((128 : Int32) ||| ((xcp >>> ((6 : Int32) &&& 31)) &&& (63 : Int32))))), (Int8.toInt32 (Int32.toInt8 ((128 : Int32) ||| (xcp &&& (63 : Int32))))), (Int8.toInt32 (Int32.toInt8 xf)), (Int8.toInt32 (Int32.toInt8 xf)), (Int8.toInt32 (Int32.toInt8 xf)), (Int8.toInt32 (Int32.toInt8 xf))]) :: (xee, OA Z .int [((240 : Int32) + (xcp / (262144 : Int32))), ((128 : Int32) + ((xcp / (4096 : Int32)) % (64 : Int32))), ((128 : Int32) + ((xcp / (64 : Int32)) % (64 : Int32))), ((128 : Int32) + (xcp % (64 : Int32)))]) :: []) := H319.front 1 rfl
      refine o_callS X315 at_294 (rest := []) (c_atI l Z a0 hw [] n0 _ X315.size xbb (1 : Int32) (0 : Int32) (4 : Int32) xee xf [(Int8.toInt32 (Int32.toInt8 ((240 : Int32) ||| (xcp >>> ((18 : Int32) &&& 31))))), (Int8.toInt32 (Int32.toInt8 ((128 : Int32) ||| ((xcp >>> ((12 : Int32) &&& 31)) &&& (63 : Int32))))), (Int8.toInt32 (Int32.toInt8 ((128 : Int32) ||| ((xcp >>> ((6 : Int32) &&& 31)) &&& (63 : Int32))))), (Int8.toInt32 (Int32.toInt8 ((128 : Int32) ||| (xcp &&& (63 : Int32))))), (Int8.toInt32 (Int32.toInt8 xf)), (Int8.toInt32 (Int32.toInt8 xf)), (Int8.toInt32 (Int32.toInt8 xf)), (Int8.toInt32 (Int32.toInt8 xf))] [((240 : Int32) + (xcp / (262144 : Int32))), ((128 : Int32) + ((xcp / (4096 : Int32)) % (64 : Int32))), ((128 : Int32) + ((xcp / (64 : Int32)) % (64 : Int32))), ((128 : Int32) + (xcp % (64 : Int32)))] [] H320 1 rfl (Int8.toInt32 (Int32.toInt8 ((128 : Int32) ||| ((xcp >>> ((12 : Int32) &&& 31)) &&& (63 : Int32))))) rfl 1 rfl ((128 : Int32) + ((xcp / (4096 : Int32)) % (64 : Int32))) rfl (by decide) (by decide) (v_e41 xcp hlo hhi)) (hw _ (List.mem_of_getElem? (i := 9) rfl)) (hw _ (List.mem_of_getElem? (i := 10) rfl)) (hw _ (List.mem_of_getElem? (i := 11) rfl)) (hw _ (List.mem_of_getElem? (i := 12) rfl)) (by decide) 0 (by decide) (by decide) rfl [(.ref xbb), (.int (1 : Int32)), (.int (0 : Int32)), (.int (4 : Int32)), (.ref xee), (.int xf)] rfl pd_2 rfl rfl (Nat.le_of_eq rfl) 2 12 rfl rfl (by decide) (by decide) 297 rfl ?_
      rintro _ T318 _ X318 ⟨rfl, rfl⟩
      show OE p e room_1 below s n0 Q' T318 (mkF m 297 #[.val (.int xc), .val (.int xi), .val (.int xf), .val (.int xcp), .val (.int (0 : Int32)), .val (.int (Int8.toInt32 (Int32.toInt8 xf))), .val (.ref xbb), .val (.ref xee), .val (.int (4 : Int32)), .val (.int (4 : Int32))] [(.int (1 : Int32))])
      refine o_ifEq X318 at_297 402 300 (by decide) (by decide) rfl (fun q => by exfalso; exact absurd q (by decide)) ?_
      intro hc297
      refine o_aload X318 at_300 rfl rfl 302 rfl ?_
      refine o_iconst (v := (2 : Int32)) X318 at_302 rfl 303 rfl ?_
      refine o_iload X318 at_303 rfl 305 rfl ?_
      refine o_iload X318 at_305 rfl 307 rfl ?_
      refine o_aload X318 at_307 rfl rfl 309 rfl ?_
      refine o_iloadN X318 at_309 rfl 310 rfl ?_
      have H322 : OL n0 h313 ((xee, OA Z .int [((240 : Int32) + (xcp / (262144 : Int32))), ((128 : Int32) + ((xcp / (4096 : Int32)) % (64 : Int32))), ((128 : Int32) + ((xcp / (64 : Int32)) % (64 : Int32))), ((128 : Int32) + (xcp % (64 : Int32)))]) :: (xbb, OA Z .byte [(Int8.toInt32 (Int32.toInt8 ((240 : Int32) ||| (xcp >>> ((18 : Int32) &&& 31))))), (Int8.toInt32 (Int32.toInt8 ((128 : Int32) ||| ((xcp >>> ((12 : Int32) &&& 31)) &&& (63 : Int32))))), (Int8.toInt32 (Int32.toInt8 ((128 : Int32) ||| ((xcp >>> ((6 : Int32) &&& 31)) &&& (63 : Int32))))), (Int8.toInt32 (Int32.toInt8 ((128 : Int32) ||| (xcp &&& (63 : Int32))))), (Int8.toInt32 (Int32.toInt8 xf)), (Int8.toInt32 (Int32.toInt8 xf)), (Int8.toInt32 (Int32.toInt8 xf)), (Int8.toInt32 (Int32.toInt8 xf))]) :: []) := H320.front 1 rfl
      have H323 : OL n0 h313 ((xbb, OA Z .byte [(Int8.toInt32 (Int32.toInt8 ((240 : Int32) ||| (xcp >>> ((18 : Int32) &&& 31))))), (Int8.toInt32 (Int32.toInt8 ((128 : Int32) ||| ((xcp >>> ((12 : Int32) &&& 31)) &&& (63 : Int32))))), (Int8.toInt32 (Int32.toInt8 ((128 : Int32) ||| ((xcp >>> ((6 : Int32) &&& 31)) &&& (63 : Int32))))), (Int8.toInt32 (Int32.toInt8 ((128 : Int32) ||| (xcp &&& (63 : Int32))))), (Int8.toInt32 (Int32.toInt8 xf)), (Int8.toInt32 (Int32.toInt8 xf)), (Int8.toInt32 (Int32.toInt8 xf)), (Int8.toInt32 (Int32.toInt8 xf))]) :: (xee, OA Z .int [((240 : Int32) + (xcp / (262144 : Int32))), ((128 : Int32) + ((xcp / (4096 : Int32)) % (64 : Int32))), ((128 : Int32) + ((xcp / (64 : Int32)) % (64 : Int32))), ((128 : Int32) + (xcp % (64 : Int32)))]) :: []) := H322.front 1 rfl
      refine o_callS X318 at_310 (rest := []) (c_atI l Z a0 hw [] n0 _ X318.size xbb (2 : Int32) (0 : Int32) (4 : Int32) xee xf [(Int8.toInt32 (Int32.toInt8 ((240 : Int32) ||| (xcp >>> ((18 : Int32) &&& 31))))), (Int8.toInt32 (Int32.toInt8 ((128 : Int32) ||| ((xcp >>> ((12 : Int32) &&& 31)) &&& (63 : Int32))))), (Int8.toInt32 (Int32.toInt8 ((128 : Int32) ||| ((xcp >>> ((6 : Int32) &&& 31)) &&& (63 : Int32))))), (Int8.toInt32 (Int32.toInt8 ((128 : Int32) ||| (xcp &&& (63 : Int32))))), (Int8.toInt32 (Int32.toInt8 xf)), (Int8.toInt32 (Int32.toInt8 xf)), (Int8.toInt32 (Int32.toInt8 xf)), (Int8.toInt32 (Int32.toInt8 xf))] [((240 : Int32) + (xcp / (262144 : Int32))), ((128 : Int32) + ((xcp / (4096 : Int32)) % (64 : Int32))), ((128 : Int32) + ((xcp / (64 : Int32)) % (64 : Int32))), ((128 : Int32) + (xcp % (64 : Int32)))] [] H323 2 rfl (Int8.toInt32 (Int32.toInt8 ((128 : Int32) ||| ((xcp >>> ((6 : Int32) &&& 31)) &&& (63 : Int32))))) rfl 2 rfl ((128 : Int32) + ((xcp / (64 : Int32)) % (64 : Int32))) rfl (by decide) (by decide) (v_e42 xcp hlo hhi)) (hw _ (List.mem_of_getElem? (i := 9) rfl)) (hw _ (List.mem_of_getElem? (i := 10) rfl)) (hw _ (List.mem_of_getElem? (i := 11) rfl)) (hw _ (List.mem_of_getElem? (i := 12) rfl)) (by decide) 0 (by decide) (by decide) rfl [(.ref xbb), (.int (2 : Int32)), (.int (0 : Int32)), (.int (4 : Int32)), (.ref xee), (.int xf)] rfl pd_2 rfl rfl (Nat.le_of_eq rfl) 2 12 rfl rfl (by decide) (by decide) 313 rfl ?_
      rintro _ T321 _ X321 ⟨rfl, rfl⟩
      show OE p e room_1 below s n0 Q' T321 (mkF m 313 #[.val (.int xc), .val (.int xi), .val (.int xf), .val (.int xcp), .val (.int (0 : Int32)), .val (.int (Int8.toInt32 (Int32.toInt8 xf))), .val (.ref xbb), .val (.ref xee), .val (.int (4 : Int32)), .val (.int (4 : Int32))] [(.int (1 : Int32))])
      refine o_ifEq X321 at_313 402 316 (by decide) (by decide) rfl (fun q => by exfalso; exact absurd q (by decide)) ?_
      intro hc313
      refine o_aload X321 at_316 rfl rfl 318 rfl ?_
      refine o_iconst (v := (3 : Int32)) X321 at_318 rfl 319 rfl ?_
      refine o_iload X321 at_319 rfl 321 rfl ?_
      refine o_iload X321 at_321 rfl 323 rfl ?_
      refine o_aload X321 at_323 rfl rfl 325 rfl ?_
      refine o_iloadN X321 at_325 rfl 326 rfl ?_
      have H325 : OL n0 h313 ((xee, OA Z .int [((240 : Int32) + (xcp / (262144 : Int32))), ((128 : Int32) + ((xcp / (4096 : Int32)) % (64 : Int32))), ((128 : Int32) + ((xcp / (64 : Int32)) % (64 : Int32))), ((128 : Int32) + (xcp % (64 : Int32)))]) :: (xbb, OA Z .byte [(Int8.toInt32 (Int32.toInt8 ((240 : Int32) ||| (xcp >>> ((18 : Int32) &&& 31))))), (Int8.toInt32 (Int32.toInt8 ((128 : Int32) ||| ((xcp >>> ((12 : Int32) &&& 31)) &&& (63 : Int32))))), (Int8.toInt32 (Int32.toInt8 ((128 : Int32) ||| ((xcp >>> ((6 : Int32) &&& 31)) &&& (63 : Int32))))), (Int8.toInt32 (Int32.toInt8 ((128 : Int32) ||| (xcp &&& (63 : Int32))))), (Int8.toInt32 (Int32.toInt8 xf)), (Int8.toInt32 (Int32.toInt8 xf)), (Int8.toInt32 (Int32.toInt8 xf)), (Int8.toInt32 (Int32.toInt8 xf))]) :: []) := H323.front 1 rfl
      have H326 : OL n0 h313 ((xbb, OA Z .byte [(Int8.toInt32 (Int32.toInt8 ((240 : Int32) ||| (xcp >>> ((18 : Int32) &&& 31))))), (Int8.toInt32 (Int32.toInt8 ((128 : Int32) ||| ((xcp >>> ((12 : Int32) &&& 31)) &&& (63 : Int32))))), (Int8.toInt32 (Int32.toInt8 ((128 : Int32) ||| ((xcp >>> ((6 : Int32) &&& 31)) &&& (63 : Int32))))), (Int8.toInt32 (Int32.toInt8 ((128 : Int32) ||| (xcp &&& (63 : Int32))))), (Int8.toInt32 (Int32.toInt8 xf)), (Int8.toInt32 (Int32.toInt8 xf)), (Int8.toInt32 (Int32.toInt8 xf)), (Int8.toInt32 (Int32.toInt8 xf))]) :: (xee, OA Z .int [((240 : Int32) + (xcp / (262144 : Int32))), ((128 : Int32) + ((xcp / (4096 : Int32)) % (64 : Int32))), ((128 : Int32) + ((xcp / (64 : Int32)) % (64 : Int32))), ((128 : Int32) + (xcp % (64 : Int32)))]) :: []) := H325.front 1 rfl
      refine o_callS X321 at_326 (rest := []) (c_atI l Z a0 hw [] n0 _ X321.size xbb (3 : Int32) (0 : Int32) (4 : Int32) xee xf [(Int8.toInt32 (Int32.toInt8 ((240 : Int32) ||| (xcp >>> ((18 : Int32) &&& 31))))), (Int8.toInt32 (Int32.toInt8 ((128 : Int32) ||| ((xcp >>> ((12 : Int32) &&& 31)) &&& (63 : Int32))))), (Int8.toInt32 (Int32.toInt8 ((128 : Int32) ||| ((xcp >>> ((6 : Int32) &&& 31)) &&& (63 : Int32))))), (Int8.toInt32 (Int32.toInt8 ((128 : Int32) ||| (xcp &&& (63 : Int32))))), (Int8.toInt32 (Int32.toInt8 xf)), (Int8.toInt32 (Int32.toInt8 xf)), (Int8.toInt32 (Int32.toInt8 xf)), (Int8.toInt32 (Int32.toInt8 xf))] [((240 : Int32) + (xcp / (262144 : Int32))), ((128 : Int32) + ((xcp / (4096 : Int32)) % (64 : Int32))), ((128 : Int32) + ((xcp / (64 : Int32)) % (64 : Int32))), ((128 : Int32) + (xcp % (64 : Int32)))] [] H326 3 rfl (Int8.toInt32 (Int32.toInt8 ((128 : Int32) ||| (xcp &&& (63 : Int32))))) rfl 3 rfl ((128 : Int32) + (xcp % (64 : Int32))) rfl (by decide) (by decide) (v_e43 xcp hlo hhi)) (hw _ (List.mem_of_getElem? (i := 9) rfl)) (hw _ (List.mem_of_getElem? (i := 10) rfl)) (hw _ (List.mem_of_getElem? (i := 11) rfl)) (hw _ (List.mem_of_getElem? (i := 12) rfl)) (by decide) 0 (by decide) (by decide) rfl [(.ref xbb), (.int (3 : Int32)), (.int (0 : Int32)), (.int (4 : Int32)), (.ref xee), (.int xf)] rfl pd_2 rfl rfl (Nat.le_of_eq rfl) 2 12 rfl rfl (by decide) (by decide) 329 rfl ?_
      rintro _ T324 _ X324 ⟨rfl, rfl⟩
      show OE p e room_1 below s n0 Q' T324 (mkF m 329 #[.val (.int xc), .val (.int xi), .val (.int xf), .val (.int xcp), .val (.int (0 : Int32)), .val (.int (Int8.toInt32 (Int32.toInt8 xf))), .val (.ref xbb), .val (.ref xee), .val (.int (4 : Int32)), .val (.int (4 : Int32))] [(.int (1 : Int32))])
      refine o_ifEq X324 at_329 402 332 (by decide) (by decide) rfl (fun q => by exfalso; exact absurd q (by decide)) ?_
      intro hc329
      refine o_aload X324 at_332 rfl rfl 334 rfl ?_
      refine o_iconst (v := (4 : Int32)) X324 at_334 rfl 335 rfl ?_
      refine o_iload X324 at_335 rfl 337 rfl ?_
      refine o_iload X324 at_337 rfl 339 rfl ?_
      refine o_aload X324 at_339 rfl rfl 341 rfl ?_
      refine o_iloadN X324 at_341 rfl 342 rfl ?_
      have H328 : OL n0 h313 ((xee, OA Z .int [((240 : Int32) + (xcp / (262144 : Int32))), ((128 : Int32) + ((xcp / (4096 : Int32)) % (64 : Int32))), ((128 : Int32) + ((xcp / (64 : Int32)) % (64 : Int32))), ((128 : Int32) + (xcp % (64 : Int32)))]) :: (xbb, OA Z .byte [(Int8.toInt32 (Int32.toInt8 ((240 : Int32) ||| (xcp >>> ((18 : Int32) &&& 31))))), (Int8.toInt32 (Int32.toInt8 ((128 : Int32) ||| ((xcp >>> ((12 : Int32) &&& 31)) &&& (63 : Int32))))), (Int8.toInt32 (Int32.toInt8 ((128 : Int32) ||| ((xcp >>> ((6 : Int32) &&& 31)) &&& (63 : Int32))))), (Int8.toInt32 (Int32.toInt8 ((128 : Int32) ||| (xcp &&& (63 : Int32))))), (Int8.toInt32 (Int32.toInt8 xf)), (Int8.toInt32 (Int32.toInt8 xf)), (Int8.toInt32 (Int32.toInt8 xf)), (Int8.toInt32 (Int32.toInt8 xf))]) :: []) := H326.front 1 rfl
      have H329 : OL n0 h313 ((xbb, OA Z .byte [(Int8.toInt32 (Int32.toInt8 ((240 : Int32) ||| (xcp >>> ((18 : Int32) &&& 31))))), (Int8.toInt32 (Int32.toInt8 ((128 : Int32) ||| ((xcp >>> ((12 : Int32) &&& 31)) &&& (63 : Int32))))), (Int8.toInt32 (Int32.toInt8 ((128 : Int32) ||| ((xcp >>> ((6 : Int32) &&& 31)) &&& (63 : Int32))))), (Int8.toInt32 (Int32.toInt8 ((128 : Int32) ||| (xcp &&& (63 : Int32))))), (Int8.toInt32 (Int32.toInt8 xf)), (Int8.toInt32 (Int32.toInt8 xf)), (Int8.toInt32 (Int32.toInt8 xf)), (Int8.toInt32 (Int32.toInt8 xf))]) :: (xee, OA Z .int [((240 : Int32) + (xcp / (262144 : Int32))), ((128 : Int32) + ((xcp / (4096 : Int32)) % (64 : Int32))), ((128 : Int32) + ((xcp / (64 : Int32)) % (64 : Int32))), ((128 : Int32) + (xcp % (64 : Int32)))]) :: []) := H328.front 1 rfl
      refine o_callS X324 at_342 (rest := []) (c_atO l Z a0 hw [] n0 _ X324.size xbb (4 : Int32) (0 : Int32) (4 : Int32) xee xf [(Int8.toInt32 (Int32.toInt8 ((240 : Int32) ||| (xcp >>> ((18 : Int32) &&& 31))))), (Int8.toInt32 (Int32.toInt8 ((128 : Int32) ||| ((xcp >>> ((12 : Int32) &&& 31)) &&& (63 : Int32))))), (Int8.toInt32 (Int32.toInt8 ((128 : Int32) ||| ((xcp >>> ((6 : Int32) &&& 31)) &&& (63 : Int32))))), (Int8.toInt32 (Int32.toInt8 ((128 : Int32) ||| (xcp &&& (63 : Int32))))), (Int8.toInt32 (Int32.toInt8 xf)), (Int8.toInt32 (Int32.toInt8 xf)), (Int8.toInt32 (Int32.toInt8 xf)), (Int8.toInt32 (Int32.toInt8 xf))] [((240 : Int32) + (xcp / (262144 : Int32))), ((128 : Int32) + ((xcp / (4096 : Int32)) % (64 : Int32))), ((128 : Int32) + ((xcp / (64 : Int32)) % (64 : Int32))), ((128 : Int32) + (xcp % (64 : Int32)))] [] H329 4 rfl (Int8.toInt32 (Int32.toInt8 xf)) rfl (by decide) (v_fill _)) (hw _ (List.mem_of_getElem? (i := 9) rfl)) (hw _ (List.mem_of_getElem? (i := 10) rfl)) (hw _ (List.mem_of_getElem? (i := 11) rfl)) (hw _ (List.mem_of_getElem? (i := 12) rfl)) (by decide) 0 (by decide) (by decide) rfl [(.ref xbb), (.int (4 : Int32)), (.int (0 : Int32)), (.int (4 : Int32)), (.ref xee), (.int xf)] rfl pd_2 rfl rfl (Nat.le_of_eq rfl) 2 12 rfl rfl (by decide) (by decide) 345 rfl ?_
      rintro _ T327 _ X327 ⟨rfl, rfl⟩
      show OE p e room_1 below s n0 Q' T327 (mkF m 345 #[.val (.int xc), .val (.int xi), .val (.int xf), .val (.int xcp), .val (.int (0 : Int32)), .val (.int (Int8.toInt32 (Int32.toInt8 xf))), .val (.ref xbb), .val (.ref xee), .val (.int (4 : Int32)), .val (.int (4 : Int32))] [(.int (1 : Int32))])
      refine o_ifEq X327 at_345 402 348 (by decide) (by decide) rfl (fun q => by exfalso; exact absurd q (by decide)) ?_
      intro hc345
      refine o_aload X327 at_348 rfl rfl 350 rfl ?_
      refine o_iconst (v := (5 : Int32)) X327 at_350 rfl 351 rfl ?_
      refine o_iload X327 at_351 rfl 353 rfl ?_
      refine o_iload X327 at_353 rfl 355 rfl ?_
      refine o_aload X327 at_355 rfl rfl 357 rfl ?_
      refine o_iloadN X327 at_357 rfl 358 rfl ?_
      have H331 : OL n0 h313 ((xee, OA Z .int [((240 : Int32) + (xcp / (262144 : Int32))), ((128 : Int32) + ((xcp / (4096 : Int32)) % (64 : Int32))), ((128 : Int32) + ((xcp / (64 : Int32)) % (64 : Int32))), ((128 : Int32) + (xcp % (64 : Int32)))]) :: (xbb, OA Z .byte [(Int8.toInt32 (Int32.toInt8 ((240 : Int32) ||| (xcp >>> ((18 : Int32) &&& 31))))), (Int8.toInt32 (Int32.toInt8 ((128 : Int32) ||| ((xcp >>> ((12 : Int32) &&& 31)) &&& (63 : Int32))))), (Int8.toInt32 (Int32.toInt8 ((128 : Int32) ||| ((xcp >>> ((6 : Int32) &&& 31)) &&& (63 : Int32))))), (Int8.toInt32 (Int32.toInt8 ((128 : Int32) ||| (xcp &&& (63 : Int32))))), (Int8.toInt32 (Int32.toInt8 xf)), (Int8.toInt32 (Int32.toInt8 xf)), (Int8.toInt32 (Int32.toInt8 xf)), (Int8.toInt32 (Int32.toInt8 xf))]) :: []) := H329.front 1 rfl
      have H332 : OL n0 h313 ((xbb, OA Z .byte [(Int8.toInt32 (Int32.toInt8 ((240 : Int32) ||| (xcp >>> ((18 : Int32) &&& 31))))), (Int8.toInt32 (Int32.toInt8 ((128 : Int32) ||| ((xcp >>> ((12 : Int32) &&& 31)) &&& (63 : Int32))))), (Int8.toInt32 (Int32.toInt8 ((128 : Int32) ||| ((xcp >>> ((6 : Int32) &&& 31)) &&& (63 : Int32))))), (Int8.toInt32 (Int32.toInt8 ((128 : Int32) ||| (xcp &&& (63 : Int32))))), (Int8.toInt32 (Int32.toInt8 xf)), (Int8.toInt32 (Int32.toInt8 xf)), (Int8.toInt32 (Int32.toInt8 xf)), (Int8.toInt32 (Int32.toInt8 xf))]) :: (xee, OA Z .int [((240 : Int32) + (xcp / (262144 : Int32))), ((128 : Int32) + ((xcp / (4096 : Int32)) % (64 : Int32))), ((128 : Int32) + ((xcp / (64 : Int32)) % (64 : Int32))), ((128 : Int32) + (xcp % (64 : Int32)))]) :: []) := H331.front 1 rfl
      refine o_callS X327 at_358 (rest := []) (c_atO l Z a0 hw [] n0 _ X327.size xbb (5 : Int32) (0 : Int32) (4 : Int32) xee xf [(Int8.toInt32 (Int32.toInt8 ((240 : Int32) ||| (xcp >>> ((18 : Int32) &&& 31))))), (Int8.toInt32 (Int32.toInt8 ((128 : Int32) ||| ((xcp >>> ((12 : Int32) &&& 31)) &&& (63 : Int32))))), (Int8.toInt32 (Int32.toInt8 ((128 : Int32) ||| ((xcp >>> ((6 : Int32) &&& 31)) &&& (63 : Int32))))), (Int8.toInt32 (Int32.toInt8 ((128 : Int32) ||| (xcp &&& (63 : Int32))))), (Int8.toInt32 (Int32.toInt8 xf)), (Int8.toInt32 (Int32.toInt8 xf)), (Int8.toInt32 (Int32.toInt8 xf)), (Int8.toInt32 (Int32.toInt8 xf))] [((240 : Int32) + (xcp / (262144 : Int32))), ((128 : Int32) + ((xcp / (4096 : Int32)) % (64 : Int32))), ((128 : Int32) + ((xcp / (64 : Int32)) % (64 : Int32))), ((128 : Int32) + (xcp % (64 : Int32)))] [] H332 5 rfl (Int8.toInt32 (Int32.toInt8 xf)) rfl (by decide) (v_fill _)) (hw _ (List.mem_of_getElem? (i := 9) rfl)) (hw _ (List.mem_of_getElem? (i := 10) rfl)) (hw _ (List.mem_of_getElem? (i := 11) rfl)) (hw _ (List.mem_of_getElem? (i := 12) rfl)) (by decide) 0 (by decide) (by decide) rfl [(.ref xbb), (.int (5 : Int32)), (.int (0 : Int32)), (.int (4 : Int32)), (.ref xee), (.int xf)] rfl pd_2 rfl rfl (Nat.le_of_eq rfl) 2 12 rfl rfl (by decide) (by decide) 361 rfl ?_
      rintro _ T330 _ X330 ⟨rfl, rfl⟩
      show OE p e room_1 below s n0 Q' T330 (mkF m 361 #[.val (.int xc), .val (.int xi), .val (.int xf), .val (.int xcp), .val (.int (0 : Int32)), .val (.int (Int8.toInt32 (Int32.toInt8 xf))), .val (.ref xbb), .val (.ref xee), .val (.int (4 : Int32)), .val (.int (4 : Int32))] [(.int (1 : Int32))])
      refine o_ifEq X330 at_361 402 364 (by decide) (by decide) rfl (fun q => by exfalso; exact absurd q (by decide)) ?_
      intro hc361
      refine o_aload X330 at_364 rfl rfl 366 rfl ?_
      refine o_bipush (v := (6 : Int32)) X330 at_366 rfl 368 rfl ?_
      refine o_iload X330 at_368 rfl 370 rfl ?_
      refine o_iload X330 at_370 rfl 372 rfl ?_
      refine o_aload X330 at_372 rfl rfl 374 rfl ?_
      refine o_iloadN X330 at_374 rfl 375 rfl ?_
      have H334 : OL n0 h313 ((xee, OA Z .int [((240 : Int32) + (xcp / (262144 : Int32))), ((128 : Int32) + ((xcp / (4096 : Int32)) % (64 : Int32))), ((128 : Int32) + ((xcp / (64 : Int32)) % (64 : Int32))), ((128 : Int32) + (xcp % (64 : Int32)))]) :: (xbb, OA Z .byte [(Int8.toInt32 (Int32.toInt8 ((240 : Int32) ||| (xcp >>> ((18 : Int32) &&& 31))))), (Int8.toInt32 (Int32.toInt8 ((128 : Int32) ||| ((xcp >>> ((12 : Int32) &&& 31)) &&& (63 : Int32))))), (Int8.toInt32 (Int32.toInt8 ((128 : Int32) ||| ((xcp >>> ((6 : Int32) &&& 31)) &&& (63 : Int32))))), (Int8.toInt32 (Int32.toInt8 ((128 : Int32) ||| (xcp &&& (63 : Int32))))), (Int8.toInt32 (Int32.toInt8 xf)), (Int8.toInt32 (Int32.toInt8 xf)), (Int8.toInt32 (Int32.toInt8 xf)), (Int8.toInt32 (Int32.toInt8 xf))]) :: []) := H332.front 1 rfl
      have H335 : OL n0 h313 ((xbb, OA Z .byte [(Int8.toInt32 (Int32.toInt8 ((240 : Int32) ||| (xcp >>> ((18 : Int32) &&& 31))))), (Int8.toInt32 (Int32.toInt8 ((128 : Int32) ||| ((xcp >>> ((12 : Int32) &&& 31)) &&& (63 : Int32))))), (Int8.toInt32 (Int32.toInt8 ((128 : Int32) ||| ((xcp >>> ((6 : Int32) &&& 31)) &&& (63 : Int32))))), (Int8.toInt32 (Int32.toInt8 ((128 : Int32) ||| (xcp &&& (63 : Int32))))), (Int8.toInt32 (Int32.toInt8 xf)), (Int8.toInt32 (Int32.toInt8 xf)), (Int8.toInt32 (Int32.toInt8 xf)), (Int8.toInt32 (Int32.toInt8 xf))]) :: (xee, OA Z .int [((240 : Int32) + (xcp / (262144 : Int32))), ((128 : Int32) + ((xcp / (4096 : Int32)) % (64 : Int32))), ((128 : Int32) + ((xcp / (64 : Int32)) % (64 : Int32))), ((128 : Int32) + (xcp % (64 : Int32)))]) :: []) := H334.front 1 rfl
      refine o_callS X330 at_375 (rest := []) (c_atO l Z a0 hw [] n0 _ X330.size xbb (6 : Int32) (0 : Int32) (4 : Int32) xee xf [(Int8.toInt32 (Int32.toInt8 ((240 : Int32) ||| (xcp >>> ((18 : Int32) &&& 31))))), (Int8.toInt32 (Int32.toInt8 ((128 : Int32) ||| ((xcp >>> ((12 : Int32) &&& 31)) &&& (63 : Int32))))), (Int8.toInt32 (Int32.toInt8 ((128 : Int32) ||| ((xcp >>> ((6 : Int32) &&& 31)) &&& (63 : Int32))))), (Int8.toInt32 (Int32.toInt8 ((128 : Int32) ||| (xcp &&& (63 : Int32))))), (Int8.toInt32 (Int32.toInt8 xf)), (Int8.toInt32 (Int32.toInt8 xf)), (Int8.toInt32 (Int32.toInt8 xf)), (Int8.toInt32 (Int32.toInt8 xf))] [((240 : Int32) + (xcp / (262144 : Int32))), ((128 : Int32) + ((xcp / (4096 : Int32)) % (64 : Int32))), ((128 : Int32) + ((xcp / (64 : Int32)) % (64 : Int32))), ((128 : Int32) + (xcp % (64 : Int32)))] [] H335 6 rfl (Int8.toInt32 (Int32.toInt8 xf)) rfl (by decide) (v_fill _)) (hw _ (List.mem_of_getElem? (i := 9) rfl)) (hw _ (List.mem_of_getElem? (i := 10) rfl)) (hw _ (List.mem_of_getElem? (i := 11) rfl)) (hw _ (List.mem_of_getElem? (i := 12) rfl)) (by decide) 0 (by decide) (by decide) rfl [(.ref xbb), (.int (6 : Int32)), (.int (0 : Int32)), (.int (4 : Int32)), (.ref xee), (.int xf)] rfl pd_2 rfl rfl (Nat.le_of_eq rfl) 2 12 rfl rfl (by decide) (by decide) 378 rfl ?_
      rintro _ T333 _ X333 ⟨rfl, rfl⟩
      show OE p e room_1 below s n0 Q' T333 (mkF m 378 #[.val (.int xc), .val (.int xi), .val (.int xf), .val (.int xcp), .val (.int (0 : Int32)), .val (.int (Int8.toInt32 (Int32.toInt8 xf))), .val (.ref xbb), .val (.ref xee), .val (.int (4 : Int32)), .val (.int (4 : Int32))] [(.int (1 : Int32))])
      refine o_ifEq X333 at_378 402 381 (by decide) (by decide) rfl (fun q => by exfalso; exact absurd q (by decide)) ?_
      intro hc378
      refine o_aload X333 at_381 rfl rfl 383 rfl ?_
      refine o_bipush (v := (7 : Int32)) X333 at_383 rfl 385 rfl ?_
      refine o_iload X333 at_385 rfl 387 rfl ?_
      refine o_iload X333 at_387 rfl 389 rfl ?_
      refine o_aload X333 at_389 rfl rfl 391 rfl ?_
      refine o_iloadN X333 at_391 rfl 392 rfl ?_
      have H337 : OL n0 h313 ((xee, OA Z .int [((240 : Int32) + (xcp / (262144 : Int32))), ((128 : Int32) + ((xcp / (4096 : Int32)) % (64 : Int32))), ((128 : Int32) + ((xcp / (64 : Int32)) % (64 : Int32))), ((128 : Int32) + (xcp % (64 : Int32)))]) :: (xbb, OA Z .byte [(Int8.toInt32 (Int32.toInt8 ((240 : Int32) ||| (xcp >>> ((18 : Int32) &&& 31))))), (Int8.toInt32 (Int32.toInt8 ((128 : Int32) ||| ((xcp >>> ((12 : Int32) &&& 31)) &&& (63 : Int32))))), (Int8.toInt32 (Int32.toInt8 ((128 : Int32) ||| ((xcp >>> ((6 : Int32) &&& 31)) &&& (63 : Int32))))), (Int8.toInt32 (Int32.toInt8 ((128 : Int32) ||| (xcp &&& (63 : Int32))))), (Int8.toInt32 (Int32.toInt8 xf)), (Int8.toInt32 (Int32.toInt8 xf)), (Int8.toInt32 (Int32.toInt8 xf)), (Int8.toInt32 (Int32.toInt8 xf))]) :: []) := H335.front 1 rfl
      have H338 : OL n0 h313 ((xbb, OA Z .byte [(Int8.toInt32 (Int32.toInt8 ((240 : Int32) ||| (xcp >>> ((18 : Int32) &&& 31))))), (Int8.toInt32 (Int32.toInt8 ((128 : Int32) ||| ((xcp >>> ((12 : Int32) &&& 31)) &&& (63 : Int32))))), (Int8.toInt32 (Int32.toInt8 ((128 : Int32) ||| ((xcp >>> ((6 : Int32) &&& 31)) &&& (63 : Int32))))), (Int8.toInt32 (Int32.toInt8 ((128 : Int32) ||| (xcp &&& (63 : Int32))))), (Int8.toInt32 (Int32.toInt8 xf)), (Int8.toInt32 (Int32.toInt8 xf)), (Int8.toInt32 (Int32.toInt8 xf)), (Int8.toInt32 (Int32.toInt8 xf))]) :: (xee, OA Z .int [((240 : Int32) + (xcp / (262144 : Int32))), ((128 : Int32) + ((xcp / (4096 : Int32)) % (64 : Int32))), ((128 : Int32) + ((xcp / (64 : Int32)) % (64 : Int32))), ((128 : Int32) + (xcp % (64 : Int32)))]) :: []) := H337.front 1 rfl
      refine o_callS X333 at_392 (rest := []) (c_atO l Z a0 hw [] n0 _ X333.size xbb (7 : Int32) (0 : Int32) (4 : Int32) xee xf [(Int8.toInt32 (Int32.toInt8 ((240 : Int32) ||| (xcp >>> ((18 : Int32) &&& 31))))), (Int8.toInt32 (Int32.toInt8 ((128 : Int32) ||| ((xcp >>> ((12 : Int32) &&& 31)) &&& (63 : Int32))))), (Int8.toInt32 (Int32.toInt8 ((128 : Int32) ||| ((xcp >>> ((6 : Int32) &&& 31)) &&& (63 : Int32))))), (Int8.toInt32 (Int32.toInt8 ((128 : Int32) ||| (xcp &&& (63 : Int32))))), (Int8.toInt32 (Int32.toInt8 xf)), (Int8.toInt32 (Int32.toInt8 xf)), (Int8.toInt32 (Int32.toInt8 xf)), (Int8.toInt32 (Int32.toInt8 xf))] [((240 : Int32) + (xcp / (262144 : Int32))), ((128 : Int32) + ((xcp / (4096 : Int32)) % (64 : Int32))), ((128 : Int32) + ((xcp / (64 : Int32)) % (64 : Int32))), ((128 : Int32) + (xcp % (64 : Int32)))] [] H338 7 rfl (Int8.toInt32 (Int32.toInt8 xf)) rfl (by decide) (v_fill _)) (hw _ (List.mem_of_getElem? (i := 9) rfl)) (hw _ (List.mem_of_getElem? (i := 10) rfl)) (hw _ (List.mem_of_getElem? (i := 11) rfl)) (hw _ (List.mem_of_getElem? (i := 12) rfl)) (by decide) 0 (by decide) (by decide) rfl [(.ref xbb), (.int (7 : Int32)), (.int (0 : Int32)), (.int (4 : Int32)), (.ref xee), (.int xf)] rfl pd_2 rfl rfl (Nat.le_of_eq rfl) 2 12 rfl rfl (by decide) (by decide) 395 rfl ?_
      rintro _ T336 _ X336 ⟨rfl, rfl⟩
      show OE p e room_1 below s n0 Q' T336 (mkF m 395 #[.val (.int xc), .val (.int xi), .val (.int xf), .val (.int xcp), .val (.int (0 : Int32)), .val (.int (Int8.toInt32 (Int32.toInt8 xf))), .val (.ref xbb), .val (.ref xee), .val (.int (4 : Int32)), .val (.int (4 : Int32))] [(.int (1 : Int32))])
      refine o_ifEq X336 at_395 402 398 (by decide) (by decide) rfl (fun q => by exfalso; exact absurd q (by decide)) ?_
      intro hc395
      refine o_iconst (v := (1 : Int32)) X336 at_398 rfl 399 rfl ?_
      refine o_goto X336 at_399 403 (by decide) (by decide) ?_
      exact o_retZ X336 at_403 (by decide) (by decide) (hQ _ _ rfl)
    · skip
      refine o_iloadN X_J248 at_248 rfl 249 rfl ?_
      refine o_aload X_J248 at_249 rfl rfl 251 rfl ?_
      refine o_iload X_J248 at_251 rfl 253 rfl ?_
      have H340 : OL n0 h ((xbb, OA Z .byte [(Int8.toInt32 (Int32.toInt8 xf)), (Int8.toInt32 (Int32.toInt8 xf)), (Int8.toInt32 (Int32.toInt8 xf)), (Int8.toInt32 (Int32.toInt8 xf)), (Int8.toInt32 (Int32.toInt8 xf)), (Int8.toInt32 (Int32.toInt8 xf)), (Int8.toInt32 (Int32.toInt8 xf)), (Int8.toInt32 (Int32.toInt8 xf))]) :: (xee, OA Z .int [((240 : Int32) + (xcp / (262144 : Int32))), ((128 : Int32) + ((xcp / (4096 : Int32)) % (64 : Int32))), ((128 : Int32) + ((xcp / (64 : Int32)) % (64 : Int32))), ((128 : Int32) + (xcp % (64 : Int32)))]) :: []) := H_J248.front 1 rfl
      refine o_callS X_J248 at_253 (rest := []) (c_enc4 l Z a0 hw [] n0 _ X_J248.size xcp xbb (1 : Int32) [(Int8.toInt32 (Int32.toInt8 xf)), (Int8.toInt32 (Int32.toInt8 xf)), (Int8.toInt32 (Int32.toInt8 xf)), (Int8.toInt32 (Int32.toInt8 xf)), (Int8.toInt32 (Int32.toInt8 xf)), (Int8.toInt32 (Int32.toInt8 xf)), (Int8.toInt32 (Int32.toInt8 xf)), (Int8.toInt32 (Int32.toInt8 xf))] ((xee, OA Z .int [((240 : Int32) + (xcp / (262144 : Int32))), ((128 : Int32) + ((xcp / (4096 : Int32)) % (64 : Int32))), ((128 : Int32) + ((xcp / (64 : Int32)) % (64 : Int32))), ((128 : Int32) + (xcp % (64 : Int32)))]) :: []) H340 1 rfl (by show 5 ≤ 8; decide) (by decide) hlo hhi) (hw _ (List.mem_of_getElem? (i := 5) rfl)) (hw _ (List.mem_of_getElem? (i := 6) rfl)) (hw _ (List.mem_of_getElem? (i := 7) rfl)) (hw _ (List.mem_of_getElem? (i := 8) rfl)) (by decide) 0 (by decide) (by decide) rfl [(.int xcp), (.ref xbb), (.int (1 : Int32))] rfl pd_1 rfl rfl (Nat.le_of_eq rfl) 2 12 rfl rfl (by decide) (by decide) 256 rfl ?_
      rintro _ T339 h339 X339 ⟨rfl, H339⟩
      replace H339 : OL n0 h339 ((xbb, OA Z .byte [(Int8.toInt32 (Int32.toInt8 xf)), (Int8.toInt32 (Int32.toInt8 ((240 : Int32) ||| (xcp >>> ((18 : Int32) &&& 31))))), (Int8.toInt32 (Int32.toInt8 ((128 : Int32) ||| ((xcp >>> ((12 : Int32) &&& 31)) &&& (63 : Int32))))), (Int8.toInt32 (Int32.toInt8 ((128 : Int32) ||| ((xcp >>> ((6 : Int32) &&& 31)) &&& (63 : Int32))))), (Int8.toInt32 (Int32.toInt8 ((128 : Int32) ||| (xcp &&& (63 : Int32))))), (Int8.toInt32 (Int32.toInt8 xf)), (Int8.toInt32 (Int32.toInt8 xf)), (Int8.toInt32 (Int32.toInt8 xf))]) :: (xee, OA Z .int [((240 : Int32) + (xcp / (262144 : Int32))), ((128 : Int32) + ((xcp / (4096 : Int32)) % (64 : Int32))), ((128 : Int32) + ((xcp / (64 : Int32)) % (64 : Int32))), ((128 : Int32) + (xcp % (64 : Int32)))]) :: []) := H339
      show OE p e room_1 below s n0 Q' T339 (mkF m 256 #[.val (.int xc), .val (.int xi), .val (.int xf), .val (.int xcp), .val (.int (1 : Int32)), .val (.int (Int8.toInt32 (Int32.toInt8 xf))), .val (.ref xbb), .val (.ref xee), .val (.int (4 : Int32)), .unset] [(.int (((((1 : Int32) + (1 : Int32)) + (1 : Int32)) + (1 : Int32)) + (1 : Int32)))])
      refine o_istore X339 at_256 #[.val (.int xc), .val (.int xi), .val (.int xf), .val (.int xcp), .val (.int (1 : Int32)), .val (.int (Int8.toInt32 (Int32.toInt8 xf))), .val (.ref xbb), .val (.ref xee), .val (.int (4 : Int32)), .val (.int (((((1 : Int32) + (1 : Int32)) + (1 : Int32)) + (1 : Int32)) + (1 : Int32)))] rfl 258 rfl ?_
      rw [show (((((1 : Int32) + (1 : Int32)) + (1 : Int32)) + (1 : Int32)) + (1 : Int32)) = (5 : Int32) from rfl]
      refine o_iload X339 at_258 rfl 260 rfl ?_
      refine o_iload X339 at_260 rfl 262 rfl ?_
      refine o_iload X339 at_262 rfl 264 rfl ?_
      refine o_iadd X339 at_264 265 rfl ?_
      refine o_icmpNe X339 at_265 402 268 (by decide) (by decide) rfl (fun q => by exfalso; exact q rfl) ?_
      intro hc265
      refine o_aload X339 at_268 rfl rfl 270 rfl ?_
      refine o_iconst (v := (0 : Int32)) X339 at_270 rfl 271 rfl ?_
      refine o_iload X339 at_271 rfl 273 rfl ?_
      refine o_iload X339 at_273 rfl 275 rfl ?_
      refine o_aload X339 at_275 rfl rfl 277 rfl ?_
      refine o_iloadN X339 at_277 rfl 278 rfl ?_
      have H342 : OL n0 h339 ((xee, OA Z .int [((240 : Int32) + (xcp / (262144 : Int32))), ((128 : Int32) + ((xcp / (4096 : Int32)) % (64 : Int32))), ((128 : Int32) + ((xcp / (64 : Int32)) % (64 : Int32))), ((128 : Int32) + (xcp % (64 : Int32)))]) :: (xbb, OA Z .byte [(Int8.toInt32 (Int32.toInt8 xf)), (Int8.toInt32 (Int32.toInt8 ((240 : Int32) ||| (xcp >>> ((18 : Int32) &&& 31))))), (Int8.toInt32 (Int32.toInt8 ((128 : Int32) ||| ((xcp >>> ((12 : Int32) &&& 31)) &&& (63 : Int32))))), (Int8.toInt32 (Int32.toInt8 ((128 : Int32) ||| ((xcp >>> ((6 : Int32) &&& 31)) &&& (63 : Int32))))), (Int8.toInt32 (Int32.toInt8 ((128 : Int32) ||| (xcp &&& (63 : Int32))))), (Int8.toInt32 (Int32.toInt8 xf)), (Int8.toInt32 (Int32.toInt8 xf)), (Int8.toInt32 (Int32.toInt8 xf))]) :: []) := H339.front 1 rfl
      have H343 : OL n0 h339 ((xbb, OA Z .byte [(Int8.toInt32 (Int32.toInt8 xf)), (Int8.toInt32 (Int32.toInt8 ((240 : Int32) ||| (xcp >>> ((18 : Int32) &&& 31))))), (Int8.toInt32 (Int32.toInt8 ((128 : Int32) ||| ((xcp >>> ((12 : Int32) &&& 31)) &&& (63 : Int32))))), (Int8.toInt32 (Int32.toInt8 ((128 : Int32) ||| ((xcp >>> ((6 : Int32) &&& 31)) &&& (63 : Int32))))), (Int8.toInt32 (Int32.toInt8 ((128 : Int32) ||| (xcp &&& (63 : Int32))))), (Int8.toInt32 (Int32.toInt8 xf)), (Int8.toInt32 (Int32.toInt8 xf)), (Int8.toInt32 (Int32.toInt8 xf))]) :: (xee, OA Z .int [((240 : Int32) + (xcp / (262144 : Int32))), ((128 : Int32) + ((xcp / (4096 : Int32)) % (64 : Int32))), ((128 : Int32) + ((xcp / (64 : Int32)) % (64 : Int32))), ((128 : Int32) + (xcp % (64 : Int32)))]) :: []) := H342.front 1 rfl
      refine o_callS X339 at_278 (rest := []) (c_atO l Z a0 hw [] n0 _ X339.size xbb (0 : Int32) (1 : Int32) (4 : Int32) xee xf [(Int8.toInt32 (Int32.toInt8 xf)), (Int8.toInt32 (Int32.toInt8 ((240 : Int32) ||| (xcp >>> ((18 : Int32) &&& 31))))), (Int8.toInt32 (Int32.toInt8 ((128 : Int32) ||| ((xcp >>> ((12 : Int32) &&& 31)) &&& (63 : Int32))))), (Int8.toInt32 (Int32.toInt8 ((128 : Int32) ||| ((xcp >>> ((6 : Int32) &&& 31)) &&& (63 : Int32))))), (Int8.toInt32 (Int32.toInt8 ((128 : Int32) ||| (xcp &&& (63 : Int32))))), (Int8.toInt32 (Int32.toInt8 xf)), (Int8.toInt32 (Int32.toInt8 xf)), (Int8.toInt32 (Int32.toInt8 xf))] [((240 : Int32) + (xcp / (262144 : Int32))), ((128 : Int32) + ((xcp / (4096 : Int32)) % (64 : Int32))), ((128 : Int32) + ((xcp / (64 : Int32)) % (64 : Int32))), ((128 : Int32) + (xcp % (64 : Int32)))] [] H343 0 rfl (Int8.toInt32 (Int32.toInt8 xf)) rfl (by decide) (v_fill _)) (hw _ (List.mem_of_getElem? (i := 9) rfl)) (hw _ (List.mem_of_getElem? (i := 10) rfl)) (hw _ (List.mem_of_getElem? (i := 11) rfl)) (hw _ (List.mem_of_getElem? (i := 12) rfl)) (by decide) 0 (by decide) (by decide) rfl [(.ref xbb), (.int (0 : Int32)), (.int (1 : Int32)), (.int (4 : Int32)), (.ref xee), (.int xf)] rfl pd_2 rfl rfl (Nat.le_of_eq rfl) 2 12 rfl rfl (by decide) (by decide) 281 rfl ?_
      rintro _ T341 _ X341 ⟨rfl, rfl⟩
      show OE p e room_1 below s n0 Q' T341 (mkF m 281 #[.val (.int xc), .val (.int xi), .val (.int xf), .val (.int xcp), .val (.int (1 : Int32)), .val (.int (Int8.toInt32 (Int32.toInt8 xf))), .val (.ref xbb), .val (.ref xee), .val (.int (4 : Int32)), .val (.int (5 : Int32))] [(.int (1 : Int32))])
      refine o_ifEq X341 at_281 402 284 (by decide) (by decide) rfl (fun q => by exfalso; exact absurd q (by decide)) ?_
      intro hc281
      refine o_aload X341 at_284 rfl rfl 286 rfl ?_
      refine o_iconst (v := (1 : Int32)) X341 at_286 rfl 287 rfl ?_
      refine o_iload X341 at_287 rfl 289 rfl ?_
      refine o_iload X341 at_289 rfl 291 rfl ?_
      refine o_aload X341 at_291 rfl rfl 293 rfl ?_
      refine o_iloadN X341 at_293 rfl 294 rfl ?_
      have H345 : OL n0 h339 ((xee, OA Z .int [((240 : Int32) + (xcp / (262144 : Int32))), ((128 : Int32) + ((xcp / (4096 : Int32)) % (64 : Int32))), ((128 : Int32) + ((xcp / (64 : Int32)) % (64 : Int32))), ((128 : Int32) + (xcp % (64 : Int32)))]) :: (xbb, OA Z .byte [(Int8.toInt32 (Int32.toInt8 xf)), (Int8.toInt32 (Int32.toInt8 ((240 : Int32) ||| (xcp >>> ((18 : Int32) &&& 31))))), (Int8.toInt32 (Int32.toInt8 ((128 : Int32) ||| ((xcp >>> ((12 : Int32) &&& 31)) &&& (63 : Int32))))), (Int8.toInt32 (Int32.toInt8 ((128 : Int32) ||| ((xcp >>> ((6 : Int32) &&& 31)) &&& (63 : Int32))))), (Int8.toInt32 (Int32.toInt8 ((128 : Int32) ||| (xcp &&& (63 : Int32))))), (Int8.toInt32 (Int32.toInt8 xf)), (Int8.toInt32 (Int32.toInt8 xf)), (Int8.toInt32 (Int32.toInt8 xf))]) :: []) := H343.front 1 rfl
      have H346 : OL n0 h339 ((xbb, OA Z .byte [(Int8.toInt32 (Int32.toInt8 xf)), (Int8.toInt32 (Int32.toInt8 ((240 : Int32) ||| (xcp >>> ((18 : Int32) &&& 31))))), (Int8.toInt32 (Int32.toInt8 ((128 : Int32) ||| ((xcp >>> ((12 : Int32) &&& 31)) &&& (63 : Int32))))), (Int8.toInt32 (Int32.toInt8 ((128 : Int32) ||| ((xcp >>> ((6 : Int32) &&& 31)) &&& (63 : Int32))))), (Int8.toInt32 (Int32.toInt8 ((128 : Int32) ||| (xcp &&& (63 : Int32))))), (Int8.toInt32 (Int32.toInt8 xf)), (Int8.toInt32 (Int32.toInt8 xf)), (Int8.toInt32 (Int32.toInt8 xf))]) :: (xee, OA Z .int [((240 : Int32) + (xcp / (262144 : Int32))), ((128 : Int32) + ((xcp / (4096 : Int32)) % (64 : Int32))), ((128 : Int32) + ((xcp / (64 : Int32)) % (64 : Int32))), ((128 : Int32) + (xcp % (64 : Int32)))]) :: []) := H345.front 1 rfl
      refine o_callS X341 at_294 (rest := []) (c_atI l Z a0 hw [] n0 _ X341.size xbb (1 : Int32) (1 : Int32) (4 : Int32) xee xf [(Int8.toInt32 (Int32.toInt8 xf)), (Int8.toInt32 (Int32.toInt8 ((240 : Int32) ||| (xcp >>> ((18 : Int32) &&& 31))))), (Int8.toInt32 (Int32.toInt8 ((128 : Int32) ||| ((xcp >>> ((12 : Int32) &&& 31)) &&& (63 : Int32))))), (Int8.toInt32 (Int32.toInt8 ((128 : Int32) ||| ((xcp >>> ((6 : Int32) &&& 31)) &&& (63 : Int32))))), (Int8.toInt32 (Int32.toInt8 ((128 : Int32) ||| (xcp &&& (63 : Int32))))), (Int8.toInt32 (Int32.toInt8 xf)), (Int8.toInt32 (Int32.toInt8 xf)), (Int8.toInt32 (Int32.toInt8 xf))] [((240 : Int32) + (xcp / (262144 : Int32))), ((128 : Int32) + ((xcp / (4096 : Int32)) % (64 : Int32))), ((128 : Int32) + ((xcp / (64 : Int32)) % (64 : Int32))), ((128 : Int32) + (xcp % (64 : Int32)))] [] H346 1 rfl (Int8.toInt32 (Int32.toInt8 ((240 : Int32) ||| (xcp >>> ((18 : Int32) &&& 31))))) rfl 0 rfl ((240 : Int32) + (xcp / (262144 : Int32))) rfl (by decide) (by decide) (v_e40 xcp hlo hhi)) (hw _ (List.mem_of_getElem? (i := 9) rfl)) (hw _ (List.mem_of_getElem? (i := 10) rfl)) (hw _ (List.mem_of_getElem? (i := 11) rfl)) (hw _ (List.mem_of_getElem? (i := 12) rfl)) (by decide) 0 (by decide) (by decide) rfl [(.ref xbb), (.int (1 : Int32)), (.int (1 : Int32)), (.int (4 : Int32)), (.ref xee), (.int xf)] rfl pd_2 rfl rfl (Nat.le_of_eq rfl) 2 12 rfl rfl (by decide) (by decide) 297 rfl ?_
      rintro _ T344 _ X344 ⟨rfl, rfl⟩
      show OE p e room_1 below s n0 Q' T344 (mkF m 297 #[.val (.int xc), .val (.int xi), .val (.int xf), .val (.int xcp), .val (.int (1 : Int32)), .val (.int (Int8.toInt32 (Int32.toInt8 xf))), .val (.ref xbb), .val (.ref xee), .val (.int (4 : Int32)), .val (.int (5 : Int32))] [(.int (1 : Int32))])
      refine o_ifEq X344 at_297 402 300 (by decide) (by decide) rfl (fun q => by exfalso; exact absurd q (by decide)) ?_
      intro hc297
      refine o_aload X344 at_300 rfl rfl 302 rfl ?_
      refine o_iconst (v := (2 : Int32)) X344 at_302 rfl 303 rfl ?_
      refine o_iload X344 at_303 rfl 305 rfl ?_
      refine o_iload X344 at_305 rfl 307 rfl ?_
      refine o_aload X344 at_307 rfl rfl 309 rfl ?_
      refine o_iloadN X344 at_309 rfl 310 rfl ?_
      have H348 : OL n0 h339 ((xee, OA Z .int [((240 : Int32) + (xcp / (262144 : Int32))), ((128 : Int32) + ((xcp / (4096 : Int32)) % (64 : Int32))), ((128 : Int32) + ((xcp / (64 : Int32)) % (64 : Int32))), ((128 : Int32) + (xcp % (64 : Int32)))]) :: (xbb, OA Z .byte [(Int8.toInt32 (Int32.toInt8 xf)), (Int8.toInt32 (Int32.toInt8 ((240 : Int32) ||| (xcp >>> ((18 : Int32) &&& 31))))), (Int8.toInt32 (Int32.toInt8 ((128 : Int32) ||| ((xcp >>> ((12 : Int32) &&& 31)) &&& (63 : Int32))))), (Int8.toInt32 (Int32.toInt8 ((128 : Int32) ||| ((xcp >>> ((6 : Int32) &&& 31)) &&& (63 : Int32))))), (Int8.toInt32 (Int32.toInt8 ((128 : Int32) ||| (xcp &&& (63 : Int32))))), (Int8.toInt32 (Int32.toInt8 xf)), (Int8.toInt32 (Int32.toInt8 xf)), (Int8.toInt32 (Int32.toInt8 xf))]) :: []) := H346.front 1 rfl
      have H349 : OL n0 h339 ((xbb, OA Z .byte [(Int8.toInt32 (Int32.toInt8 xf)), (Int8.toInt32 (Int32.toInt8 ((240 : Int32) ||| (xcp >>> ((18 : Int32) &&& 31))))), (Int8.toInt32 (Int32.toInt8 ((128 : Int32) ||| ((xcp >>> ((12 : Int32) &&& 31)) &&& (63 : Int32))))), (Int8.toInt32 (Int32.toInt8 ((128 : Int32) ||| ((xcp >>> ((6 : Int32) &&& 31)) &&& (63 : Int32))))), (Int8.toInt32 (Int32.toInt8 ((128 : Int32) ||| (xcp &&& (63 : Int32))))), (Int8.toInt32 (Int32.toInt8 xf)), (Int8.toInt32 (Int32.toInt8 xf)), (Int8.toInt32 (Int32.toInt8 xf))]) :: (xee, OA Z .int [((240 : Int32) + (xcp / (262144 : Int32))), ((128 : Int32) + ((xcp / (4096 : Int32)) % (64 : Int32))), ((128 : Int32) + ((xcp / (64 : Int32)) % (64 : Int32))), ((128 : Int32) + (xcp % (64 : Int32)))]) :: []) := H348.front 1 rfl
      refine o_callS X344 at_310 (rest := []) (c_atI l Z a0 hw [] n0 _ X344.size xbb (2 : Int32) (1 : Int32) (4 : Int32) xee xf [(Int8.toInt32 (Int32.toInt8 xf)), (Int8.toInt32 (Int32.toInt8 ((240 : Int32) ||| (xcp >>> ((18 : Int32) &&& 31))))), (Int8.toInt32 (Int32.toInt8 ((128 : Int32) ||| ((xcp >>> ((12 : Int32) &&& 31)) &&& (63 : Int32))))), (Int8.toInt32 (Int32.toInt8 ((128 : Int32) ||| ((xcp >>> ((6 : Int32) &&& 31)) &&& (63 : Int32))))), (Int8.toInt32 (Int32.toInt8 ((128 : Int32) ||| (xcp &&& (63 : Int32))))), (Int8.toInt32 (Int32.toInt8 xf)), (Int8.toInt32 (Int32.toInt8 xf)), (Int8.toInt32 (Int32.toInt8 xf))] [((240 : Int32) + (xcp / (262144 : Int32))), ((128 : Int32) + ((xcp / (4096 : Int32)) % (64 : Int32))), ((128 : Int32) + ((xcp / (64 : Int32)) % (64 : Int32))), ((128 : Int32) + (xcp % (64 : Int32)))] [] H349 2 rfl (Int8.toInt32 (Int32.toInt8 ((128 : Int32) ||| ((xcp >>> ((12 : Int32) &&& 31)) &&& (63 : Int32))))) rfl 1 rfl ((128 : Int32) + ((xcp / (4096 : Int32)) % (64 : Int32))) rfl (by decide) (by decide) (v_e41 xcp hlo hhi)) (hw _ (List.mem_of_getElem? (i := 9) rfl)) (hw _ (List.mem_of_getElem? (i := 10) rfl)) (hw _ (List.mem_of_getElem? (i := 11) rfl)) (hw _ (List.mem_of_getElem? (i := 12) rfl)) (by decide) 0 (by decide) (by decide) rfl [(.ref xbb), (.int (2 : Int32)), (.int (1 : Int32)), (.int (4 : Int32)), (.ref xee), (.int xf)] rfl pd_2 rfl rfl (Nat.le_of_eq rfl) 2 12 rfl rfl (by decide) (by decide) 313 rfl ?_
      rintro _ T347 _ X347 ⟨rfl, rfl⟩
      show OE p e room_1 below s n0 Q' T347 (mkF m 313 #[.val (.int xc), .val (.int xi), .val (.int xf), .val (.int xcp), .val (.int (1 : Int32)), .val (.int (Int8.toInt32 (Int32.toInt8 xf))), .val (.ref xbb), .val (.ref xee), .val (.int (4 : Int32)), .val (.int (5 : Int32))] [(.int (1 : Int32))])
      refine o_ifEq X347 at_313 402 316 (by decide) (by decide) rfl (fun q => by exfalso; exact absurd q (by decide)) ?_
      intro hc313
      refine o_aload X347 at_316 rfl rfl 318 rfl ?_
      refine o_iconst (v := (3 : Int32)) X347 at_318 rfl 319 rfl ?_
      refine o_iload X347 at_319 rfl 321 rfl ?_
      refine o_iload X347 at_321 rfl 323 rfl ?_
      refine o_aload X347 at_323 rfl rfl 325 rfl ?_
      refine o_iloadN X347 at_325 rfl 326 rfl ?_
      have H351 : OL n0 h339 ((xee, OA Z .int [((240 : Int32) + (xcp / (262144 : Int32))), ((128 : Int32) + ((xcp / (4096 : Int32)) % (64 : Int32))), ((128 : Int32) + ((xcp / (64 : Int32)) % (64 : Int32))), ((128 : Int32) + (xcp % (64 : Int32)))]) :: (xbb, OA Z .byte [(Int8.toInt32 (Int32.toInt8 xf)), (Int8.toInt32 (Int32.toInt8 ((240 : Int32) ||| (xcp >>> ((18 : Int32) &&& 31))))), (Int8.toInt32 (Int32.toInt8 ((128 : Int32) ||| ((xcp >>> ((12 : Int32) &&& 31)) &&& (63 : Int32))))), (Int8.toInt32 (Int32.toInt8 ((128 : Int32) ||| ((xcp >>> ((6 : Int32) &&& 31)) &&& (63 : Int32))))), (Int8.toInt32 (Int32.toInt8 ((128 : Int32) ||| (xcp &&& (63 : Int32))))), (Int8.toInt32 (Int32.toInt8 xf)), (Int8.toInt32 (Int32.toInt8 xf)), (Int8.toInt32 (Int32.toInt8 xf))]) :: []) := H349.front 1 rfl
      have H352 : OL n0 h339 ((xbb, OA Z .byte [(Int8.toInt32 (Int32.toInt8 xf)), (Int8.toInt32 (Int32.toInt8 ((240 : Int32) ||| (xcp >>> ((18 : Int32) &&& 31))))), (Int8.toInt32 (Int32.toInt8 ((128 : Int32) ||| ((xcp >>> ((12 : Int32) &&& 31)) &&& (63 : Int32))))), (Int8.toInt32 (Int32.toInt8 ((128 : Int32) ||| ((xcp >>> ((6 : Int32) &&& 31)) &&& (63 : Int32))))), (Int8.toInt32 (Int32.toInt8 ((128 : Int32) ||| (xcp &&& (63 : Int32))))), (Int8.toInt32 (Int32.toInt8 xf)), (Int8.toInt32 (Int32.toInt8 xf)), (Int8.toInt32 (Int32.toInt8 xf))]) :: (xee, OA Z .int [((240 : Int32) + (xcp / (262144 : Int32))), ((128 : Int32) + ((xcp / (4096 : Int32)) % (64 : Int32))), ((128 : Int32) + ((xcp / (64 : Int32)) % (64 : Int32))), ((128 : Int32) + (xcp % (64 : Int32)))]) :: []) := H351.front 1 rfl
      refine o_callS X347 at_326 (rest := []) (c_atI l Z a0 hw [] n0 _ X347.size xbb (3 : Int32) (1 : Int32) (4 : Int32) xee xf [(Int8.toInt32 (Int32.toInt8 xf)), (Int8.toInt32 (Int32.toInt8 ((240 : Int32) ||| (xcp >>> ((18 : Int32) &&& 31))))), (Int8.toInt32 (Int32.toInt8 ((128 : Int32) ||| ((xcp >>> ((12 : Int32) &&& 31)) &&& (63 : Int32))))), (Int8.toInt32 (Int32.toInt8 ((128 : Int32) ||| ((xcp >>> ((6 : Int32) &&& 31)) &&& (63 : Int32))))), (Int8.toInt32 (Int32.toInt8 ((128 : Int32) ||| (xcp &&& (63 : Int32))))), (Int8.toInt32 (Int32.toInt8 xf)), (Int8.toInt32 (Int32.toInt8 xf)), (Int8.toInt32 (Int32.toInt8 xf))] [((240 : Int32) + (xcp / (262144 : Int32))), ((128 : Int32) + ((xcp / (4096 : Int32)) % (64 : Int32))), ((128 : Int32) + ((xcp / (64 : Int32)) % (64 : Int32))), ((128 : Int32) + (xcp % (64 : Int32)))] [] H352 3 rfl (Int8.toInt32 (Int32.toInt8 ((128 : Int32) ||| ((xcp >>> ((6 : Int32) &&& 31)) &&& (63 : Int32))))) rfl 2 rfl ((128 : Int32) + ((xcp / (64 : Int32)) % (64 : Int32))) rfl (by decide) (by decide) (v_e42 xcp hlo hhi)) (hw _ (List.mem_of_getElem? (i := 9) rfl)) (hw _ (List.mem_of_getElem? (i := 10) rfl)) (hw _ (List.mem_of_getElem? (i := 11) rfl)) (hw _ (List.mem_of_getElem? (i := 12) rfl)) (by decide) 0 (by decide) (by decide) rfl [(.ref xbb), (.int (3 : Int32)), (.int (1 : Int32)), (.int (4 : Int32)), (.ref xee), (.int xf)] rfl pd_2 rfl rfl (Nat.le_of_eq rfl) 2 12 rfl rfl (by decide) (by decide) 329 rfl ?_
      rintro _ T350 _ X350 ⟨rfl, rfl⟩
      show OE p e room_1 below s n0 Q' T350 (mkF m 329 #[.val (.int xc), .val (.int xi), .val (.int xf), .val (.int xcp), .val (.int (1 : Int32)), .val (.int (Int8.toInt32 (Int32.toInt8 xf))), .val (.ref xbb), .val (.ref xee), .val (.int (4 : Int32)), .val (.int (5 : Int32))] [(.int (1 : Int32))])
      refine o_ifEq X350 at_329 402 332 (by decide) (by decide) rfl (fun q => by exfalso; exact absurd q (by decide)) ?_
      intro hc329
      refine o_aload X350 at_332 rfl rfl 334 rfl ?_
      refine o_iconst (v := (4 : Int32)) X350 at_334 rfl 335 rfl ?_
      refine o_iload X350 at_335 rfl 337 rfl ?_
      refine o_iload X350 at_337 rfl 339 rfl ?_
      refine o_aload X350 at_339 rfl rfl 341 rfl ?_
      refine o_iloadN X350 at_341 rfl 342 rfl ?_
      have H354 : OL n0 h339 ((xee, OA Z .int [((240 : Int32) + (xcp / (262144 : Int32))), ((128 : Int32) + ((xcp / (4096 : Int32)) % (64 : Int32))), ((128 : Int32) + ((xcp / (64 : Int32)) % (64 : Int32))), ((128 : Int32) + (xcp % (64 : Int32)))]) :: (xbb, OA Z .byte [(Int8.toInt32 (Int32.toInt8 xf)), (Int8.toInt32 (Int32.toInt8 ((240 : Int32) ||| (xcp >>> ((18 : Int32) &&& 31))))), (Int8.toInt32 (Int32.toInt8 ((128 : Int32) ||| ((xcp >>> ((12 : Int32) &&& 31)) &&& (63 : Int32))))), (Int8.toInt32 (Int32.toInt8 ((128 : Int32) ||| ((xcp >>> ((6 : Int32) &&& 31)) &&& (63 : Int32))))), (Int8.toInt32 (Int32.toInt8 ((128 : Int32) ||| (xcp &&& (63 : Int32))))), (Int8.toInt32 (Int32.toInt8 xf)), (Int8.toInt32 (Int32.toInt8 xf)), (Int8.toInt32 (Int32.toInt8 xf))]) :: []) := H352.front 1 rfl
      have H355 : OL n0 h339 ((xbb, OA Z .byte [(Int8.toInt32 (Int32.toInt8 xf)), (Int8.toInt32 (Int32.toInt8 ((240 : Int32) ||| (xcp >>> ((18 : Int32) &&& 31))))), (Int8.toInt32 (Int32.toInt8 ((128 : Int32) ||| ((xcp >>> ((12 : Int32) &&& 31)) &&& (63 : Int32))))), (Int8.toInt32 (Int32.toInt8 ((128 : Int32) ||| ((xcp >>> ((6 : Int32) &&& 31)) &&& (63 : Int32))))), (Int8.toInt32 (Int32.toInt8 ((128 : Int32) ||| (xcp &&& (63 : Int32))))), (Int8.toInt32 (Int32.toInt8 xf)), (Int8.toInt32 (Int32.toInt8 xf)), (Int8.toInt32 (Int32.toInt8 xf))]) :: (xee, OA Z .int [((240 : Int32) + (xcp / (262144 : Int32))), ((128 : Int32) + ((xcp / (4096 : Int32)) % (64 : Int32))), ((128 : Int32) + ((xcp / (64 : Int32)) % (64 : Int32))), ((128 : Int32) + (xcp % (64 : Int32)))]) :: []) := H354.front 1 rfl
      refine o_callS X350 at_342 (rest := []) (c_atI l Z a0 hw [] n0 _ X350.size xbb (4 : Int32) (1 : Int32) (4 : Int32) xee xf [(Int8.toInt32 (Int32.toInt8 xf)), (Int8.toInt32 (Int32.toInt8 ((240 : Int32) ||| (xcp >>> ((18 : Int32) &&& 31))))), (Int8.toInt32 (Int32.toInt8 ((128 : Int32) ||| ((xcp >>> ((12 : Int32) &&& 31)) &&& (63 : Int32))))), (Int8.toInt32 (Int32.toInt8 ((128 : Int32) ||| ((xcp >>> ((6 : Int32) &&& 31)) &&& (63 : Int32))))), (Int8.toInt32 (Int32.toInt8 ((128 : Int32) ||| (xcp &&& (63 : Int32))))), (Int8.toInt32 (Int32.toInt8 xf)), (Int8.toInt32 (Int32.toInt8 xf)), (Int8.toInt32 (Int32.toInt8 xf))] [((240 : Int32) + (xcp / (262144 : Int32))), ((128 : Int32) + ((xcp / (4096 : Int32)) % (64 : Int32))), ((128 : Int32) + ((xcp / (64 : Int32)) % (64 : Int32))), ((128 : Int32) + (xcp % (64 : Int32)))] [] H355 4 rfl (Int8.toInt32 (Int32.toInt8 ((128 : Int32) ||| (xcp &&& (63 : Int32))))) rfl 3 rfl ((128 : Int32) + (xcp % (64 : Int32))) rfl (by decide) (by decide) (v_e43 xcp hlo hhi)) (hw _ (List.mem_of_getElem? (i := 9) rfl)) (hw _ (List.mem_of_getElem? (i := 10) rfl)) (hw _ (List.mem_of_getElem? (i := 11) rfl)) (hw _ (List.mem_of_getElem? (i := 12) rfl)) (by decide) 0 (by decide) (by decide) rfl [(.ref xbb), (.int (4 : Int32)), (.int (1 : Int32)), (.int (4 : Int32)), (.ref xee), (.int xf)] rfl pd_2 rfl rfl (Nat.le_of_eq rfl) 2 12 rfl rfl (by decide) (by decide) 345 rfl ?_
      rintro _ T353 _ X353 ⟨rfl, rfl⟩
      show OE p e room_1 below s n0 Q' T353 (mkF m 345 #[.val (.int xc), .val (.int xi), .val (.int xf), .val (.int xcp), .val (.int (1 : Int32)), .val (.int (Int8.toInt32 (Int32.toInt8 xf))), .val (.ref xbb), .val (.ref xee), .val (.int (4 : Int32)), .val (.int (5 : Int32))] [(.int (1 : Int32))])
      refine o_ifEq X353 at_345 402 348 (by decide) (by decide) rfl (fun q => by exfalso; exact absurd q (by decide)) ?_
      intro hc345
      refine o_aload X353 at_348 rfl rfl 350 rfl ?_
      refine o_iconst (v := (5 : Int32)) X353 at_350 rfl 351 rfl ?_
      refine o_iload X353 at_351 rfl 353 rfl ?_
      refine o_iload X353 at_353 rfl 355 rfl ?_
      refine o_aload X353 at_355 rfl rfl 357 rfl ?_
      refine o_iloadN X353 at_357 rfl 358 rfl ?_
      have H357 : OL n0 h339 ((xee, OA Z .int [((240 : Int32) + (xcp / (262144 : Int32))), ((128 : Int32) + ((xcp / (4096 : Int32)) % (64 : Int32))), ((128 : Int32) + ((xcp / (64 : Int32)) % (64 : Int32))), ((128 : Int32) + (xcp % (64 : Int32)))]) :: (xbb, OA Z .byte [(Int8.toInt32 (Int32.toInt8 xf)), (Int8.toInt32 (Int32.toInt8 ((240 : Int32) ||| (xcp >>> ((18 : Int32) &&& 31))))), (Int8.toInt32 (Int32.toInt8 ((128 : Int32) ||| ((xcp >>> ((12 : Int32) &&& 31)) &&& (63 : Int32))))), (Int8.toInt32 (Int32.toInt8 ((128 : Int32) ||| ((xcp >>> ((6 : Int32) &&& 31)) &&& (63 : Int32))))), (Int8.toInt32 (Int32.toInt8 ((128 : Int32) ||| (xcp &&& (63 : Int32))))), (Int8.toInt32 (Int32.toInt8 xf)), (Int8.toInt32 (Int32.toInt8 xf)), (Int8.toInt32 (Int32.toInt8 xf))]) :: []) := H355.front 1 rfl
      have H358 : OL n0 h339 ((xbb, OA Z .byte [(Int8.toInt32 (Int32.toInt8 xf)), (Int8.toInt32 (Int32.toInt8 ((240 : Int32) ||| (xcp >>> ((18 : Int32) &&& 31))))), (Int8.toInt32 (Int32.toInt8 ((128 : Int32) ||| ((xcp >>> ((12 : Int32) &&& 31)) &&& (63 : Int32))))), (Int8.toInt32 (Int32.toInt8 ((128 : Int32) ||| ((xcp >>> ((6 : Int32) &&& 31)) &&& (63 : Int32))))), (Int8.toInt32 (Int32.toInt8 ((128 : Int32) ||| (xcp &&& (63 : Int32))))), (Int8.toInt32 (Int32.toInt8 xf)), (Int8.toInt32 (Int32.toInt8 xf)), (Int8.toInt32 (Int32.toInt8 xf))]) :: (xee, OA Z .int [((240 : Int32) + (xcp / (262144 : Int32))), ((128 : Int32) + ((xcp / (4096 : Int32)) % (64 : Int32))), ((128 : Int32) + ((xcp / (64 : Int32)) % (64 : Int32))), ((128 : Int32) + (xcp % (64 : Int32)))]) :: []) := H357.front 1 rfl
      refine o_callS X353 at_358 (rest := []) (c_atO l Z a0 hw [] n0 _ X353.size xbb (5 : Int32) (1 : Int32) (4 : Int32) xee xf [(Int8.toInt32 (Int32.toInt8 xf)), (Int8.toInt32 (Int32.toInt8 ((240 : Int32) ||| (xcp >>> ((18 : Int32) &&& 31))))), (Int8.toInt32 (Int32.toInt8 ((128 : Int32) ||| ((xcp >>> ((12 : Int32) &&& 31)) &&& (63 : Int32))))), (Int8.toInt32 (Int32.toInt8 ((128 : Int32) ||| ((xcp >>> ((6 : Int32) &&& 31)) &&& (63 : Int32))))), (Int8.toInt32 (Int32.toInt8 ((128 : Int32) ||| (xcp &&& (63 : Int32))))), (Int8.toInt32 (Int32.toInt8 xf)), (Int8.toInt32 (Int32.toInt8 xf)), (Int8.toInt32 (Int32.toInt8 xf))] [((240 : Int32) + (xcp / (262144 : Int32))), ((128 : Int32) + ((xcp / (4096 : Int32)) % (64 : Int32))), ((128 : Int32) + ((xcp / (64 : Int32)) % (64 : Int32))), ((128 : Int32) + (xcp % (64 : Int32)))] [] H358 5 rfl (Int8.toInt32 (Int32.toInt8 xf)) rfl (by decide) (v_fill _)) (hw _ (List.mem_of_getElem? (i := 9) rfl)) (hw _ (List.mem_of_getElem? (i := 10) rfl)) (hw _ (List.mem_of_getElem? (i := 11) rfl)) (hw _ (List.mem_of_getElem? (i := 12) rfl)) (by decide) 0 (by decide) (by decide) rfl [(.ref xbb), (.int (5 : Int32)), (.int (1 : Int32)), (.int (4 : Int32)), (.ref xee), (.int xf)] rfl pd_2 rfl rfl (Nat.le_of_eq rfl) 2 12 rfl rfl (by decide) (by decide) 361 rfl ?_
      rintro _ T356 _ X356 ⟨rfl, rfl⟩
      show OE p e room_1 below s n0 Q' T356 (mkF m 361 #[.val (.int xc), .val (.int xi), .val (.int xf), .val (.int xcp), .val (.int (1 : Int32)), .val (.int (Int8.toInt32 (Int32.toInt8 xf))), .val (.ref xbb), .val (.ref xee), .val (.int (4 : Int32)), .val (.int (5 : Int32))] [(.int (1 : Int32))])
      refine o_ifEq X356 at_361 402 364 (by decide) (by decide) rfl (fun q => by exfalso; exact absurd q (by decide)) ?_
      intro hc361
      refine o_aload X356 at_364 rfl rfl 366 rfl ?_
      refine o_bipush (v := (6 : Int32)) X356 at_366 rfl 368 rfl ?_
      refine o_iload X356 at_368 rfl 370 rfl ?_
      refine o_iload X356 at_370 rfl 372 rfl ?_
      refine o_aload X356 at_372 rfl rfl 374 rfl ?_
      refine o_iloadN X356 at_374 rfl 375 rfl ?_
      have H360 : OL n0 h339 ((xee, OA Z .int [((240 : Int32) + (xcp / (262144 : Int32))), ((128 : Int32) + ((xcp / (4096 : Int32)) % (64 : Int32))), ((128 : Int32) + ((xcp / (64 : Int32)) % (64 : Int32))), ((128 : Int32) + (xcp % (64 : Int32)))]) :: (xbb, OA Z .byte [(Int8.toInt32 (Int32.toInt8 xf)), (Int8.toInt32 (Int32.toInt8 ((240 : Int32) ||| (xcp >>> ((18 : Int32) &&& 31))))), (Int8.toInt32 (Int32.toInt8 ((128 : Int32) ||| ((xcp >>> ((12 : Int32) &&& 31)) &&& (63 : Int32))))), (Int8.toInt32 (Int32.toInt8 ((128 : Int32) ||| ((xcp >>> ((6 : Int32) &&& 31)) &&& (63 : Int32))))), (Int8.toInt32 (Int32.toInt8 ((128 : Int32) ||| (xcp &&& (63 : Int32))))), (Int8.toInt32 (Int32.toInt8 xf)), (Int8.toInt32 (Int32.toInt8 xf)), (Int8.toInt32 (Int32.toInt8 xf))]) :: []) := H358.front 1 rfl
      have H361 : OL n0 h339 ((xbb, OA Z .byte [(Int8.toInt32 (Int32.toInt8 xf)), (Int8.toInt32 (Int32.toInt8 ((240 : Int32) ||| (xcp >>> ((18 : Int32) &&& 31))))), (Int8.toInt32 (Int32.toInt8 ((128 : Int32) ||| ((xcp >>> ((12 : Int32) &&& 31)) &&& (63 : Int32))))), (Int8.toInt32 (Int32.toInt8 ((128 : Int32) ||| ((xcp >>> ((6 : Int32) &&& 31)) &&& (63 : Int32))))), (Int8.toInt32 (Int32.toInt8 ((128 : Int32) ||| (xcp &&& (63 : Int32))))), (Int8.toInt32 (Int32.toInt8 xf)), (Int8.toInt32 (Int32.toInt8 xf)), (Int8.toInt32 (Int32.toInt8 xf))]) :: (xee, OA Z .int [((240 : Int32) + (xcp / (262144 : Int32))), ((128 : Int32) + ((xcp / (4096 : Int32)) % (64 : Int32))), ((128 : Int32) + ((xcp / (64 : Int32)) % (64 : Int32))), ((128 : Int32) + (xcp % (64 : Int32)))]) :: []) := H360.front 1 rfl
      refine o_callS X356 at_375 (rest := []) (c_atO l Z a0 hw [] n0 _ X356.size xbb (6 : Int32) (1 : Int32) (4 : Int32) xee xf [(Int8.toInt32 (Int32.toInt8 xf)), (Int8.toInt32 (Int32.toInt8 ((240 : Int32) ||| (xcp >>> ((18 : Int32) &&& 31))))), (Int8.toInt32 (Int32.toInt8 ((128 : Int32) ||| ((xcp >>> ((12 : Int32) &&& 31)) &&& (63 : Int32))))), (Int8.toInt32 (Int32.toInt8 ((128 : Int32) ||| ((xcp >>> ((6 : Int32) &&& 31)) &&& (63 : Int32))))), (Int8.toInt32 (Int32.toInt8 ((128 : Int32) ||| (xcp &&& (63 : Int32))))), (Int8.toInt32 (Int32.toInt8 xf)), (Int8.toInt32 (Int32.toInt8 xf)), (Int8.toInt32 (Int32.toInt8 xf))] [((240 : Int32) + (xcp / (262144 : Int32))), ((128 : Int32) + ((xcp / (4096 : Int32)) % (64 : Int32))), ((128 : Int32) + ((xcp / (64 : Int32)) % (64 : Int32))), ((128 : Int32) + (xcp % (64 : Int32)))] [] H361 6 rfl (Int8.toInt32 (Int32.toInt8 xf)) rfl (by decide) (v_fill _)) (hw _ (List.mem_of_getElem? (i := 9) rfl)) (hw _ (List.mem_of_getElem? (i := 10) rfl)) (hw _ (List.mem_of_getElem? (i := 11) rfl)) (hw _ (List.mem_of_getElem? (i := 12) rfl)) (by decide) 0 (by decide) (by decide) rfl [(.ref xbb), (.int (6 : Int32)), (.int (1 : Int32)), (.int (4 : Int32)), (.ref xee), (.int xf)] rfl pd_2 rfl rfl (Nat.le_of_eq rfl) 2 12 rfl rfl (by decide) (by decide) 378 rfl ?_
      rintro _ T359 _ X359 ⟨rfl, rfl⟩
      show OE p e room_1 below s n0 Q' T359 (mkF m 378 #[.val (.int xc), .val (.int xi), .val (.int xf), .val (.int xcp), .val (.int (1 : Int32)), .val (.int (Int8.toInt32 (Int32.toInt8 xf))), .val (.ref xbb), .val (.ref xee), .val (.int (4 : Int32)), .val (.int (5 : Int32))] [(.int (1 : Int32))])
      refine o_ifEq X359 at_378 402 381 (by decide) (by decide) rfl (fun q => by exfalso; exact absurd q (by decide)) ?_
      intro hc378
      refine o_aload X359 at_381 rfl rfl 383 rfl ?_
      refine o_bipush (v := (7 : Int32)) X359 at_383 rfl 385 rfl ?_
      refine o_iload X359 at_385 rfl 387 rfl ?_
      refine o_iload X359 at_387 rfl 389 rfl ?_
      refine o_aload X359 at_389 rfl rfl 391 rfl ?_
      refine o_iloadN X359 at_391 rfl 392 rfl ?_
      have H363 : OL n0 h339 ((xee, OA Z .int [((240 : Int32) + (xcp / (262144 : Int32))), ((128 : Int32) + ((xcp / (4096 : Int32)) % (64 : Int32))), ((128 : Int32) + ((xcp / (64 : Int32)) % (64 : Int32))), ((128 : Int32) + (xcp % (64 : Int32)))]) :: (xbb, OA Z .byte [(Int8.toInt32 (Int32.toInt8 xf)), (Int8.toInt32 (Int32.toInt8 ((240 : Int32) ||| (xcp >>> ((18 : Int32) &&& 31))))), (Int8.toInt32 (Int32.toInt8 ((128 : Int32) ||| ((xcp >>> ((12 : Int32) &&& 31)) &&& (63 : Int32))))), (Int8.toInt32 (Int32.toInt8 ((128 : Int32) ||| ((xcp >>> ((6 : Int32) &&& 31)) &&& (63 : Int32))))), (Int8.toInt32 (Int32.toInt8 ((128 : Int32) ||| (xcp &&& (63 : Int32))))), (Int8.toInt32 (Int32.toInt8 xf)), (Int8.toInt32 (Int32.toInt8 xf)), (Int8.toInt32 (Int32.toInt8 xf))]) :: []) := H361.front 1 rfl
      have H364 : OL n0 h339 ((xbb, OA Z .byte [(Int8.toInt32 (Int32.toInt8 xf)), (Int8.toInt32 (Int32.toInt8 ((240 : Int32) ||| (xcp >>> ((18 : Int32) &&& 31))))), (Int8.toInt32 (Int32.toInt8 ((128 : Int32) ||| ((xcp >>> ((12 : Int32) &&& 31)) &&& (63 : Int32))))), (Int8.toInt32 (Int32.toInt8 ((128 : Int32) ||| ((xcp >>> ((6 : Int32) &&& 31)) &&& (63 : Int32))))), (Int8.toInt32 (Int32.toInt8 ((128 : Int32) ||| (xcp &&& (63 : Int32))))), (Int8.toInt32 (Int32.toInt8 xf)), (Int8.toInt32 (Int32.toInt8 xf)), (Int8.toInt32 (Int32.toInt8 xf))]) :: (xee, OA Z .int [((240 : Int32) + (xcp / (262144 : Int32))), ((128 : Int32) + ((xcp / (4096 : Int32)) % (64 : Int32))), ((128 : Int32) + ((xcp / (64 : Int32)) % (64 : Int32))), ((128 : Int32) + (xcp % (64 : Int32)))]) :: []) := H363.front 1 rfl
      refine o_callS X359 at_392 (rest := []) (c_atO l Z a0 hw [] n0 _ X359.size xbb (7 : Int32) (1 : Int32) (4 : Int32) xee xf [(Int8.toInt32 (Int32.toInt8 xf)), (Int8.toInt32 (Int32.toInt8 ((240 : Int32) ||| (xcp >>> ((18 : Int32) &&& 31))))), (Int8.toInt32 (Int32.toInt8 ((128 : Int32) ||| ((xcp >>> ((12 : Int32) &&& 31)) &&& (63 : Int32))))), (Int8.toInt32 (Int32.toInt8 ((128 : Int32) ||| ((xcp >>> ((6 : Int32) &&& 31)) &&& (63 : Int32))))), (Int8.toInt32 (Int32.toInt8 ((128 : Int32) ||| (xcp &&& (63 : Int32))))), (Int8.toInt32 (Int32.toInt8 xf)), (Int8.toInt32 (Int32.toInt8 xf)), (Int8.toInt32 (Int32.toInt8 xf))] [((240 : Int32) + (xcp / (262144 : Int32))), ((128 : Int32) + ((xcp / (4096 : Int32)) % (64 : Int32))), ((128 : Int32) + ((xcp / (64 : Int32)) % (64 : Int32))), ((128 : Int32) + (xcp % (64 : Int32)))] [] H364 7 rfl (Int8.toInt32 (Int32.toInt8 xf)) rfl (by decide) (v_fill _)) (hw _ (List.mem_of_getElem? (i := 9) rfl)) (hw _ (List.mem_of_getElem? (i := 10) rfl)) (hw _ (List.mem_of_getElem? (i := 11) rfl)) (hw _ (List.mem_of_getElem? (i := 12) rfl)) (by decide) 0 (by decide) (by decide) rfl [(.ref xbb), (.int (7 : Int32)), (.int (1 : Int32)), (.int (4 : Int32)), (.ref xee), (.int xf)] rfl pd_2 rfl rfl (Nat.le_of_eq rfl) 2 12 rfl rfl (by decide) (by decide) 395 rfl ?_
      rintro _ T362 _ X362 ⟨rfl, rfl⟩
      show OE p e room_1 below s n0 Q' T362 (mkF m 395 #[.val (.int xc), .val (.int xi), .val (.int xf), .val (.int xcp), .val (.int (1 : Int32)), .val (.int (Int8.toInt32 (Int32.toInt8 xf))), .val (.ref xbb), .val (.ref xee), .val (.int (4 : Int32)), .val (.int (5 : Int32))] [(.int (1 : Int32))])
      refine o_ifEq X362 at_395 402 398 (by decide) (by decide) rfl (fun q => by exfalso; exact absurd q (by decide)) ?_
      intro hc395
      refine o_iconst (v := (1 : Int32)) X362 at_398 rfl 399 rfl ?_
      refine o_goto X362 at_399 403 (by decide) (by decide) ?_
      exact o_retZ X362 at_403 (by decide) (by decide) (hQ _ _ rfl)
    · skip
      refine o_iloadN X_J248 at_248 rfl 249 rfl ?_
      refine o_aload X_J248 at_249 rfl rfl 251 rfl ?_
      refine o_iload X_J248 at_251 rfl 253 rfl ?_
      have H366 : OL n0 h ((xbb, OA Z .byte [(Int8.toInt32 (Int32.toInt8 xf)), (Int8.toInt32 (Int32.toInt8 xf)), (Int8.toInt32 (Int32.toInt8 xf)), (Int8.toInt32 (Int32.toInt8 xf)), (Int8.toInt32 (Int32.toInt8 xf)), (Int8.toInt32 (Int32.toInt8 xf)), (Int8.toInt32 (Int32.toInt8 xf)), (Int8.toInt32 (Int32.toInt8 xf))]) :: (xee, OA Z .int [((240 : Int32) + (xcp / (262144 : Int32))), ((128 : Int32) + ((xcp / (4096 : Int32)) % (64 : Int32))), ((128 : Int32) + ((xcp / (64 : Int32)) % (64 : Int32))), ((128 : Int32) + (xcp % (64 : Int32)))]) :: []) := H_J248.front 1 rfl
      refine o_callS X_J248 at_253 (rest := []) (c_enc4 l Z a0 hw [] n0 _ X_J248.size xcp xbb (2 : Int32) [(Int8.toInt32 (Int32.toInt8 xf)), (Int8.toInt32 (Int32.toInt8 xf)), (Int8.toInt32 (Int32.toInt8 xf)), (Int8.toInt32 (Int32.toInt8 xf)), (Int8.toInt32 (Int32.toInt8 xf)), (Int8.toInt32 (Int32.toInt8 xf)), (Int8.toInt32 (Int32.toInt8 xf)), (Int8.toInt32 (Int32.toInt8 xf))] ((xee, OA Z .int [((240 : Int32) + (xcp / (262144 : Int32))), ((128 : Int32) + ((xcp / (4096 : Int32)) % (64 : Int32))), ((128 : Int32) + ((xcp / (64 : Int32)) % (64 : Int32))), ((128 : Int32) + (xcp % (64 : Int32)))]) :: []) H366 2 rfl (by show 6 ≤ 8; decide) (by decide) hlo hhi) (hw _ (List.mem_of_getElem? (i := 5) rfl)) (hw _ (List.mem_of_getElem? (i := 6) rfl)) (hw _ (List.mem_of_getElem? (i := 7) rfl)) (hw _ (List.mem_of_getElem? (i := 8) rfl)) (by decide) 0 (by decide) (by decide) rfl [(.int xcp), (.ref xbb), (.int (2 : Int32))] rfl pd_1 rfl rfl (Nat.le_of_eq rfl) 2 12 rfl rfl (by decide) (by decide) 256 rfl ?_
      rintro _ T365 h365 X365 ⟨rfl, H365⟩
      replace H365 : OL n0 h365 ((xbb, OA Z .byte [(Int8.toInt32 (Int32.toInt8 xf)), (Int8.toInt32 (Int32.toInt8 xf)), (Int8.toInt32 (Int32.toInt8 ((240 : Int32) ||| (xcp >>> ((18 : Int32) &&& 31))))), (Int8.toInt32 (Int32.toInt8 ((128 : Int32) ||| ((xcp >>> ((12 : Int32) &&& 31)) &&& (63 : Int32))))), (Int8.toInt32 (Int32.toInt8 ((128 : Int32) ||| ((xcp >>> ((6 : Int32) &&& 31)) &&& (63 : Int32))))), (Int8.toInt32 (Int32.toInt8 ((128 : Int32) ||| (xcp &&& (63 : Int32))))), (Int8.toInt32 (Int32.toInt8 xf)), (Int8.toInt32 (Int32.toInt8 xf))]) :: (xee, OA Z .int [((240 : Int32) + (xcp / (262144 : Int32))), ((128 : Int32) + ((xcp / (4096 : Int32)) % (64 : Int32))), ((128 : Int32) + ((xcp / (64 : Int32)) % (64 : Int32))), ((128 : Int32) + (xcp % (64 : Int32)))]) :: []) := H365
      show OE p e room_1 below s n0 Q' T365 (mkF m 256 #[.val (.int xc), .val (.int xi), .val (.int xf), .val (.int xcp), .val (.int (2 : Int32)), .val (.int (Int8.toInt32 (Int32.toInt8 xf))), .val (.ref xbb), .val (.ref xee), .val (.int (4 : Int32)), .unset] [(.int (((((2 : Int32) + (1 : Int32)) + (1 : Int32)) + (1 : Int32)) + (1 : Int32)))])
      refine o_istore X365 at_256 #[.val (.int xc), .val (.int xi), .val (.int xf), .val (.int xcp), .val (.int (2 : Int32)), .val (.int (Int8.toInt32 (Int32.toInt8 xf))), .val (.ref xbb), .val (.ref xee), .val (.int (4 : Int32)), .val (.int (((((2 : Int32) + (1 : Int32)) + (1 : Int32)) + (1 : Int32)) + (1 : Int32)))] rfl 258 rfl ?_
      rw [show (((((2 : Int32) + (1 : Int32)) + (1 : Int32)) + (1 : Int32)) + (1 : Int32)) = (6 : Int32) from rfl]
      refine o_iload X365 at_258 rfl 260 rfl ?_
      refine o_iload X365 at_260 rfl 262 rfl ?_
      refine o_iload X365 at_262 rfl 264 rfl ?_
      refine o_iadd X365 at_264 265 rfl ?_
      refine o_icmpNe X365 at_265 402 268 (by decide) (by decide) rfl (fun q => by exfalso; exact q rfl) ?_
      intro hc265
      refine o_aload X365 at_268 rfl rfl 270 rfl ?_
      refine o_iconst (v := (0 : Int32)) X365 at_270 rfl 271 rfl ?_
      refine o_iload X365 at_271 rfl 273 rfl ?_
      refine o_iload X365 at_273 rfl 275 rfl ?_
      refine o_aload X365 at_275 rfl rfl 277 rfl ?_
      refine o_iloadN X365 at_277 rfl 278 rfl ?_
      have H368 : OL n0 h365 ((xee, OA Z .int [((240 : Int32) + (xcp / (262144 : Int32))), ((128 : Int32) + ((xcp / (4096 : Int32)) % (64 : Int32))), ((128 : Int32) + ((xcp / (64 : Int32)) % (64 : Int32))), ((128 : Int32) + (xcp % (64 : Int32)))]) :: (xbb, OA Z .byte [(Int8.toInt32 (Int32.toInt8 xf)), (Int8.toInt32 (Int32.toInt8 xf)), (Int8.toInt32 (Int32.toInt8 ((240 : Int32) ||| (xcp >>> ((18 : Int32) &&& 31))))), (Int8.toInt32 (Int32.toInt8 ((128 : Int32) ||| ((xcp >>> ((12 : Int32) &&& 31)) &&& (63 : Int32))))), (Int8.toInt32 (Int32.toInt8 ((128 : Int32) ||| ((xcp >>> ((6 : Int32) &&& 31)) &&& (63 : Int32))))), (Int8.toInt32 (Int32.toInt8 ((128 : Int32) ||| (xcp &&& (63 : Int32))))), (Int8.toInt32 (Int32.toInt8 xf)), (Int8.toInt32 (Int32.toInt8 xf))]) :: []) := H365.front 1 rfl
      have H369 : OL n0 h365 ((xbb, OA Z .byte [(Int8.toInt32 (Int32.toInt8 xf)), (Int8.toInt32 (Int32.toInt8 xf)), (Int8.toInt32 (Int32.toInt8 ((240 : Int32) ||| (xcp >>> ((18 : Int32) &&& 31))))), (Int8.toInt32 (Int32.toInt8 ((128 : Int32) ||| ((xcp >>> ((12 : Int32) &&& 31)) &&& (63 : Int32))))), (Int8.toInt32 (Int32.toInt8 ((128 : Int32) ||| ((xcp >>> ((6 : Int32) &&& 31)) &&& (63 : Int32))))), (Int8.toInt32 (Int32.toInt8 ((128 : Int32) ||| (xcp &&& (63 : Int32))))), (Int8.toInt32 (Int32.toInt8 xf)), (Int8.toInt32 (Int32.toInt8 xf))]) :: (xee, OA Z .int [((240 : Int32) + (xcp / (262144 : Int32))), ((128 : Int32) + ((xcp / (4096 : Int32)) % (64 : Int32))), ((128 : Int32) + ((xcp / (64 : Int32)) % (64 : Int32))), ((128 : Int32) + (xcp % (64 : Int32)))]) :: []) := H368.front 1 rfl
      refine o_callS X365 at_278 (rest := []) (c_atO l Z a0 hw [] n0 _ X365.size xbb (0 : Int32) (2 : Int32) (4 : Int32) xee xf [(Int8.toInt32 (Int32.toInt8 xf)), (Int8.toInt32 (Int32.toInt8 xf)), (Int8.toInt32 (Int32.toInt8 ((240 : Int32) ||| (xcp >>> ((18 : Int32) &&& 31))))), (Int8.toInt32 (Int32.toInt8 ((128 : Int32) ||| ((xcp >>> ((12 : Int32) &&& 31)) &&& (63 : Int32))))), (Int8.toInt32 (Int32.toInt8 ((128 : Int32) ||| ((xcp >>> ((6 : Int32) &&& 31)) &&& (63 : Int32))))), (Int8.toInt32 (Int32.toInt8 ((128 : Int32) ||| (xcp &&& (63 : Int32))))), (Int8.toInt32 (Int32.toInt8 xf)), (Int8.toInt32 (Int32.toInt8 xf))] [((240 : Int32) + (xcp / (262144 : Int32))), ((128 : Int32) + ((xcp / (4096 : Int32)) % (64 : Int32))), ((128 : Int32) + ((xcp / (64 : Int32)) % (64 : Int32))), ((128 : Int32) + (xcp % (64 : Int32)))] [] H369 0 rfl (Int8.toInt32 (Int32.toInt8 xf)) rfl (by decide) (v_fill _)) (hw _ (List.mem_of_getElem? (i := 9) rfl)) (hw _ (List.mem_of_getElem? (i := 10) rfl)) (hw _ (List.mem_of_getElem? (i := 11) rfl)) (hw _ (List.mem_of_getElem? (i := 12) rfl)) (by decide) 0 (by decide) (by decide) rfl [(.ref xbb), (.int (0 : Int32)), (.int (2 : Int32)), (.int (4 : Int32)), (.ref xee), (.int xf)] rfl pd_2 rfl rfl (Nat.le_of_eq rfl) 2 12 rfl rfl (by decide) (by decide) 281 rfl ?_
      rintro _ T367 _ X367 ⟨rfl, rfl⟩
      show OE p e room_1 below s n0 Q' T367 (mkF m 281 #[.val (.int xc), .val (.int xi), .val (.int xf), .val (.int xcp), .val (.int (2 : Int32)), .val (.int (Int8.toInt32 (Int32.toInt8 xf))), .val (.ref xbb), .val (.ref xee), .val (.int (4 : Int32)), .val (.int (6 : Int32))] [(.int (1 : Int32))])
      refine o_ifEq X367 at_281 402 284 (by decide) (by decide) rfl (fun q => by exfalso; exact absurd q (by decide)) ?_
      intro hc281
      refine o_aload X367 at_284 rfl rfl 286 rfl ?_
      refine o_iconst (v := (1 : Int32)) X367 at_286 rfl 287 rfl ?_
      refine o_iload X367 at_287 rfl 289 rfl ?_
      refine o_iload X367 at_289 rfl 291 rfl ?_
      refine o_aload X367 at_291 rfl rfl 293 rfl ?_
      refine o_iloadN X367 at_293 rfl 294 rfl ?_
      have H371 : OL n0 h365 ((xee, OA Z .int [((240 : Int32) + (xcp / (262144 : Int32))), ((128 : Int32) + ((xcp / (4096 : Int32)) % (64 : Int32))), ((128 : Int32) + ((xcp / (64 : Int32)) % (64 : Int32))), ((128 : Int32) + (xcp % (64 : Int32)))]) :: (xbb, OA Z .byte [(Int8.toInt32 (Int32.toInt8 xf)), (Int8.toInt32 (Int32.toInt8 xf)), (Int8.toInt32 (Int32.toInt8 ((240 : Int32) ||| (xcp >>> ((18 : Int32) &&& 31))))), (Int8.toInt32 (Int32.toInt8 ((128 : Int32) ||| ((xcp >>> ((12 : Int32) &&& 31)) &&& (63 : Int32))))), (Int8.toInt32 (Int32.toInt8 ((128 : Int32) ||| ((xcp >>> ((6 : Int32) &&& 31)) &&& (63 : Int32))))), (Int8.toInt32 (Int32.toInt8 ((128 : Int32) ||| (xcp &&& (63 : Int32))))), (Int8.toInt32 (Int32.toInt8 xf)), (Int8.toInt32 (Int32.toInt8 xf))]) :: []) := H369.front 1 rfl
      have H372 : OL n0 h365 ((xbb, OA Z .byte [(Int8.toInt32 (Int32.toInt8 xf)), (Int8.toInt32 (Int32.toInt8 xf)), (Int8.toInt32 (Int32.toInt8 ((240 : Int32) ||| (xcp >>> ((18 : Int32) &&& 31))))), (Int8.toInt32 (Int32.toInt8 ((128 : Int32) ||| ((xcp >>> ((12 : Int32) &&& 31)) &&& (63 : Int32))))), (Int8.toInt32 (Int32.toInt8 ((128 : Int32) ||| ((xcp >>> ((6 : Int32) &&& 31)) &&& (63 : Int32))))), (Int8.toInt32 (Int32.toInt8 ((128 : Int32) ||| (xcp &&& (63 : Int32))))), (Int8.toInt32 (Int32.toInt8 xf)), (Int8.toInt32 (Int32.toInt8 xf))]) :: (xee, OA Z .int [((240 : Int32) + (xcp / (262144 : Int32))), ((128 : Int32) + ((xcp / (4096 : Int32)) % (64 : Int32))), ((128 : Int32) + ((xcp / (64 : Int32)) % (64 : Int32))), ((128 : Int32) + (xcp % (64 : Int32)))]) :: []) := H371.front 1 rfl
      refine o_callS X367 at_294 (rest := []) (c_atO l Z a0 hw [] n0 _ X367.size xbb (1 : Int32) (2 : Int32) (4 : Int32) xee xf [(Int8.toInt32 (Int32.toInt8 xf)), (Int8.toInt32 (Int32.toInt8 xf)), (Int8.toInt32 (Int32.toInt8 ((240 : Int32) ||| (xcp >>> ((18 : Int32) &&& 31))))), (Int8.toInt32 (Int32.toInt8 ((128 : Int32) ||| ((xcp >>> ((12 : Int32) &&& 31)) &&& (63 : Int32))))), (Int8.toInt32 (Int32.toInt8 ((128 : Int32) ||| ((xcp >>> ((6 : Int32) &&& 31)) &&& (63 : Int32))))), (Int8.toInt32 (Int32.toInt8 ((128 : Int32) ||| (xcp &&& (63 : Int32))))), (Int8.toInt32 (Int32.toInt8 xf)), (Int8.toInt32 (Int32.toInt8 xf))] [((240 : Int32) + (xcp / (262144 : Int32))), ((128 : Int32) + ((xcp / (4096 : Int32)) % (64 : Int32))), ((128 : Int32) + ((xcp / (64 : Int32)) % (64 : Int32))), ((128 : Int32) + (xcp % (64 : Int32)))] [] H372 1 rfl (Int8.toInt32 (Int32.toInt8 xf)) rfl (by decide) (v_fill _)) (hw _ (List.mem_of_getElem? (i := 9) rfl)) (hw _ (List.mem_of_getElem? (i := 10) rfl)) (hw _ (List.mem_of_getElem? (i := 11) rfl)) (hw _ (List.mem_of_getElem? (i := 12) rfl)) (by decide) 0 (by decide) (by decide) rfl [(.ref xbb), (.int (1 : Int32)), (.int (2 : Int32)), (.int (4 : Int32)), (.ref xee), (.int xf)] rfl pd_2 rfl rfl (Nat.le_of_eq rfl) 2 12 rfl rfl (by decide) (by decide) 297 rfl ?_
      rintro _ T370 _ X370 ⟨rfl, rfl⟩
      show OE p e room_1 below s n0 Q' T370 (mkF m 297 #[.val (.int xc), .val (.int xi), .val (.int xf), .val (.int xcp), .val (.int (2 : Int32)), .val (.int (Int8.toInt32 (Int32.toInt8 xf))), .val (.ref xbb), .val (.ref xee), .val (.int (4 : Int32)), .val (.int (6 : Int32))] [(.int (1 : Int32))])
      refine o_ifEq X370 at_297 402 300 (by decide) (by decide) rfl (fun q => by exfalso; exact absurd q (by decide)) ?_
      intro hc297
      refine o_aload X370 at_300 rfl rfl 302 rfl ?_
      refine o_iconst (v := (2 : Int32)) X370 at_302 rfl 303 rfl ?_
      refine o_iload X370 at_303 rfl 305 rfl ?_
      refine o_iload X370 at_305 rfl 307 rfl ?_
      refine o_aload X370 at_307 rfl rfl 309 rfl ?_
      refine o_iloadN X370 at_309 rfl 310 rfl ?_
      have H374 : OL n0 h365 ((xee, OA Z .int [((240 : Int32) + (xcp / (262144 : Int32))), ((128 : Int32) + ((xcp / (4096 : Int32)) % (64 : Int32))), ((128 : Int32) + ((xcp / (64 : Int32)) % (64 : Int32))), ((128 : Int32) + (xcp % (64 : Int32)))]) :: (xbb, OA Z .byte [(Int8.toInt32 (Int32.toInt8 xf)), (Int8.toInt32 (Int32.toInt8 xf)), (Int8.toInt32 (Int32.toInt8 ((240 : Int32) ||| (xcp >>> ((18 : Int32) &&& 31))))), (Int8.toInt32 (Int32.toInt8 ((128 : Int32) ||| ((xcp >>> ((12 : Int32) &&& 31)) &&& (63 : Int32))))), (Int8.toInt32 (Int32.toInt8 ((128 : Int32) ||| ((xcp >>> ((6 : Int32) &&& 31)) &&& (63 : Int32))))), (Int8.toInt32 (Int32.toInt8 ((128 : Int32) ||| (xcp &&& (63 : Int32))))), (Int8.toInt32 (Int32.toInt8 xf)), (Int8.toInt32 (Int32.toInt8 xf))]) :: []) := H372.front 1 rfl
      have H375 : OL n0 h365 ((xbb, OA Z .byte [(Int8.toInt32 (Int32.toInt8 xf)), (Int8.toInt32 (Int32.toInt8 xf)), (Int8.toInt32 (Int32.toInt8 ((240 : Int32) ||| (xcp >>> ((18 : Int32) &&& 31))))), (Int8.toInt32 (Int32.toInt8 ((128 : Int32) ||| ((xcp >>> ((12 : Int32) &&& 31)) &&& (63 : Int32))))), (Int8.toInt32 (Int32.toInt8 ((128 : Int32) ||| ((xcp >>> ((6 : Int32) &&& 31)) &&& (63 : Int32))))), (Int8.toInt32 (Int32.toInt8 ((128 : Int32) ||| (xcp &&& (63 : Int32))))), (Int8.toInt32 (Int32.toInt8 xf)), (Int8.toInt32 (Int32.toInt8 xf))]) :: (xee, OA Z .int [((240 : Int32) + (xcp / (262144 : Int32))), ((128 : Int32) + ((xcp / (4096 : Int32)) % (64 : Int32))), ((128 : Int32) + ((xcp / (64 : Int32)) % (64 : Int32))), ((128 : Int32) + (xcp % (64 : Int32)))]) :: []) := H374.front 1 rfl
      refine o_callS X370 at_310 (rest := []) (c_atI l Z a0 hw [] n0 _ X370.size xbb (2 : Int32) (2 : Int32) (4 : Int32) xee xf [(Int8.toInt32 (Int32.toInt8 xf)), (Int8.toInt32 (Int32.toInt8 xf)), (Int8.toInt32 (Int32.toInt8 ((240 : Int32) ||| (xcp >>> ((18 : Int32) &&& 31))))), (Int8.toInt32 (Int32.toInt8 ((128 : Int32) ||| ((xcp >>> ((12 : Int32) &&& 31)) &&& (63 : Int32))))), (Int8.toInt32 (Int32.toInt8 ((128 : Int32) ||| ((xcp >>> ((6 : Int32) &&& 31)) &&& (63 : Int32))))), (Int8.toInt32 (Int32.toInt8 ((128 : Int32) ||| (xcp &&& (63 : Int32))))), (Int8.toInt32 (Int32.toInt8 xf)), (Int8.toInt32 (Int32.toInt8 xf))] [((240 : Int32) + (xcp / (262144 : Int32))), ((128 : Int32) + ((xcp / (4096 : Int32)) % (64 : Int32))), ((128 : Int32) + ((xcp / (64 : Int32)) % (64 : Int32))), ((128 : Int32) + (xcp % (64 : Int32)))] [] H375 2 rfl (Int8.toInt32 (Int32.toInt8 ((240 : Int32) ||| (xcp >>> ((18 : Int32) &&& 31))))) rfl 0 rfl ((240 : Int32) + (xcp / (262144 : Int32))) rfl (by decide) (by decide) (v_e40 xcp hlo hhi)) (hw _ (List.mem_of_getElem? (i := 9) rfl)) (hw _ (List.mem_of_getElem? (i := 10) rfl)) (hw _ (List.mem_of_getElem? (i := 11) rfl)) (hw _ (List.mem_of_getElem? (i := 12) rfl)) (by decide) 0 (by decide) (by decide) rfl [(.ref xbb), (.int (2 : Int32)), (.int (2 : Int32)), (.int (4 : Int32)), (.ref xee), (.int xf)] rfl pd_2 rfl rfl (Nat.le_of_eq rfl) 2 12 rfl rfl (by decide) (by decide) 313 rfl ?_
      rintro _ T373 _ X373 ⟨rfl, rfl⟩
      show OE p e room_1 below s n0 Q' T373 (mkF m 313 #[.val (.int xc), .val (.int xi), .val (.int xf), .val (.int xcp), .val (.int (2 : Int32)), .val (.int (Int8.toInt32 (Int32.toInt8 xf))), .val (.ref xbb), .val (.ref xee), .val (.int (4 : Int32)), .val (.int (6 : Int32))] [(.int (1 : Int32))])
      refine o_ifEq X373 at_313 402 316 (by decide) (by decide) rfl (fun q => by exfalso; exact absurd q (by decide)) ?_
      intro hc313
      refine o_aload X373 at_316 rfl rfl 318 rfl ?_
      refine o_iconst (v := (3 : Int32)) X373 at_318 rfl 319 rfl ?_
      refine o_iload X373 at_319 rfl 321 rfl ?_
      refine o_iload X373 at_321 rfl 323 rfl ?_
      refine o_aload X373 at_323 rfl rfl 325 rfl ?_
      refine o_iloadN X373 at_325 rfl 326 rfl ?_
      have H377 : OL n0 h365 ((xee, OA Z .int [((240 : Int32) + (xcp / (262144 : Int32))), ((128 : Int32) + ((xcp / (4096 : Int32)) % (64 : Int32))), ((128 : Int32) + ((xcp / (64 : Int32)) % (64 : Int32))), ((128 : Int32) + (xcp % (64 : Int32)))]) :: (xbb, OA Z .byte [(Int8.toInt32 (Int32.toInt8 xf)), (Int8.toInt32 (Int32.toInt8 xf)), (Int8.toInt32 (Int32.toInt8 ((240 : Int32) ||| (xcp >>> ((18 : Int32) &&& 31))))), (Int8.toInt32 (Int32.toInt8 ((128 : Int32) ||| ((xcp >>> ((12 : Int32) &&& 31)) &&& (63 : Int32))))), (Int8.toInt32 (Int32.toInt8 ((128 : Int32) ||| ((xcp >>> ((6 : Int32) &&& 31)) &&& (63 : Int32))))), (Int8.toInt32 (Int32.toInt8 ((128 : Int32) ||| (xcp &&& (63 : Int32))))), (Int8.toInt32 (Int32.toInt8 xf)), (Int8.toInt32 (Int32.toInt8 xf))]) :: []) := H375.front 1 rfl
      have H378 : OL n0 h365 ((xbb, OA Z .byte [(Int8.toInt32 (Int32.toInt8 xf)), (Int8.toInt32 (Int32.toInt8 xf)), (Int8.toInt32 (Int32.toInt8 ((240 : Int32) ||| (xcp >>> ((18 : Int32) &&& 31))))), (Int8.toInt32 (Int32.toInt8 ((128 : Int32) ||| ((xcp >>> ((12 : Int32) &&& 31)) &&& (63 : Int32))))), (Int8.toInt32 (Int32.toInt8 ((128 : Int32) ||| ((xcp >>> ((6 : Int32) &&& 31)) &&& (63 : Int32))))), (Int8.toInt32 (Int32.toInt8 ((128 : Int32) ||| (xcp &&& (63 : Int32))))), (Int8.toInt32 (Int32.toInt8 xf)), (Int8.toInt32 (Int32.toInt8 xf))]) :: (xee, OA Z .int [((240 : Int32) + (xcp / (262144 : Int32))), ((128 : Int32) + ((xcp / (4096 : Int32)) % (64 : Int32))), ((128 : Int32) + ((xcp / (64 : Int32)) % (64 : Int32))), ((128 : Int32) + (xcp % (64 : Int32)))]) :: []) := H377.front 1 rfl
      refine o_callS X373 at_326 (rest := []) (c_atI l Z a0 hw [] n0 _ X373.size xbb (3 : Int32) (2 : Int32) (4 : Int32) xee xf [(Int8.toInt32 (Int32.toInt8 xf)), (Int8.toInt32 (Int32.toInt8 xf)), (Int8.toInt32 (Int32.toInt8 ((240 : Int32) ||| (xcp >>> ((18 : Int32) &&& 31))))), (Int8.toInt32 (Int32.toInt8 ((128 : Int32) ||| ((xcp >>> ((12 : Int32) &&& 31)) &&& (63 : Int32))))), (Int8.toInt32 (Int32.toInt8 ((128 : Int32) ||| ((xcp >>> ((6 : Int32) &&& 31)) &&& (63 : Int32))))), (Int8.toInt32 (Int32.toInt8 ((128 : Int32) ||| (xcp &&& (63 : Int32))))), (Int8.toInt32 (Int32.toInt8 xf)), (Int8.toInt32 (Int32.toInt8 xf))] [((240 : Int32) + (xcp / (262144 : Int32))), ((128 : Int32) + ((xcp / (4096 : Int32)) % (64 : Int32))), ((128 : Int32) + ((xcp / (64 : Int32)) % (64 : Int32))), ((128 : Int32) + (xcp % (64 : Int32)))] [] H378 3 rfl (Int8.toInt32 (Int32.toInt8 ((128 : Int32) ||| ((xcp >>> ((12 : Int32) &&& 31)) &&& (63 : Int32))))) rfl 1 rfl ((128 : Int32) + ((xcp / (4096 : Int32)) % (64 : Int32))) rfl (by decide) (by decide) (v_e41 xcp hlo hhi)) (hw _ (List.mem_of_getElem? (i := 9) rfl)) (hw _ (List.mem_of_getElem? (i := 10) rfl)) (hw _ (List.mem_of_getElem? (i := 11) rfl)) (hw _ (List.mem_of_getElem? (i := 12) rfl)) (by decide) 0 (by decide) (by decide) rfl [(.ref xbb), (.int (3 : Int32)), (.int (2 : Int32)), (.int (4 : Int32)), (.ref xee), (.int xf)] rfl pd_2 rfl rfl (Nat.le_of_eq rfl) 2 12 rfl rfl (by decide) (by decide) 329 rfl ?_
      rintro _ T376 _ X376 ⟨rfl, rfl⟩
      show OE p e room_1 below s n0 Q' T376 (mkF m 329 #[.val (.int xc), .val (.int xi), .val (.int xf), .val (.int xcp), .val (.int (2 : Int32)), .val (.int (Int8.toInt32 (Int32.toInt8 xf))), .val (.ref xbb), .val (.ref xee), .val (.int (4 : Int32)), .val (.int (6 : Int32))] [(.int (1 : Int32))])
      refine o_ifEq X376 at_329 402 332 (by decide) (by decide) rfl (fun q => by exfalso; exact absurd q (by decide)) ?_
      intro hc329
      refine o_aload X376 at_332 rfl rfl 334 rfl ?_
      refine o_iconst (v := (4 : Int32)) X376 at_334 rfl 335 rfl ?_
      refine o_iload X376 at_335 rfl 337 rfl ?_
      refine o_iload X376 at_337 rfl 339 rfl ?_
      refine o_aload X376 at_339 rfl rfl 341 rfl ?_
      refine o_iloadN X376 at_341 rfl 342 rfl ?_
      have H380 : OL n0 h365 ((xee, OA Z .int [((240 : Int32) + (xcp / (262144 : Int32))), ((128 : Int32) + ((xcp / (4096 : Int32)) % (64 : Int32))), ((128 : Int32) + ((xcp / (64 : Int32)) % (64 : Int32))), ((128 : Int32) + (xcp % (64 : Int32)))]) :: (xbb, OA Z .byte [(Int8.toInt32 (Int32.toInt8 xf)), (Int8.toInt32 (Int32.toInt8 xf)), (Int8.toInt32 (Int32.toInt8 ((240 : Int32) ||| (xcp >>> ((18 : Int32) &&& 31))))), (Int8.toInt32 (Int32.toInt8 ((128 : Int32) ||| ((xcp >>> ((12 : Int32) &&& 31)) &&& (63 : Int32))))), (Int8.toInt32 (Int32.toInt8 ((128 : Int32) ||| ((xcp >>> ((6 : Int32) &&& 31)) &&& (63 : Int32))))), (Int8.toInt32 (Int32.toInt8 ((128 : Int32) ||| (xcp &&& (63 : Int32))))), (Int8.toInt32 (Int32.toInt8 xf)), (Int8.toInt32 (Int32.toInt8 xf))]) :: []) := H378.front 1 rfl
      have H381 : OL n0 h365 ((xbb, OA Z .byte [(Int8.toInt32 (Int32.toInt8 xf)), (Int8.toInt32 (Int32.toInt8 xf)), (Int8.toInt32 (Int32.toInt8 ((240 : Int32) ||| (xcp >>> ((18 : Int32) &&& 31))))), (Int8.toInt32 (Int32.toInt8 ((128 : Int32) ||| ((xcp >>> ((12 : Int32) &&& 31)) &&& (63 : Int32))))), (Int8.toInt32 (Int32.toInt8 ((128 : Int32) ||| ((xcp >>> ((6 : Int32) &&& 31)) &&& (63 : Int32))))), (Int8.toInt32 (Int32.toInt8 ((128 : Int32) ||| (xcp &&& (63 : Int32))))), (Int8.toInt32 (Int32.toInt8 xf)), (Int8.toInt32 (Int32.toInt8 xf))]) :: (xee, OA Z .int [((240 : Int32) + (xcp / (262144 : Int32))), ((128 : Int32) + ((xcp / (4096 : Int32)) % (64 : Int32))), ((128 : Int32) + ((xcp / (64 : Int32)) % (64 : Int32))), ((128 : Int32) + (xcp % (64 : Int32)))]) :: []) := H380.front 1 rfl
      refine o_callS X376 at_342 (rest := []) (c_atI l Z a0 hw [] n0 _ X376.size xbb (4 : Int32) (2 : Int32) (4 : Int32) xee xf [(Int8.toInt32 (Int32.toInt8 xf)), (Int8.toInt32 (Int32.toInt8 xf)), (Int8.toInt32 (Int32.toInt8 ((240 : Int32) ||| (xcp >>> ((18 : Int32) &&& 31))))), (Int8.toInt32 (Int32.toInt8 ((128 : Int32) ||| ((xcp >>> ((12 : Int32) &&& 31)) &&& (63 : Int32))))), (Int8.toInt32 (Int32.toInt8 ((128 : Int32) ||| ((xcp >>> ((6 : Int32) &&& 31)) &&& (63 : Int32))))), (Int8.toInt32 (Int32.toInt8 ((128 : Int32) ||| (xcp &&& (63 : Int32))))), (Int8.toInt32 (Int32.toInt8 xf)), (Int8.toInt32 (Int32.toInt8 xf))] [((240 : Int32) + (xcp / (262144 : Int32))), ((128 : Int32) + ((xcp / (4096 : Int32)) % (64 : Int32))), ((128 : Int32) + ((xcp / (64 : Int32)) % (64 : Int32))), ((128 : Int32) + (xcp % (64 : Int32)))] [] H381 4 rfl (Int8.toInt32 (Int32.toInt8 ((128 : Int32) ||| ((xcp >>> ((6 : Int32) &&& 31)) &&& (63 : Int32))))) rfl 2 rfl ((128 : Int32) + ((xcp / (64 : Int32)) % (64 : Int32))) rfl (by decide) (by decide) (v_e42 xcp hlo hhi)) (hw _ (List.mem_of_getElem? (i := 9) rfl)) (hw _ (List.mem_of_getElem? (i := 10) rfl)) (hw _ (List.mem_of_getElem? (i := 11) rfl)) (hw _ (List.mem_of_getElem? (i := 12) rfl)) (by decide) 0 (by decide) (by decide) rfl [(.ref xbb), (.int (4 : Int32)), (.int (2 : Int32)), (.int (4 : Int32)), (.ref xee), (.int xf)] rfl pd_2 rfl rfl (Nat.le_of_eq rfl) 2 12 rfl rfl (by decide) (by decide) 345 rfl ?_
      rintro _ T379 _ X379 ⟨rfl, rfl⟩
      show OE p e room_1 below s n0 Q' T379 (mkF m 345 #[.val (.int xc), .val (.int xi), .val (.int xf), .val (.int xcp), .val (.int (2 : Int32)), .val (.int (Int8.toInt32 (Int32.toInt8 xf))), .val (.ref xbb), .val (.ref xee), .val (.int (4 : Int32)), .val (.int (6 : Int32))] [(.int (1 : Int32))])
      refine o_ifEq X379 at_345 402 348 (by decide) (by decide) rfl (fun q => by exfalso; exact absurd q (by decide)) ?_
      intro hc345
      refine o_aload X379 at_348 rfl rfl 350 rfl ?_
      refine o_iconst (v := (5 : Int32)) X379 at_350 rfl 351 rfl ?_
      refine o_iload X379 at_351 rfl 353 rfl ?_
      refine o_iload X379 at_353 rfl 355 rfl ?_
      refine o_aload X379 at_355 rfl rfl 357 rfl ?_
      refine o_iloadN X379 at_357 rfl 358 rfl ?_
      have H383 : OL n0 h365 ((xee, OA Z .int [((240 : Int32) + (xcp / (262144 : Int32))), ((128 : Int32) + ((xcp / (4096 : Int32)) % (64 : Int32))), ((128 : Int32) + ((xcp / (64 : Int32)) % (64 : Int32))), ((128 : Int32) + (xcp % (64 : Int32)))]) :: (xbb, OA Z .byte [(Int8.toInt32 (Int32.toInt8 xf)), (Int8.toInt32 (Int32.toInt8 xf)), (Int8.toInt32 (Int32.toInt8 ((240 : Int32) ||| (xcp >>> ((18 : Int32) &&& 31))))), (Int8.toInt32 (Int32.toInt8 ((128 : Int32) ||| ((xcp >>> ((12 : Int32) &&& 31)) &&& (63 : Int32))))), (Int8.toInt32 (Int32.toInt8 ((128 : Int32) ||| ((xcp >>> ((6 : Int32) &&& 31)) &&& (63 : Int32))))), (Int8.toInt32 (Int32.toInt8 ((128 : Int32) ||| (xcp &&& (63 : Int32))))), (Int8.toInt32 (Int32.toInt8 xf)), (Int8.toInt32 (Int32.toInt8 xf))]) :: []) := H381.front 1 rfl
      have H384 : OL n0 h365 ((xbb, OA Z .byte [(Int8.toInt32 (Int32.toInt8 xf)), (Int8.toInt32 (Int32.toInt8 xf)), (Int8.toInt32 (Int32.toInt8 ((240 : Int32) ||| (xcp >>> ((18 : Int32) &&& 31))))), (Int8.toInt32 (Int32.toInt8 ((128 : Int32) ||| ((xcp >>> ((12 : Int32) &&& 31)) &&& (63 : Int32))))), (Int8.toInt32 (Int32.toInt8 ((128 : Int32) ||| ((xcp >>> ((6 : Int32) &&& 31)) &&& (63 : Int32))))), (Int8.toInt32 (Int32.toInt8 ((128 : Int32) ||| (xcp &&& (63 : Int32))))), (Int8.toInt32 (Int32.toInt8 xf)), (Int8.toInt32 (Int32.toInt8 xf))]) :: (xee, OA Z .int [((240 : Int32) + (xcp / (262144 : Int32))), ((128 : Int32) + ((xcp / (4096 : Int32)) % (64 : Int32))), ((128 : Int32) + ((xcp / (64 : Int32)) % (64 : Int32))), ((128 : Int32) + (xcp % (64 : Int32)))]) :: []) := H383.front 1 rfl
      refine o_callS X379 at_358 (rest := []) (c_atI l Z a0 hw [] n0 _ X379.size xbb (5 : Int32) (2 : Int32) (4 : Int32) xee xf [(Int8.toInt32 (Int32.toInt8 xf)), (Int8.toInt32 (Int32.toInt8 xf)), (Int8.toInt32 (Int32.toInt8 ((240 : Int32) ||| (xcp >>> ((18 : Int32) &&& 31))))), (Int8.toInt32 (Int32.toInt8 ((128 : Int32) ||| ((xcp >>> ((12 : Int32) &&& 31)) &&& (63 : Int32))))), (Int8.toInt32 (Int32.toInt8 ((128 : Int32) ||| ((xcp >>> ((6 : Int32) &&& 31)) &&& (63 : Int32))))), (Int8.toInt32 (Int32.toInt8 ((128 : Int32) ||| (xcp &&& (63 : Int32))))), (Int8.toInt32 (Int32.toInt8 xf)), (Int8.toInt32 (Int32.toInt8 xf))] [((240 : Int32) + (xcp / (262144 : Int32))), ((128 : Int32) + ((xcp / (4096 : Int32)) % (64 : Int32))), ((128 : Int32) + ((xcp / (64 : Int32)) % (64 : Int32))), ((128 : Int32) + (xcp % (64 : Int32)))] [] H384 5 rfl (Int8.toInt32 (Int32.toInt8 ((128 : Int32) ||| (xcp &&& (63 : Int32))))) rfl 3 rfl ((128 : Int32) + (xcp % (64 : Int32))) rfl (by decide) (by decide) (v_e43 xcp hlo hhi)) (hw _ (List.mem_of_getElem? (i := 9) rfl)) (hw _ (List.mem_of_getElem? (i := 10) rfl)) (hw _ (List.mem_of_getElem? (i := 11) rfl)) (hw _ (List.mem_of_getElem? (i := 12) rfl)) (by decide) 0 (by decide) (by decide) rfl [(.ref xbb), (.int (5 : Int32)), (.int (2 : Int32)), (.int (4 : Int32)), (.ref xee), (.int xf)] rfl pd_2 rfl rfl (Nat.le_of_eq rfl) 2 12 rfl rfl (by decide) (by decide) 361 rfl ?_
      rintro _ T382 _ X382 ⟨rfl, rfl⟩
      show OE p e room_1 below s n0 Q' T382 (mkF m 361 #[.val (.int xc), .val (.int xi), .val (.int xf), .val (.int xcp), .val (.int (2 : Int32)), .val (.int (Int8.toInt32 (Int32.toInt8 xf))), .val (.ref xbb), .val (.ref xee), .val (.int (4 : Int32)), .val (.int (6 : Int32))] [(.int (1 : Int32))])
      refine o_ifEq X382 at_361 402 364 (by decide) (by decide) rfl (fun q => by exfalso; exact absurd q (by decide)) ?_
      intro hc361
      refine o_aload X382 at_364 rfl rfl 366 rfl ?_
      refine o_bipush (v := (6 : Int32)) X382 at_366 rfl 368 rfl ?_
      refine o_iload X382 at_368 rfl 370 rfl ?_
      refine o_iload X382 at_370 rfl 372 rfl ?_
      refine o_aload X382 at_372 rfl rfl 374 rfl ?_
      refine o_iloadN X382 at_374 rfl 375 rfl ?_
      have H386 : OL n0 h365 ((xee, OA Z .int [((240 : Int32) + (xcp / (262144 : Int32))), ((128 : Int32) + ((xcp / (4096 : Int32)) % (64 : Int32))), ((128 : Int32) + ((xcp / (64 : Int32)) % (64 : Int32))), ((128 : Int32) + (xcp % (64 : Int32)))]) :: (xbb, OA Z .byte [(Int8.toInt32 (Int32.toInt8 xf)), (Int8.toInt32 (Int32.toInt8 xf)), (Int8.toInt32 (Int32.toInt8 ((240 : Int32) ||| (xcp >>> ((18 : Int32) &&& 31))))), (Int8.toInt32 (Int32.toInt8 ((128 : Int32) ||| ((xcp >>> ((12 : Int32) &&& 31)) &&& (63 : Int32))))), (Int8.toInt32 (Int32.toInt8 ((128 : Int32) ||| ((xcp >>> ((6 : Int32) &&& 31)) &&& (63 : Int32))))), (Int8.toInt32 (Int32.toInt8 ((128 : Int32) ||| (xcp &&& (63 : Int32))))), (Int8.toInt32 (Int32.toInt8 xf)), (Int8.toInt32 (Int32.toInt8 xf))]) :: []) := H384.front 1 rfl
      have H387 : OL n0 h365 ((xbb, OA Z .byte [(Int8.toInt32 (Int32.toInt8 xf)), (Int8.toInt32 (Int32.toInt8 xf)), (Int8.toInt32 (Int32.toInt8 ((240 : Int32) ||| (xcp >>> ((18 : Int32) &&& 31))))), (Int8.toInt32 (Int32.toInt8 ((128 : Int32) ||| ((xcp >>> ((12 : Int32) &&& 31)) &&& (63 : Int32))))), (Int8.toInt32 (Int32.toInt8 ((128 : Int32) ||| ((xcp >>> ((6 : Int32) &&& 31)) &&& (63 : Int32))))), (Int8.toInt32 (Int32.toInt8 ((128 : Int32) ||| (xcp &&& (63 : Int32))))), (Int8.toInt32 (Int32.toInt8 xf)), (Int8.toInt32 (Int32.toInt8 xf))]) :: (xee, OA Z .int [((240 : Int32) + (xcp / (262144 : Int32))), ((128 : Int32) + ((xcp / (4096 : Int32)) % (64 : Int32))), ((128 : Int32) + ((xcp / (64 : Int32)) % (64 : Int32))), ((128 : Int32) + (xcp % (64 : Int32)))]) :: []) := H386.front 1 rfl
      refine o_callS X382 at_375 (rest := []) (c_atO l Z a0 hw [] n0 _ X382.size xbb (6 : Int32) (2 : Int32) (4 : Int32) xee xf [(Int8.toInt32 (Int32.toInt8 xf)), (Int8.toInt32 (Int32.toInt8 xf)), (Int8.toInt32 (Int32.toInt8 ((240 : Int32) ||| (xcp >>> ((18 : Int32) &&& 31))))), (Int8.toInt32 (Int32.toInt8 ((128 : Int32) ||| ((xcp >>> ((12 : Int32) &&& 31)) &&& (63 : Int32))))), (Int8.toInt32 (Int32.toInt8 ((128 : Int32) ||| ((xcp >>> ((6 : Int32) &&& 31)) &&& (63 : Int32))))), (Int8.toInt32 (Int32.toInt8 ((128 : Int32) ||| (xcp &&& (63 : Int32))))), (Int8.toInt32 (Int32.toInt8 xf)), (Int8.toInt32 (Int32.toInt8 xf))] [((240 : Int32) + (xcp / (262144 : Int32))), ((128 : Int32) + ((xcp / (4096 : Int32)) % (64 : Int32))), ((128 : Int32) + ((xcp / (64 : Int32)) % (64 : Int32))), ((128 : Int32) + (xcp % (64 : Int32)))] [] H387 6 rfl (Int8.toInt32 (Int32.toInt8 xf)) rfl (by decide) (v_fill _)) (hw _ (List.mem_of_getElem? (i := 9) rfl)) (hw _ (List.mem_of_getElem? (i := 10) rfl)) (hw _ (List.mem_of_getElem? (i := 11) rfl)) (hw _ (List.mem_of_getElem? (i := 12) rfl)) (by decide) 0 (by decide) (by decide) rfl [(.ref xbb), (.int (6 : Int32)), (.int (2 : Int32)), (.int (4 : Int32)), (.ref xee), (.int xf)] rfl pd_2 rfl rfl (Nat.le_of_eq rfl) 2 12 rfl rfl (by decide) (by decide) 378 rfl ?_
      rintro _ T385 _ X385 ⟨rfl, rfl⟩
      show OE p e room_1 below s n0 Q' T385 (mkF m 378 #[.val (.int xc), .val (.int xi), .val (.int xf), .val (.int xcp), .val (.int (2 : Int32)), .val (.int (Int8.toInt32 (Int32.toInt8 xf))), .val (.ref xbb), .val (.ref xee), .val (.int (4 : Int32)), .val (.int (6 : Int32))] [(.int (1 : Int32))])
      refine o_ifEq X385 at_378 402 381 (by decide) (by decide) rfl (fun q => by exfalso; exact absurd q (by decide)) ?_
      intro hc378
      refine o_aload X385 at_381 rfl rfl 383 rfl ?_
      refine o_bipush (v := (7 : Int32)) X385 at_383 rfl 385 rfl ?_
      refine o_iload X385 at_385 rfl 387 rfl ?_
      refine o_iload X385 at_387 rfl 389 rfl ?_
      refine o_aload X385 at_389 rfl rfl 391 rfl ?_
      refine o_iloadN X385 at_391 rfl 392 rfl ?_
      have H389 : OL n0 h365 ((xee, OA Z .int [((240 : Int32) + (xcp / (262144 : Int32))), ((128 : Int32) + ((xcp / (4096 : Int32)) % (64 : Int32))), ((128 : Int32) + ((xcp / (64 : Int32)) % (64 : Int32))), ((128 : Int32) + (xcp % (64 : Int32)))]) :: (xbb, OA Z .byte [(Int8.toInt32 (Int32.toInt8 xf)), (Int8.toInt32 (Int32.toInt8 xf)), (Int8.toInt32 (Int32.toInt8 ((240 : Int32) ||| (xcp >>> ((18 : Int32) &&& 31))))), (Int8.toInt32 (Int32.toInt8 ((128 : Int32) ||| ((xcp >>> ((12 : Int32) &&& 31)) &&& (63 : Int32))))), (Int8.toInt32 (Int32.toInt8 ((128 : Int32) ||| ((xcp >>> ((6 : Int32) &&& 31)) &&& (63 : Int32))))), (Int8.toInt32 (Int32.toInt8 ((128 : Int32) ||| (xcp &&& (63 : Int32))))), (Int8.toInt32 (Int32.toInt8 xf)), (Int8.toInt32 (Int32.toInt8 xf))]) :: []) := H387.front 1 rfl
      have H390 : OL n0 h365 ((xbb, OA Z .byte [(Int8.toInt32 (Int32.toInt8 xf)), (Int8.toInt32 (Int32.toInt8 xf)), (Int8.toInt32 (Int32.toInt8 ((240 : Int32) ||| (xcp >>> ((18 : Int32) &&& 31))))), (Int8.toInt32 (Int32.toInt8 ((128 : Int32) ||| ((xcp >>> ((12 : Int32) &&& 31)) &&& (63 : Int32))))), (Int8.toInt32 (Int32.toInt8 ((128 : Int32) ||| ((xcp >>> ((6 : Int32) &&& 31)) &&& (63 : Int32))))), (Int8.toInt32 (Int32.toInt8 ((128 : Int32) ||| (xcp &&& (63 : Int32))))), (Int8.toInt32 (Int32.toInt8 xf)), (Int8.toInt32 (Int32.toInt8 xf))]) :: (xee, OA Z .int [((240 : Int32) + (xcp / (262144 : Int32))), ((128 : Int32) + ((xcp / (4096 : Int32)) % (64 : Int32))), ((128 : Int32) + ((xcp / (64 : Int32)) % (64 : Int32))), ((128 : Int32) + (xcp % (64 : Int32)))]) :: []) := H389.front 1 rfl
      refine o_callS X385 at_392 (rest := []) (c_atO l Z a0 hw [] n0 _ X385.size xbb (7 : Int32) (2 : Int32) (4 : Int32) xee xf [(Int8.toInt32 (Int32.toInt8 xf)), (Int8.toInt32 (Int32.toInt8 xf)), (Int8.toInt32 (Int32.toInt8 ((240 : Int32) ||| (xcp >>> ((18 : Int32) &&& 31))))), (Int8.toInt32 (Int32.toInt8 ((128 : Int32) ||| ((xcp >>> ((12 : Int32) &&& 31)) &&& (63 : Int32))))), (Int8.toInt32 (Int32.toInt8 ((128 : Int32) ||| ((xcp >>> ((6 : Int32) &&& 31)) &&& (63 : Int32))))), (Int8.toInt32 (Int32.toInt8 ((128 : Int32) ||| (xcp &&& (63 : Int32))))), (Int8.toInt32 (Int32.toInt8 xf)), (Int8.toInt32 (Int32.toInt8 xf))] [((240 : Int32) + (xcp / (262144 : Int32))), ((128 : Int32) + ((xcp / (4096 : Int32)) % (64 : Int32))), ((128 : Int32) + ((xcp / (64 : Int32)) % (64 : Int32))), ((128 : Int32) + (xcp % (64 : Int32)))] [] H390 7 rfl (Int8.toInt32 (Int32.toInt8 xf)) rfl (by decide) (v_fill _)) (hw _ (List.mem_of_getElem? (i := 9) rfl)) (hw _ (List.mem_of_getElem? (i := 10) rfl)) (hw _ (List.mem_of_getElem? (i := 11) rfl)) (hw _ (List.mem_of_getElem? (i := 12) rfl)) (by decide) 0 (by decide) (by decide) rfl [(.ref xbb), (.int (7 : Int32)), (.int (2 : Int32)), (.int (4 : Int32)), (.ref xee), (.int xf)] rfl pd_2 rfl rfl (Nat.le_of_eq rfl) 2 12 rfl rfl (by decide) (by decide) 395 rfl ?_
      rintro _ T388 _ X388 ⟨rfl, rfl⟩
      show OE p e room_1 below s n0 Q' T388 (mkF m 395 #[.val (.int xc), .val (.int xi), .val (.int xf), .val (.int xcp), .val (.int (2 : Int32)), .val (.int (Int8.toInt32 (Int32.toInt8 xf))), .val (.ref xbb), .val (.ref xee), .val (.int (4 : Int32)), .val (.int (6 : Int32))] [(.int (1 : Int32))])
      refine o_ifEq X388 at_395 402 398 (by decide) (by decide) rfl (fun q => by exfalso; exact absurd q (by decide)) ?_
      intro hc395
      refine o_iconst (v := (1 : Int32)) X388 at_398 rfl 399 rfl ?_
      refine o_goto X388 at_399 403 (by decide) (by decide) ?_
      exact o_retZ X388 at_403 (by decide) (by decide) (hQ _ _ rfl)
    · skip
      refine o_iloadN X_J248 at_248 rfl 249 rfl ?_
      refine o_aload X_J248 at_249 rfl rfl 251 rfl ?_
      refine o_iload X_J248 at_251 rfl 253 rfl ?_
      have H392 : OL n0 h ((xbb, OA Z .byte [(Int8.toInt32 (Int32.toInt8 xf)), (Int8.toInt32 (Int32.toInt8 xf)), (Int8.toInt32 (Int32.toInt8 xf)), (Int8.toInt32 (Int32.toInt8 xf)), (Int8.toInt32 (Int32.toInt8 xf)), (Int8.toInt32 (Int32.toInt8 xf)), (Int8.toInt32 (Int32.toInt8 xf)), (Int8.toInt32 (Int32.toInt8 xf))]) :: (xee, OA Z .int [((240 : Int32) + (xcp / (262144 : Int32))), ((128 : Int32) + ((xcp / (4096 : Int32)) % (64 : Int32))), ((128 : Int32) + ((xcp / (64 : Int32)) % (64 : Int32))), ((128 : Int32) + (xcp % (64 : Int32)))]) :: []) := H_J248.front 1 rfl
      refine o_callS X_J248 at_253 (rest := []) (c_enc4 l Z a0 hw [] n0 _ X_J248.size xcp xbb (3 : Int32) [(Int8.toInt32 (Int32.toInt8 xf)), (Int8.toInt32 (Int32.toInt8 xf)), (Int8.toInt32 (Int32.toInt8 xf)), (Int8.toInt32 (Int32.toInt8 xf)), (Int8.toInt32 (Int32.toInt8 xf)), (Int8.toInt32 (Int32.toInt8 xf)), (Int8.toInt32 (Int32.toInt8 xf)), (Int8.toInt32 (Int32.toInt8 xf))] ((xee, OA Z .int [((240 : Int32) + (xcp / (262144 : Int32))), ((128 : Int32) + ((xcp / (4096 : Int32)) % (64 : Int32))), ((128 : Int32) + ((xcp / (64 : Int32)) % (64 : Int32))), ((128 : Int32) + (xcp % (64 : Int32)))]) :: []) H392 3 rfl (by show 7 ≤ 8; decide) (by decide) hlo hhi) (hw _ (List.mem_of_getElem? (i := 5) rfl)) (hw _ (List.mem_of_getElem? (i := 6) rfl)) (hw _ (List.mem_of_getElem? (i := 7) rfl)) (hw _ (List.mem_of_getElem? (i := 8) rfl)) (by decide) 0 (by decide) (by decide) rfl [(.int xcp), (.ref xbb), (.int (3 : Int32))] rfl pd_1 rfl rfl (Nat.le_of_eq rfl) 2 12 rfl rfl (by decide) (by decide) 256 rfl ?_
      rintro _ T391 h391 X391 ⟨rfl, H391⟩
      replace H391 : OL n0 h391 ((xbb, OA Z .byte [(Int8.toInt32 (Int32.toInt8 xf)), (Int8.toInt32 (Int32.toInt8 xf)), (Int8.toInt32 (Int32.toInt8 xf)), (Int8.toInt32 (Int32.toInt8 ((240 : Int32) ||| (xcp >>> ((18 : Int32) &&& 31))))), (Int8.toInt32 (Int32.toInt8 ((128 : Int32) ||| ((xcp >>> ((12 : Int32) &&& 31)) &&& (63 : Int32))))), (Int8.toInt32 (Int32.toInt8 ((128 : Int32) ||| ((xcp >>> ((6 : Int32) &&& 31)) &&& (63 : Int32))))), (Int8.toInt32 (Int32.toInt8 ((128 : Int32) ||| (xcp &&& (63 : Int32))))), (Int8.toInt32 (Int32.toInt8 xf))]) :: (xee, OA Z .int [((240 : Int32) + (xcp / (262144 : Int32))), ((128 : Int32) + ((xcp / (4096 : Int32)) % (64 : Int32))), ((128 : Int32) + ((xcp / (64 : Int32)) % (64 : Int32))), ((128 : Int32) + (xcp % (64 : Int32)))]) :: []) := H391
      show OE p e room_1 below s n0 Q' T391 (mkF m 256 #[.val (.int xc), .val (.int xi), .val (.int xf), .val (.int xcp), .val (.int (3 : Int32)), .val (.int (Int8.toInt32 (Int32.toInt8 xf))), .val (.ref xbb), .val (.ref xee), .val (.int (4 : Int32)), .unset] [(.int (((((3 : Int32) + (1 : Int32)) + (1 : Int32)) + (1 : Int32)) + (1 : Int32)))])
      refine o_istore X391 at_256 #[.val (.int xc), .val (.int xi), .val (.int xf), .val (.int xcp), .val (.int (3 : Int32)), .val (.int (Int8.toInt32 (Int32.toInt8 xf))), .val (.ref xbb), .val (.ref xee), .val (.int (4 : Int32)), .val (.int (((((3 : Int32) + (1 : Int32)) + (1 : Int32)) + (1 : Int32)) + (1 : Int32)))] rfl 258 rfl ?_
      rw [show (((((3 : Int32) + (1 : Int32)) + (1 : Int32)) + (1 : Int32)) + (1 : Int32)) = (7 : Int32) from rfl]
      refine o_iload X391 at_258 rfl 260 rfl ?_
      refine o_iload X391 at_260 rfl 262 rfl ?_
      refine o_iload X391 at_262 rfl 264 rfl ?_
      refine o_iadd X391 at_264 265 rfl ?_
      refine o_icmpNe X391 at_265 402 268 (by decide) (by decide) rfl (fun q => by exfalso; exact q rfl) ?_
      intro hc265
      refine o_aload X391 at_268 rfl rfl 270 rfl ?_
      refine o_iconst (v := (0 : Int32)) X391 at_270 rfl 271 rfl ?_
      refine o_iload X391 at_271 rfl 273 rfl ?_
      refine o_iload X391 at_273 rfl 275 rfl ?_
      refine o_aload X391 at_275 rfl rfl 277 rfl ?_
      refine o_iloadN X391 at_277 rfl 278 rfl ?_
      have H394 : OL n0 h391 ((xee, OA Z .int [((240 : Int32) + (xcp / (262144 : Int32))), ((128 : Int32) + ((xcp / (4096 : Int32)) % (64 : Int32))), ((128 : Int32) + ((xcp / (64 : Int32)) % (64 : Int32))), ((128 : Int32) + (xcp % (64 : Int32)))]) :: (xbb, OA Z .byte [(Int8.toInt32 (Int32.toInt8 xf)), (Int8.toInt32 (Int32.toInt8 xf)), (Int8.toInt32 (Int32.toInt8 xf)), (Int8.toInt32 (Int32.toInt8 ((240 : Int32) ||| (xcp >>> ((18 : Int32) &&& 31))))), (Int8.toInt32 (Int32.toInt8 ((128 : Int32) ||| ((xcp >>> ((12 : Int32) &&& 31)) &&& (63 : Int32))))), (Int8.toInt32 (Int32.toInt8 ((128 : Int32) ||| ((xcp >>> ((6 : Int32) &&& 31)) &&& (63 : Int32))))), (Int8.toInt32 (Int32.toInt8 ((128 : Int32) ||| (xcp &&& (63 : Int32))))), (Int8.toInt32 (Int32.toInt8 xf))]) :: []) := H391.front 1 rfl
      have H395 : OL n0 h391 ((xbb, OA Z .byte [(Int8.toInt32 (Int32.toInt8 xf)), (Int8.toInt32 (Int32.toInt8 xf)), (Int8.toInt32 (Int32.toInt8 xf)), (Int8.toInt32 (Int32.toInt8 ((240 : Int32) ||| (xcp >>> ((18 : Int32) &&& 31))))), (Int8.toInt32 (Int32.toInt8 ((128 : Int32) ||| ((xcp >>> ((12 : Int32) &&& 31)) &&& (63 : Int32))))), (Int8.toInt32 (Int32.toInt8 ((128 : Int32) ||| ((xcp >>> ((6 : Int32) &&& 31)) &&& (63 : Int32))))), (Int8.toInt32 (Int32.toInt8 ((128 : Int32) ||| (xcp &&& (63 : Int32))))), (Int8.toInt32 (Int32.toInt8 xf))]) :: (xee, OA Z .int [((240 : Int32) + (xcp / (262144 : Int32))), ((128 : Int32) + ((xcp / (4096 : Int32)) % (64 : Int32))), ((128 : Int32) + ((xcp / (64 : Int32)) % (64 : Int32))), ((128 : Int32) + (xcp % (64 : Int32)))]) :: []) := H394.front 1 rfl
      refine o_callS X391 at_278 (rest := []) (c_atO l Z a0 hw [] n0 _ X391.size xbb (0 : Int32) (3 : Int32) (4 : Int32) xee xf [(Int8.toInt32 (Int32.toInt8 xf)), (Int8.toInt32 (Int32.toInt8 xf)), (Int8.toInt32 (Int32.toInt8 xf)), (Int8.toInt32 (Int32.toInt8 ((240 : Int32) ||| (xcp >>> ((18 : Int32) &&& 31))))), (Int8.toInt32 (Int32.toInt8 ((128 : Int32) ||| ((xcp >>> ((12 : Int32) &&& 31)) &&& (63 : Int32))))), (Int8.toInt32 (Int32.toInt8 ((128 : Int32) ||| ((xcp >>> ((6 : Int32) &&& 31)) &&& (63 : Int32))))), (Int8.toInt32 (Int32.toInt8 ((128 : Int32) ||| (xcp &&& (63 : Int32))))), (Int8.toInt32 (Int32.toInt8 xf))] [((240 : Int32) + (xcp / (262144 : Int32))), ((128 : Int32) + ((xcp / (4096 : Int32)) % (64 : Int32))), ((128 : Int32) + ((xcp / (64 : Int32)) % (64 : Int32))), ((128 : Int32) + (xcp % (64 : Int32)))] [] H395 0 rfl (Int8.toInt32 (Int32.toInt8 xf)) rfl (by decide) (v_fill _)) (hw _ (List.mem_of_getElem? (i := 9) rfl)) (hw _ (List.mem_of_getElem? (i := 10) rfl)) (hw _ (List.mem_of_getElem? (i := 11) rfl)) (hw _ (List.mem_of_getElem? (i := 12) rfl)) (by decide) 0 (by decide) (by decide) rfl [(.ref xbb), (.int (0 : Int32)), (.int (3 : Int32)), (.int (4 : Int32)), (.ref xee), (.int xf)] rfl pd_2 rfl rfl (Nat.le_of_eq rfl) 2 12 rfl rfl (by decide) (by decide) 281 rfl ?_
      rintro _ T393 _ X393 ⟨rfl, rfl⟩
      show OE p e room_1 below s n0 Q' T393 (mkF m 281 #[.val (.int xc), .val (.int xi), .val (.int xf), .val (.int xcp), .val (.int (3 : Int32)), .val (.int (Int8.toInt32 (Int32.toInt8 xf))), .val (.ref xbb), .val (.ref xee), .val (.int (4 : Int32)), .val (.int (7 : Int32))] [(.int (1 : Int32))])
      refine o_ifEq X393 at_281 402 284 (by decide) (by decide) rfl (fun q => by exfalso; exact absurd q (by decide)) ?_
      intro hc281
      refine o_aload X393 at_284 rfl rfl 286 rfl ?_
      refine o_iconst (v := (1 : Int32)) X393 at_286 rfl 287 rfl ?_
      refine o_iload X393 at_287 rfl 289 rfl ?_
      refine o_iload X393 at_289 rfl 291 rfl ?_
      refine o_aload X393 at_291 rfl rfl 293 rfl ?_
      refine o_iloadN X393 at_293 rfl 294 rfl ?_
      have H397 : OL n0 h391 ((xee, OA Z .int [((240 : Int32) + (xcp / (262144 : Int32))), ((128 : Int32) + ((xcp / (4096 : Int32)) % (64 : Int32))), ((128 : Int32) + ((xcp / (64 : Int32)) % (64 : Int32))), ((128 : Int32) + (xcp % (64 : Int32)))]) :: (xbb, OA Z .byte [(Int8.toInt32 (Int32.toInt8 xf)), (Int8.toInt32 (Int32.toInt8 xf)), (Int8.toInt32 (Int32.toInt8 xf)), (Int8.toInt32 (Int32.toInt8 ((240 : Int32) ||| (xcp >>> ((18 : Int32) &&& 31))))), (Int8.toInt32 (Int32.toInt8 ((128 : Int32) ||| ((xcp >>> ((12 : Int32) &&& 31)) &&& (63 : Int32))))), (Int8.toInt32 (Int32.toInt8 ((128 : Int32) ||| ((xcp >>> ((6 : Int32) &&& 31)) &&& (63 : Int32))))), (Int8.toInt32 (Int32.toInt8 ((128 : Int32) ||| (xcp &&& (63 : Int32))))), (Int8.toInt32 (Int32.toInt8 xf))]) :: []) := H395.front 1 rfl
      have H398 : OL n0 h391 ((xbb, OA Z .byte [(Int8.toInt32 (Int32.toInt8 xf)), (Int8.toInt32 (Int32.toInt8 xf)), (Int8.toInt32 (Int32.toInt8 xf)), (Int8.toInt32 (Int32.toInt8 ((240 : Int32) ||| (xcp >>> ((18 : Int32) &&& 31))))), (Int8.toInt32 (Int32.toInt8 ((128 : Int32) ||| ((xcp >>> ((12 : Int32) &&& 31)) &&& (63 : Int32))))), (Int8.toInt32 (Int32.toInt8 ((128 : Int32) ||| ((xcp >>> ((6 : Int32) &&& 31)) &&& (63 : Int32))))), (Int8.toInt32 (Int32.toInt8 ((128 : Int32) ||| (xcp &&& (63 : Int32))))), (Int8.toInt32 (Int32.toInt8 xf))]) :: (xee, OA Z .int [((240 : Int32) + (xcp / (262144 : Int32))), ((128 : Int32) + ((xcp / (4096 : Int32)) % (64 : Int32))), ((128 : Int32) + ((xcp / (64 : Int32)) % (64 : Int32))), ((128 : Int32) + (xcp % (64 : Int32)))]) :: []) := H397.front 1 rfl
      refine o_callS X393 at_294 (rest := []) (c_atO l Z a0 hw [] n0 _ X393.size xbb (1 : Int32) (3 : Int32) (4 : Int32) xee xf [(Int8.toInt32 (Int32.toInt8 xf)), (Int8.toInt32 (Int32.toInt8 xf)), (Int8.toInt32 (Int32.toInt8 xf)), (Int8.toInt32 (Int32.toInt8 ((240 : Int32) ||| (xcp >>> ((18 : Int32) &&& 31))))), (Int8.toInt32 (Int32.toInt8 ((128 : Int32) ||| ((xcp >>> ((12 : Int32) &&& 31)) &&& (63 : Int32))))), (Int8.toInt32 (Int32.toInt8 ((128 : Int32) ||| ((xcp >>> ((6 : Int32) &&& 31)) &&& (63 : Int32))))), (Int8.toInt32 (Int32.toInt8 ((128 : Int32) ||| (xcp &&& (63 : Int32))))), (Int8.toInt32 (Int32.toInt8 xf))] [((240 : Int32) + (xcp / (262144 : Int32))), ((128 : Int32) + ((xcp / (4096 : Int32)) % (64 : Int32))), ((128 : Int32) + ((xcp / (64 : Int32)) % (64 : Int32))), ((128 : Int32) + (xcp % (64 : Int32)))] [] H398 1 rfl (Int8.toInt32 (Int32.toInt8 xf)) rfl (by decide) (v_fill _)) (hw _ (List.mem_of_getElem? (i := 9) rfl)) (hw _ (List.mem_of_getElem? (i := 10) rfl)) (hw _ (List.mem_of_getElem? (i := 11) rfl)) (hw _ (List.mem_of_getElem? (i := 12) rfl)) (by decide) 0 (by decide) (by decide) rfl [(.ref xbb), (.int (1 : Int32)), (.int (3 : Int32)), (.int (4 : Int32)), (.ref xee), (.int xf)] rfl pd_2 rfl rfl (Nat.le_of_eq rfl) 2 12 rfl rfl (by decide) (by decide) 297 rfl ?_
      rintro _ T396 _ X396 ⟨rfl, rfl⟩
      show OE p e room_1 below s n0 Q' T396 (mkF m 297 #[.val (.int xc), .val (.int xi), .val (.int xf), .val (.int xcp), .val (.int (3 : Int32)), .val (.int (Int8.toInt32 (Int32.toInt8 xf))), .val (.ref xbb), .val (.ref xee), .val (.int (4 : Int32)), .val (.int (7 : Int32))] [(.int (1 : Int32))])
      refine o_ifEq X396 at_297 402 300 (by decide) (by decide) rfl (fun q => by exfalso; exact absurd q (by decide)) ?_
      intro hc297
      refine o_aload X396 at_300 rfl rfl 302 rfl ?_
      refine o_iconst (v := (2 : Int32)) X396 at_302 rfl 303 rfl ?_
      refine o_iload X396 at_303 rfl 305 rfl ?_
      refine o_iload X396 at_305 rfl 307 rfl ?_
      refine o_aload X396 at_307 rfl rfl 309 rfl ?_
      refine o_iloadN X396 at_309 rfl 310 rfl ?_
      have H400 : OL n0 h391 ((xee, OA Z .int [((240 : Int32) + (xcp / (262144 : Int32))), ((128 : Int32) + ((xcp / (4096 : Int32)) % (64 : Int32))), ((128 : Int32) + ((xcp / (64 : Int32)) % (64 : Int32))), ((128 : Int32) + (xcp % (64 : Int32)))]) :: (xbb, OA Z .byte [(Int8.toInt32 (Int32.toInt8 xf)), (Int8.toInt32 (Int32.toInt8 xf)), (Int8.toInt32 (Int32.toInt8 xf)), (Int8.toInt32 (Int32.toInt8 ((240 : Int32) ||| (xcp >>> ((18 : Int32) &&& 31))))), (Int8.toInt32 (Int32.toInt8 ((128 : Int32) ||| ((xcp >>> ((12 : Int32) &&& 31)) &&& (63 : Int32))))), (Int8.toInt32 (Int32.toInt8 ((128 : Int32) ||| ((xcp >>> ((6 : Int32) &&& 31)) &&& (63 : Int32))))), (Int8.toInt32 (Int32.toInt8 ((128 : Int32) ||| (xcp &&& (63 : Int32))))), (Int8.toInt32 (Int32.toInt8 xf))]) :: []) := H398.front 1 rfl
      have H401 : OL n0 h391 ((xbb, OA Z .byte [(Int8.toInt32 (Int32.toInt8 xf)), (Int8.toInt32 (Int32.toInt8 xf)), (Int8.toInt32 (Int32.toInt8 xf)), (Int8.toInt32 (Int32.toInt8 ((240 : Int32) ||| (xcp >>> ((18 : Int32) &&& 31))))), (Int8.toInt32 (Int32.toInt8 ((128 : Int32) ||| ((xcp >>> ((12 : Int32) &&& 31)) &&& (63 : Int32))))), (Int8.toInt32 (Int32.toInt8 ((128 : Int32) ||| ((xcp >>> ((6 : Int32) &&& 31)) &&& (63 : Int32))))), (Int8.toInt32 (Int32.toInt8 ((128 : Int32) ||| (xcp &&& (63 : Int32))))), (Int8.toInt32 (Int32.toInt8 xf))]) :: (xee, OA Z .int [((240 : Int32) + (xcp / (262144 : Int32))), ((128 : Int32) + ((xcp / (4096 : Int32)) % (64 : Int32))), ((128 : Int32) + ((xcp / (64 : Int32)) % (64 : Int32))), ((128 : Int32) + (xcp % (64 : Int32)))]) :: []) := H400.front 1 rfl
      refine o_callS X396 at_310 (rest := []) (c_atO l Z a0 hw [] n0 _ X396.size xbb (2 : Int32) (3 : Int32) (4 : Int32) xee xf [(Int8.toInt32 (Int32.toInt8 xf)), (Int8.toInt32 (Int32.toInt8 xf)), (Int8.toInt32 (Int32.toInt8 xf)), (Int8.toInt32 (Int32.toInt8 ((240 : Int32) ||| (xcp >>> ((18 : Int32) &&& 31))))), (Int8.toInt32 (Int32.toInt8 ((128 : Int32) ||| ((xcp >>> ((12 : Int32) &&& 31)) &&& (63 : Int32))))), (Int8.toInt32 (Int32.toInt8 ((128 : Int32) ||| ((xcp >>> ((6 : Int32) &&& 31)) &&& (63 : Int32))))), (Int8.toInt32 (Int32.toInt8 ((128 : Int32) ||| (xcp &&& (63 : Int32))))), (Int8.toInt32 (Int32.toInt8 xf))] [((240 : Int32) + (xcp / (262144 : Int32))), ((128 : Int32) + ((xcp / (4096 : Int32)) % (64 : Int32))), ((128 : Int32) + ((xcp / (64 : Int32)) % (64 : Int32))), ((128 : Int32) + (xcp % (64 : Int32)))] [] H401 2 rfl (Int8.toInt32 (Int32.toInt8 xf)) rfl (by decide) (v_fill _)) (hw _ (List.mem_of_getElem? (i := 9) rfl)) (hw _ (List.mem_of_getElem? (i := 10) rfl)) (hw _ (List.mem_of_getElem? (i := 11) rfl)) (hw _ (List.mem_of_getElem? (i := 12) rfl)) (by decide) 0 (by decide) (by decide) rfl [(.ref xbb), (.int (2 : Int32)), (.int (3 : Int32)), (.int (4 : Int32)), (.ref xee), (.int xf)] rfl pd_2 rfl rfl (Nat.le_of_eq rfl) 2 12 rfl rfl (by decide) (by decide) 313 rfl ?_
      rintro _ T399 _ X399 ⟨rfl, rfl⟩
      show OE p e room_1 below s n0 Q' T399 (mkF m 313 #[.val (.int xc), .val (.int xi), .val (.int xf), .val (.int xcp), .val (.int (3 : Int32)), .val (.int (Int8.toInt32 (Int32.toInt8 xf))), .val (.ref xbb), .val (.ref xee), .val (.int (4 : Int32)), .val (.int (7 : Int32))] [(.int (1 : Int32))])
      refine o_ifEq X399 at_313 402 316 (by decide) (by decide) rfl (fun q => by exfalso; exact absurd q (by decide)) ?_
      intro hc313
      refine o_aload X399 at_316 rfl rfl 318 rfl ?_
      refine o_iconst (v := (3 : Int32)) X399 at_318 rfl 319 rfl ?_
      refine o_iload X399 at_319 rfl 321 rfl ?_
      refine o_iload X399 at_321 rfl 323 rfl ?_
      refine o_aload X399 at_323 rfl rfl 325 rfl ?_
      refine o_iloadN X399 at_325 rfl 326 rfl ?_
      have H403 : OL n0 h391 ((xee, OA Z .int [((240 : Int32) + (xcp / (262144 : Int32))), ((128 : Int32) + ((xcp / (4096 : Int32)) % (64 : Int32))), ((128 : Int32) + ((xcp / (64 : Int32)) % (64 : Int32))), ((128 : Int32) + (xcp % (64 : Int32)))]) :: (xbb, OA Z .byte [(Int8.toInt32 (Int32.toInt8 xf)), (Int8.toInt32 (Int32.toInt8 xf)), (Int8.toInt32 (Int32.toInt8 xf)), (Int8.toInt32 (Int32.toInt8 ((240 : Int32) ||| (xcp >>> ((18 : Int32) &&& 31))))), (Int8.toInt32 (Int32.toInt8 ((128 : Int32) ||| ((xcp >>> ((12 : Int32) &&& 31)) &&& (63 : Int32))))), (Int8.toInt32 (Int32.toInt8 ((128 : Int32) ||| ((xcp >>> ((6 : Int32) &&& 31)) &&& (63 : Int32))))), (Int8.toInt32 (Int32.toInt8 ((128 : Int32) ||| (xcp &&& (63 : Int32))))), (Int8.toInt32 (Int32.toInt8 xf))]) :: []) := H401.front 1 rfl
      have H404 : OL n0 h391 ((xbb, OA Z .byte [(Int8.toInt32 (Int32.toInt8 xf)), (Int8.toInt32 (Int32.toInt8 xf)), (Int8.toInt32 (Int32.toInt8 xf)), (Int8.toInt32 (Int32.toInt8 ((240 : Int32) ||| (xcp >>> ((18 : Int32) &&& 31))))), (Int8.toInt32 (Int32.toInt8 ((128 : Int32) ||| ((xcp >>> ((12 : Int32) &&& 31)) &&& (63 : Int32))))), (Int8.toInt32 (Int32.toInt8 ((128 : Int32) ||| ((xcp >>> ((6 : Int32) &&& 31)) &&& (63 : Int32))))), (Int8.toInt32 (Int32.toInt8 ((128 : Int32) ||| (xcp &&& (63 : Int32))))), (Int8.toInt32 (Int32.toInt8 xf))]) :: (xee, OA Z .int [((240 : Int32) + (xcp / (262144 : Int32))), ((128 : Int32) + ((xcp / (4096 : Int32)) % (64 : Int32))), ((128 : Int32) + ((xcp / (64 : Int32)) % (64 : Int32))), ((128 : Int32) + (xcp % (64 : Int32)))]) :: []) := H403.front 1 rfl
      refine o_callS X399 at_326 (rest := []) (c_atI l Z a0 hw [] n0 _ X399.size xbb (3 : Int32) (3 : Int32) (4 : Int32) xee xf [(Int8.toInt32 (Int32.toInt8 xf)), (Int8.toInt32 (Int32.toInt8 xf)), (Int8.toInt32 (Int32.toInt8 xf)), (Int8.toInt32 (Int32.toInt8 ((240 : Int32) ||| (xcp >>> ((18 : Int32) &&& 31))))), (Int8.toInt32 (Int32.toInt8 ((128 : Int32) ||| ((xcp >>> ((12 : Int32) &&& 31)) &&& (63 : Int32))))), (Int8.toInt32 (Int32.toInt8 ((128 : Int32) ||| ((xcp >>> ((6 : Int32) &&& 31)) &&& (63 : Int32))))), (Int8.toInt32 (Int32.toInt8 ((128 : Int32) ||| (xcp &&& (63 : Int32))))), (Int8.toInt32 (Int32.toInt8 xf))] [((240 : Int32) + (xcp / (262144 : Int32))), ((128 : Int32) + ((xcp / (4096 : Int32)) % (64 : Int32))), ((128 : Int32) + ((xcp / (64 : Int32)) % (64 : Int32))), ((128 : Int32) + (xcp % (64 : Int32)))] [] H404 3 rfl (Int8.toInt32 (Int32.toInt8 ((240 : Int32) ||| (xcp >>> ((18 : Int32) &&& 31))))) rfl 0 rfl ((240 : Int32) + (xcp / (262144 : Int32))) rfl (by decide) (by decide) (v_e40 xcp hlo hhi)) (hw _ (List.mem_of_getElem? (i := 9) rfl)) (hw _ (List.mem_of_getElem? (i := 10) rfl)) (hw _ (List.mem_of_getElem? (i := 11) rfl)) (hw _ (List.mem_of_getElem? (i := 12) rfl)) (by decide) 0 (by decide) (by decide) rfl [(.ref xbb), (.int (3 : Int32)), (.int (3 : Int32)), (.int (4 : Int32)), (.ref xee), (.int xf)] rfl pd_2 rfl rfl (Nat.le_of_eq rfl) 2 12 rfl rfl (by decide) (by decide) 329 rfl ?_
      rintro _ T402 _ X402 ⟨rfl, rfl⟩
      show OE p e room_1 below s n0 Q' T402 (mkF m 329 #[.val (.int xc), .val (.int xi), .val (.int xf), .val (.int xcp), .val (.int (3 : Int32)), .val (.int (Int8.toInt32 (Int32.toInt8 xf))), .val (.ref xbb), .val (.ref xee), .val (.int (4 : Int32)), .val (.int (7 : Int32))] [(.int (1 : Int32))])
      refine o_ifEq X402 at_329 402 332 (by decide) (by decide) rfl (fun q => by exfalso; exact absurd q (by decide)) ?_
      intro hc329
      refine o_aload X402 at_332 rfl rfl 334 rfl ?_
      refine o_iconst (v := (4 : Int32)) X402 at_334 rfl 335 rfl ?_
      refine o_iload X402 at_335 rfl 337 rfl ?_
      refine o_iload X402 at_337 rfl 339 rfl ?_
      refine o_aload X402 at_339 rfl rfl 341 rfl ?_
      refine o_iloadN X402 at_341 rfl 342 rfl ?_
      have H406 : OL n0 h391 ((xee, OA Z .int [((240 : Int32) + (xcp / (262144 : Int32))), ((128 : Int32) + ((xcp / (4096 : Int32)) % (64 : Int32))), ((128 : Int32) + ((xcp / (64 : Int32)) % (64 : Int32))), ((128 : Int32) + (xcp % (64 : Int32)))]) :: (xbb, OA Z .byte [(Int8.toInt32 (Int32.toInt8 xf)), (Int8.toInt32 (Int32.toInt8 xf)), (Int8.toInt32 (Int32.toInt8 xf)), (Int8.toInt32 (Int32.toInt8 ((240 : Int32) ||| (xcp >>> ((18 : Int32) &&& 31))))), (Int8.toInt32 (Int32.toInt8 ((128 : Int32) ||| ((xcp >>> ((12 : Int32) &&& 31)) &&& (63 : Int32))))), (Int8.toInt32 (Int32.toInt8 ((128 : Int32) ||| ((xcp >>> ((6 : Int32) &&& 31)) &&& (63 : Int32))))), (Int8.toInt32 (Int32.toInt8 ((128 : Int32) ||| (xcp &&& (63 : Int32))))), (Int8.toInt32 (Int32.toInt8 xf))]) :: []) := H404.front 1 rfl
      have H407 : OL n0 h391 ((xbb, OA Z .byte [(Int8.toInt32 (Int32.toInt8 xf)), (Int8.toInt32 (Int32.toInt8 xf)), (Int8.toInt32 (Int32.toInt8 xf)), (Int8.toInt32 (Int32.toInt8 ((240 : Int32) ||| (xcp >>> ((18 : Int32) &&& 31))))), (Int8.toInt32 (Int32.toInt8 ((128 : Int32) ||| ((xcp >>> ((12 : Int32) &&& 31)) &&& (63 : Int32))))), (Int8.toInt32 (Int32.toInt8 ((128 : Int32) ||| ((xcp >>> ((6 : Int32) &&& 31)) &&& (63 : Int32))))), (Int8.toInt32 (Int32.toInt8 ((128 : Int32) ||| (xcp &&& (63 : Int32))))), (Int8.toInt32 (Int32.toInt8 xf))]) :: (xee, OA Z .int [((240 : Int32) + (xcp / (262144 : Int32))), ((128 : Int32) + ((xcp / (4096 : Int32)) % (64 : Int32))), ((128 : Int32) + ((xcp / (64 : Int32)) % (64 : Int32))), ((128 : Int32) + (xcp % (64 : Int32)))]) :: []) := H406.front 1 rfl
      refine o_callS X402 at_342 (rest := []) (c_atI l Z a0 hw [] n0 _ X402.size xbb (4 : Int32) (3 : Int32) (4 : Int32) xee xf [(Int8.toInt32 (Int32.toInt8 xf)), (Int8.toInt32 (Int32.toInt8 xf)), (Int8.toInt32 (Int32.toInt8 xf)), (Int8.toInt32 (Int32.toInt8 ((240 : Int32) ||| (xcp >>> ((18 : Int32) &&& 31))))), (Int8.toInt32 (Int32.toInt8 ((128 : Int32) ||| ((xcp >>> ((12 : Int32) &&& 31)) &&& (63 : Int32))))), (Int8.toInt32 (Int32.toInt8 ((128 : Int32) ||| ((xcp >>> ((6 : Int32) &&& 31)) &&& (63 : Int32))))), (Int8.toInt32 (Int32.toInt8 ((128 : Int32) ||| (xcp &&& (63 : Int32))))), (Int8.toInt32 (Int32.toInt8 xf))] [((240 : Int32) + (xcp / (262144 : Int32))), ((128 : Int32) + ((xcp / (4096 : Int32)) % (64 : Int32))), ((128 : Int32) + ((xcp / (64 : Int32)) % (64 : Int32))), ((128 : Int32) + (xcp % (64 : Int32)))] [] H407 4 rfl (Int8.toInt32 (Int32.toInt8 ((128 : Int32) ||| ((xcp >>> ((12 : Int32) &&& 31)) &&& (63 : Int32))))) rfl 1 rfl ((128 : Int32) + ((xcp / (4096 : Int32)) % (64 : Int32))) rfl (by decide) (by decide) (v_e41 xcp hlo hhi)) (hw _ (List.mem_of_getElem? (i := 9) rfl)) (hw _ (List.mem_of_getElem? (i := 10) rfl)) (hw _ (List.mem_of_getElem? (i := 11) rfl)) (hw _ (List.mem_of_getElem? (i := 12) rfl)) (by decide) 0 (by decide) (by decide) rfl [(.ref xbb), (.int (4 : Int32)), (.int (3 : Int32)), (.int (4 : Int32)), (.ref xee), (.int xf)] rfl pd_2 rfl rfl (Nat.le_of_eq rfl) 2 12 rfl rfl (by decide) (by decide) 345 rfl ?_
      rintro _ T405 _ X405 ⟨rfl, rfl⟩
      show OE p e room_1 below s n0 Q' T405 (mkF m 345 #[.val (.int xc), .val (.int xi), .val (.int xf), .val (.int xcp), .val (.int (3 : Int32)), .val (.int (Int8.toInt32 (Int32.toInt8 xf))), .val (.ref xbb), .val (.ref xee), .val (.int (4 : Int32)), .val (.int (7 : Int32))] [(.int (1 : Int32))])
      refine o_ifEq X405 at_345 402 348 (by decide) (by decide) rfl (fun q => by exfalso; exact absurd q (by decide)) ?_
      intro hc345
      refine o_aload X405 at_348 rfl rfl 350 rfl ?_
      refine o_iconst (v := (5 : Int32)) X405 at_350 rfl 351 rfl ?_
      refine o_iload X405 at_351 rfl 353 rfl ?_
      refine o_iload X405 at_353 rfl 355 rfl ?_
      refine o_aload X405 at_355 rfl rfl 357 rfl ?_
      refine o_iloadN X405 at_357 rfl 358 rfl ?_
      have H409 : OL n0 h391 ((xee, OA Z .int [((240 : Int32) + (xcp / (262144 : Int32))), ((128 : Int32) + ((xcp / (4096 : Int32)) % (64 : Int32))), ((128 : Int32) + ((xcp / (64 : Int32)) % (64 : Int32))), ((128 : Int32) + (xcp % (64 : Int32)))]) :: (xbb, OA Z .byte [(Int8.toInt32 (Int32.toInt8 xf)), (Int8.toInt32 (Int32.toInt8 xf)), (Int8.toInt32 (Int32.toInt8 xf)), (Int8.toInt32 (Int32.toInt8 ((240 : Int32) ||| (xcp >>> ((18 : Int32) &&& 31))))), (Int8.toInt32 (Int32.toInt8 ((128 : Int32) ||| ((xcp >>> ((12 : Int32) &&& 31)) &&& (63 : Int32))))), (Int8.toInt32 (Int32.toInt8 ((128 : Int32) ||| ((xcp >>> ((6 : Int32) &&& 31)) &&& (63 : Int32))))), (Int8.toInt32 (Int32.toInt8 ((128 : Int32) ||| (xcp &&& (63 : Int32))))), (Int8.toInt32 (Int32.toInt8 xf))]) :: []) := H407.front 1 rfl
      have H410 : OL n0 h391 ((xbb, OA Z .byte [(Int8.toInt32 (Int32.toInt8 xf)), (Int8.toInt32 (Int32.toInt8 xf)), (Int8.toInt32 (Int32.toInt8 xf)), (Int8.toInt32 (Int32.toInt8 ((240 : Int32) ||| (xcp >>> ((18 : Int32) &&& 31))))), (Int8.toInt32 (Int32.toInt8 ((128 : Int32) ||| ((xcp >>> ((12 : Int32) &&& 31)) &&& (63 : Int32))))), (Int8.toInt32 (Int32.toInt8 ((128 : Int32) ||| ((xcp >>> ((6 : Int32) &&& 31)) &&& (63 : Int32))))), (Int8.toInt32 (Int32.toInt8 ((128 : Int32) ||| (xcp &&& (63 : Int32))))), (Int8.toInt32 (Int32.toInt8 xf))]) :: (xee, OA Z .int [((240 : Int32) + (xcp / (262144 : Int32))), ((128 : Int32) + ((xcp / (4096 : Int32)) % (64 : Int32))), ((128 : Int32) + ((xcp / (64 : Int32)) % (64 : Int32))), ((128 : Int32) + (xcp % (64 : Int32)))]) :: []) := H409.front 1 rfl
      refine o_callS X405 at_358 (rest := []) (c_atI l Z a0 hw [] n0 _ X405.size xbb (5 : Int32) (3 : Int32) (4 : Int32) xee xf [(Int8.toInt32 (Int32.toInt8 xf)), (Int8.toInt32 (Int32.toInt8 xf)), (Int8.toInt32 (Int32.toInt8 xf)), (Int8.toInt32 (Int32.toInt8 ((240 : Int32) ||| (xcp >>> ((18 : Int32) &&& 31))))), (Int8.toInt32 (Int32.toInt8 ((128 : Int32) ||| ((xcp >>> ((12 : Int32) &&& 31)) &&& (63 : Int32))))), (Int8.toInt32 (Int32.toInt8 ((128 : Int32) ||| ((xcp >>> ((6 : Int32) &&& 31)) &&& (63 : Int32))))), (Int8.toInt32 (Int32.toInt8 ((128 : Int32) ||| (xcp &&& (63 : Int32))))), (Int8.toInt32 (Int32.toInt8 xf))] [((240 : Int32) + (xcp / (262144 : Int32))), ((128 : Int32) + ((xcp / (4096 : Int32)) % (64 : Int32))), ((128 : Int32) + ((xcp / (64 : Int32)) % (64 : Int32))), ((128 : Int32) + (xcp % (64 : Int32)))] [] H410 5 rfl (Int8.toInt32 (Int32.toInt8 ((128 : Int32) ||| ((xcp >>> ((6 : Int32) &&& 31)) &&& (63 : Int32))))) rfl 2 rfl ((128 : Int32) + ((xcp / (64 : Int32)) % (64 : Int32))) rfl (by decide) (by decide) (v_e42 xcp hlo hhi)) (hw _ (List.mem_of_getElem? (i := 9) rfl)) (hw _ (List.mem_of_getElem? (i := 10) rfl)) (hw _ (List.mem_of_getElem? (i := 11) rfl)) (hw _ (List.mem_of_getElem? (i := 12) rfl)) (by decide) 0 (by decide) (by decide) rfl [(.ref xbb), (.int (5 : Int32)), (.int (3 : Int32)), (.int (4 : Int32)), (.ref xee), (.int xf)] rfl pd_2 rfl rfl (Nat.le_of_eq rfl) 2 12 rfl rfl (by decide) (by decide) 361 rfl ?_
      rintro _ T408 _ X408 ⟨rfl, rfl⟩
      show OE p e room_1 below s n0 Q' T408 (mkF m 361 #[.val (.int xc), .val (.int xi), .val (.int xf), .val (.int xcp), .val (.int (3 : Int32)), .val (.int (Int8.toInt32 (Int32.toInt8 xf))), .val (.ref xbb), .val (.ref xee), .val (.int (4 : Int32)), .val (.int (7 : Int32))] [(.int (1 : Int32))])
      refine o_ifEq X408 at_361 402 364 (by decide) (by decide) rfl (fun q => by exfalso; exact absurd q (by decide)) ?_
      intro hc361
      refine o_aload X408 at_364 rfl rfl 366 rfl ?_
      refine o_bipush (v := (6 : Int32)) X408 at_366 rfl 368 rfl ?_
      refine o_iload X408 at_368 rfl 370 rfl ?_
      refine o_iload X408 at_370 rfl 372 rfl ?_
      refine o_aload X408 at_372 rfl rfl 374 rfl ?_
      refine o_iloadN X408 at_374 rfl 375 rfl ?_
      have H412 : OL n0 h391 ((xee, OA Z .int [((240 : Int32) + (xcp / (262144 : Int32))), ((128 : Int32) + ((xcp / (4096 : Int32)) % (64 : Int32))), ((128 : Int32) + ((xcp / (64 : Int32)) % (64 : Int32))), ((128 : Int32) + (xcp % (64 : Int32)))]) :: (xbb, OA Z .byte [(Int8.toInt32 (Int32.toInt8 xf)), (Int8.toInt32 (Int32.toInt8 xf)), (Int8.toInt32 (Int32.toInt8 xf)), (Int8.toInt32 (Int32.toInt8 ((240 : Int32) ||| (xcp >>> ((18 : Int32) &&& 31))))), (Int8.toInt32 (Int32.toInt8 ((128 : Int32) ||| ((xcp >>> ((12 : Int32) &&& 31)) &&& (63 : Int32))))), (Int8.toInt32 (Int32.toInt8 ((128 : Int32) ||| ((xcp >>> ((6 : Int32) &&& 31)) &&& (63 : Int32))))), (Int8.toInt32 (Int32.toInt8 ((128 : Int32) ||| (xcp &&& (63 : Int32))))), (Int8.toInt32 (Int32.toInt8 xf))]) :: []) := H410.front 1 rfl
      have H413 : OL n0 h391 ((xbb, OA Z .byte [(Int8.toInt32 (Int32.toInt8 xf)), (Int8.toInt32 (Int32.toInt8 xf)), (Int8.toInt32 (Int32.toInt8 xf)), (Int8.toInt32 (Int32.toInt8 ((240 : Int32) ||| (xcp >>> ((18 : Int32) &&& 31))))), (Int8.toInt32 (Int32.toInt8 ((128 : Int32) ||| ((xcp >>> ((12 : Int32) &&& 31)) &&& (63 : Int32))))), (Int8.toInt32 (Int32.toInt8 ((128 : Int32) ||| ((xcp >>> ((6 : Int32) &&& 31)) &&& (63 : Int32))))), (Int8.toInt32 (Int32.toInt8 ((128 : Int32) ||| (xcp &&& (63 : Int32))))), (Int8.toInt32 (Int32.toInt8 xf))]) :: (xee, OA Z .int [((240 : Int32) + (xcp / (262144 : Int32))), ((128 : Int32) + ((xcp / (4096 : Int32)) % (64 : Int32))), ((128 : Int32) + ((xcp / (64 : Int32)) % (64 : Int32))), ((128 : Int32) + (xcp % (64 : Int32)))]) :: []) := H412.front 1 rfl
      refine o_callS X408 at_375 (rest := []) (c_atI l Z a0 hw [] n0 _ X408.size xbb (6 : Int32) (3 : Int32) (4 : Int32) xee xf [(Int8.toInt32 (Int32.toInt8 xf)), (Int8.toInt32 (Int32.toInt8 xf)), (Int8.toInt32 (Int32.toInt8 xf)), (Int8.toInt32 (Int32.toInt8 ((240 : Int32) ||| (xcp >>> ((18 : Int32) &&& 31))))), (Int8.toInt32 (Int32.toInt8 ((128 : Int32) ||| ((xcp >>> ((12 : Int32) &&& 31)) &&& (63 : Int32))))), (Int8.toInt32 (Int32.toInt8 ((128 : Int32) ||| ((xcp >>> ((6 : Int32) &&& 31)) &&& (63 : Int32))))), (Int8.toInt32 (Int32.toInt8 ((128 : Int32) ||| (xcp &&& (63 : Int32))))), (Int8.toInt32 (Int32.toInt8 xf))] [((240 : Int32) + (xcp / (262144 : Int32))), ((128 : Int32) + ((xcp / (4096 : Int32)) % (64 : Int32))), ((128 : Int32) + ((xcp / (64 : Int32)) % (64 : Int32))), ((128 : Int32) + (xcp % (64 : Int32)))] [] H413 6 rfl (Int8.toInt32 (Int32.toInt8 ((128 : Int32) ||| (xcp &&& (63 : Int32))))) rfl 3 rfl ((128 : Int32) + (xcp % (64 : Int32))) rfl (by decide) (by decide) (v_e43 xcp hlo hhi)) (hw _ (List.mem_of_getElem? (i := 9) rfl)) (hw _ (List.mem_of_getElem? (i := 10) rfl)) (hw _ (List.mem_of_getElem? (i := 11) rfl)) (hw _ (List.mem_of_getElem? (i := 12) rfl)) (by decide) 0 (by decide) (by decide) rfl [(.ref xbb), (.int (6 : Int32)), (.int (3 : Int32)), (.int (4 : Int32)), (.ref xee), (.int xf)] rfl pd_2 rfl rfl (Nat.le_of_eq rfl) 2 12 rfl rfl (by decide) (by decide) 378 rfl ?_
      rintro _ T411 _ X411 ⟨rfl, rfl⟩
      show OE p e room_1 below s n0 Q' T411 (mkF m 378 #[.val (.int xc), .val (.int xi), .val (.int xf), .val (.int xcp), .val (.int (3 : Int32)), .val (.int (Int8.toInt32 (Int32.toInt8 xf))), .val (.ref xbb), .val (.ref xee), .val (.int (4 : Int32)), .val (.int (7 : Int32))] [(.int (1 : Int32))])
      refine o_ifEq X411 at_378 402 381 (by decide) (by decide) rfl (fun q => by exfalso; exact absurd q (by decide)) ?_
      intro hc378
      refine o_aload X411 at_381 rfl rfl 383 rfl ?_
      refine o_bipush (v := (7 : Int32)) X411 at_383 rfl 385 rfl ?_
      refine o_iload X411 at_385 rfl 387 rfl ?_
      refine o_iload X411 at_387 rfl 389 rfl ?_
      refine o_aload X411 at_389 rfl rfl 391 rfl ?_
      refine o_iloadN X411 at_391 rfl 392 rfl ?_
      have H415 : OL n0 h391 ((xee, OA Z .int [((240 : Int32) + (xcp / (262144 : Int32))), ((128 : Int32) + ((xcp / (4096 : Int32)) % (64 : Int32))), ((128 : Int32) + ((xcp / (64 : Int32)) % (64 : Int32))), ((128 : Int32) + (xcp % (64 : Int32)))]) :: (xbb, OA Z .byte [(Int8.toInt32 (Int32.toInt8 xf)), (Int8.toInt32 (Int32.toInt8 xf)), (Int8.toInt32 (Int32.toInt8 xf)), (Int8.toInt32 (Int32.toInt8 ((240 : Int32) ||| (xcp >>> ((18 : Int32) &&& 31))))), (Int8.toInt32 (Int32.toInt8 ((128 : Int32) ||| ((xcp >>> ((12 : Int32) &&& 31)) &&& (63 : Int32))))), (Int8.toInt32 (Int32.toInt8 ((128 : Int32) ||| ((xcp >>> ((6 : Int32) &&& 31)) &&& (63 : Int32))))), (Int8.toInt32 (Int32.toInt8 ((128 : Int32) ||| (xcp &&& (63 : Int32))))), (Int8.toInt32 (Int32.toInt8 xf))]) :: []) := H413.front 1 rfl
      have H416 : OL n0 h391 ((xbb, OA Z .byte [(Int8.toInt32 (Int32.toInt8 xf)), (Int8.toInt32 (Int32.toInt8 xf)), (Int8.toInt32 (Int32.toInt8 xf)), (Int8.toInt32 (Int32.toInt8 ((240 : Int32) ||| (xcp >>> ((18 : Int32) &&& 31))))), (Int8.toInt32 (Int32.toInt8 ((128 : Int32) ||| ((xcp >>> ((12 : Int32) &&& 31)) &&& (63 : Int32))))), (Int8.toInt32 (Int32.toInt8 ((128 : Int32) ||| ((xcp >>> ((6 : Int32) &&& 31)) &&& (63 : Int32))))), (Int8.toInt32 (Int32.toInt8 ((128 : Int32) ||| (xcp &&& (63 : Int32))))), (Int8.toInt32 (Int32.toInt8 xf))]) :: (xee, OA Z .int [((240 : Int32) + (xcp / (262144 : Int32))), ((128 : Int32) + ((xcp / (4096 : Int32)) % (64 : Int32))), ((128 : Int32) + ((xcp / (64 : Int32)) % (64 : Int32))), ((128 : Int32) + (xcp % (64 : Int32)))]) :: []) := H415.front 1 rfl
      refine o_callS X411 at_392 (rest := []) (c_atO l Z a0 hw [] n0 _ X411.size xbb (7 : Int32) (3 : Int32) (4 : Int32) xee xf [(Int8.toInt32 (Int32.toInt8 xf)), (Int8.toInt32 (Int32.toInt8 xf)), (Int8.toInt32 (Int32.toInt8 xf)), (Int8.toInt32 (Int32.toInt8 ((240 : Int32) ||| (xcp >>> ((18 : Int32) &&& 31))))), (Int8.toInt32 (Int32.toInt8 ((128 : Int32) ||| ((xcp >>> ((12 : Int32) &&& 31)) &&& (63 : Int32))))), (Int8.toInt32 (Int32.toInt8 ((128 : Int32) ||| ((xcp >>> ((6 : Int32) &&& 31)) &&& (63 : Int32))))), (Int8.toInt32 (Int32.toInt8 ((128 : Int32) ||| (xcp &&& (63 : Int32))))), (Int8.toInt32 (Int32.toInt8 xf))] [((240 : Int32) + (xcp / (262144 : Int32))), ((128 : Int32) + ((xcp / (4096 : Int32)) % (64 : Int32))), ((128 : Int32) + ((xcp / (64 : Int32)) % (64 : Int32))), ((128 : Int32) + (xcp % (64 : Int32)))] [] H416 7 rfl (Int8.toInt32 (Int32.toInt8 xf)) rfl (by decide) (v_fill _)) (hw _ (List.mem_of_getElem? (i := 9) rfl)) (hw _ (List.mem_of_getElem? (i := 10) rfl)) (hw _ (List.mem_of_getElem? (i := 11) rfl)) (hw _ (List.mem_of_getElem? (i := 12) rfl)) (by decide) 0 (by decide) (by decide) rfl [(.ref xbb), (.int (7 : Int32)), (.int (3 : Int32)), (.int (4 : Int32)), (.ref xee), (.int xf)] rfl pd_2 rfl rfl (Nat.le_of_eq rfl) 2 12 rfl rfl (by decide) (by decide) 395 rfl ?_
      rintro _ T414 _ X414 ⟨rfl, rfl⟩
      show OE p e room_1 below s n0 Q' T414 (mkF m 395 #[.val (.int xc), .val (.int xi), .val (.int xf), .val (.int xcp), .val (.int (3 : Int32)), .val (.int (Int8.toInt32 (Int32.toInt8 xf))), .val (.ref xbb), .val (.ref xee), .val (.int (4 : Int32)), .val (.int (7 : Int32))] [(.int (1 : Int32))])
      refine o_ifEq X414 at_395 402 398 (by decide) (by decide) rfl (fun q => by exfalso; exact absurd q (by decide)) ?_
      intro hc395
      refine o_iconst (v := (1 : Int32)) X414 at_398 rfl 399 rfl ?_
      refine o_goto X414 at_399 403 (by decide) (by decide) ?_
      exact o_retZ X414 at_403 (by decide) (by decide) (hQ _ _ rfl)
  refine o_iloadN X0 at_0 rfl 1 rfl ?_
  refine o_ldc (v := (2147483647 : Int32)) X0 at_1 (hw _ (List.mem_of_getElem? (i := 0) rfl)) 3 rfl ?_
  refine o_iand X0 at_3 4 rfl ?_
  refine o_ldc (v := (1114112 : Int32)) X0 at_4 (hw _ (List.mem_of_getElem? (i := 1) rfl)) 6 rfl ?_
  refine o_irem X0 at_6 (by decide) 7 rfl ?_
  refine o_istoreN X0 at_7 #[.val (.int xc), .val (.int xi), .val (.int xf), .val (.int ((xc &&& (2147483647 : Int32)) % (1114112 : Int32))), .unset, .unset, .unset, .unset, .unset, .unset] rfl 8 rfl ?_
  generalize hcp : ((xc &&& (2147483647 : Int32)) % (1114112 : Int32)) = xcp
  refine o_iloadN X0 at_8 rfl 9 rfl ?_
  refine o_ldc (v := (55296 : Int32)) X0 at_9 (hw _ (List.mem_of_getElem? (i := 2) rfl)) 11 rfl ?_
  refine o_icmpLt X0 at_11 22 14 (by decide) (by decide) rfl ?_ ?_
  · intro hc11
    refine o_iloadN X0 at_22 rfl 23 rfl ?_
    refine o_iconst (v := (3 : Int32)) X0 at_23 rfl 24 rfl ?_
    refine o_iand X0 at_24 25 rfl ?_
    refine o_istore X0 at_25 #[.val (.int xc), .val (.int xi), .val (.int xf), .val (.int xcp), .val (.int (xi &&& (3 : Int32))), .unset, .unset, .unset, .unset, .unset] rfl 27 rfl ?_
    refine o_iloadN X0 at_27 rfl 28 rfl ?_
    refine o_i2b X0 at_28 29 rfl ?_
    refine o_istore X0 at_29 #[.val (.int xc), .val (.int xi), .val (.int xf), .val (.int xcp), .val (.int (xi &&& (3 : Int32))), .val (.int (Int8.toInt32 (Int32.toInt8 xf))), .unset, .unset, .unset, .unset] rfl 31 rfl ?_
    refine o_bipush (v := (8 : Int32)) X0 at_31 rfl 33 rfl ?_
    refine o_newarray (L := []) X0 OL.nil at_33 (hw _ (List.mem_of_getElem? (i := 3) rfl)) rfl rfl 8 8 rfl (by decide) (by decide) 1 8 rfl rfl (by decide) (by decide) 35 rfl ?_
    intro T417 h417 b417 X417 H417
    replace H417 : OL n0 h417 ((b417, OA Z .byte [(0 : Int32), (0 : Int32), (0 : Int32), (0 : Int32), (0 : Int32), (0 : Int32), (0 : Int32), (0 : Int32)]) :: []) := H417
    refine o_dup X417 at_35 rfl 36 rfl ?_
    refine o_iconst (v := (0 : Int32)) X417 at_36 rfl 37 rfl ?_
    refine o_iload X417 at_37 rfl 39 rfl ?_
    refine o_bastoreB X417 H417 0 rfl at_39 0 rfl (by show 0 < 8; decide) (Int8.toInt32 (Int32.toInt8 xf)) (o_b8 _) 40 rfl ?_
    intro T418 h418 X418 H418
    replace H418 : OL n0 h418 ((b417, OA Z .byte [(Int8.toInt32 (Int32.toInt8 xf)), (0 : Int32), (0 : Int32), (0 : Int32), (0 : Int32), (0 : Int32), (0 : Int32), (0 : Int32)]) :: []) := H418
    refine o_dup X418 at_40 rfl 41 rfl ?_
    refine o_iconst (v := (1 : Int32)) X418 at_41 rfl 42 rfl ?_
    refine o_iload X418 at_42 rfl 44 rfl ?_
    refine o_bastoreB X418 H418 0 rfl at_44 1 rfl (by show 1 < 8; decide) (Int8.toInt32 (Int32.toInt8 xf)) (o_b8 _) 45 rfl ?_
    intro T419 h419 X419 H419
    replace H419 : OL n0 h419 ((b417, OA Z .byte [(Int8.toInt32 (Int32.toInt8 xf)), (Int8.toInt32 (Int32.toInt8 xf)), (0 : Int32), (0 : Int32), (0 : Int32), (0 : Int32), (0 : Int32), (0 : Int32)]) :: []) := H419
    refine o_dup X419 at_45 rfl 46 rfl ?_
    refine o_iconst (v := (2 : Int32)) X419 at_46 rfl 47 rfl ?_
    refine o_iload X419 at_47 rfl 49 rfl ?_
    refine o_bastoreB X419 H419 0 rfl at_49 2 rfl (by show 2 < 8; decide) (Int8.toInt32 (Int32.toInt8 xf)) (o_b8 _) 50 rfl ?_
    intro T420 h420 X420 H420
    replace H420 : OL n0 h420 ((b417, OA Z .byte [(Int8.toInt32 (Int32.toInt8 xf)), (Int8.toInt32 (Int32.toInt8 xf)), (Int8.toInt32 (Int32.toInt8 xf)), (0 : Int32), (0 : Int32), (0 : Int32), (0 : Int32), (0 : Int32)]) :: []) := H420
    refine o_dup X420 at_50 rfl 51 rfl ?_
    refine o_iconst (v := (3 : Int32)) X420 at_51 rfl 52 rfl ?_
    refine o_iload X420 at_52 rfl 54 rfl ?_
    refine o_bastoreB X420 H420 0 rfl at_54 3 rfl (by show 3 < 8; decide) (Int8.toInt32 (Int32.toInt8 xf)) (o_b8 _) 55 rfl ?_
    intro T421 h421 X421 H421
    replace H421 : OL n0 h421 ((b417, OA Z .byte [(Int8.toInt32 (Int32.toInt8 xf)), (Int8.toInt32 (Int32.toInt8 xf)), (Int8.toInt32 (Int32.toInt8 xf)), (Int8.toInt32 (Int32.toInt8 xf)), (0 : Int32), (0 : Int32), (0 : Int32), (0 : Int32)]) :: []) := H421
    refine o_dup X421 at_55 rfl 56 rfl ?_
    refine o_iconst (v := (4 : Int32)) X421 at_56 rfl 57 rfl ?_
    refine o_iload X421 at_57 rfl 59 rfl ?_
    refine o_bastoreB X421 H421 0 rfl at_59 4 rfl (by show 4 < 8; decide) (Int8.toInt32 (Int32.toInt8 xf)) (o_b8 _) 60 rfl ?_
    intro T422 h422 X422 H422
    replace H422 : OL n0 h422 ((b417, OA Z .byte [(Int8.toInt32 (Int32.toInt8 xf)), (Int8.toInt32 (Int32.toInt8 xf)), (Int8.toInt32 (Int32.toInt8 xf)), (Int8.toInt32 (Int32.toInt8 xf)), (Int8.toInt32 (Int32.toInt8 xf)), (0 : Int32), (0 : Int32), (0 : Int32)]) :: []) := H422
    refine o_dup X422 at_60 rfl 61 rfl ?_
    refine o_iconst (v := (5 : Int32)) X422 at_61 rfl 62 rfl ?_
    refine o_iload X422 at_62 rfl 64 rfl ?_
    refine o_bastoreB X422 H422 0 rfl at_64 5 rfl (by show 5 < 8; decide) (Int8.toInt32 (Int32.toInt8 xf)) (o_b8 _) 65 rfl ?_
    intro T423 h423 X423 H423
    replace H423 : OL n0 h423 ((b417, OA Z .byte [(Int8.toInt32 (Int32.toInt8 xf)), (Int8.toInt32 (Int32.toInt8 xf)), (Int8.toInt32 (Int32.toInt8 xf)), (Int8.toInt32 (Int32.toInt8 xf)), (Int8.toInt32 (Int32.toInt8 xf)), (Int8.toInt32 (Int32.toInt8 xf)), (0 : Int32), (0 : Int32)]) :: []) := H423
    refine o_dup X423 at_65 rfl 66 rfl ?_
    refine o_bipush (v := (6 : Int32)) X423 at_66 rfl 68 rfl ?_
    refine o_iload X423 at_68 rfl 70 rfl ?_
    refine o_bastoreB X423 H423 0 rfl at_70 6 rfl (by show 6 < 8; decide) (Int8.toInt32 (Int32.toInt8 xf)) (o_b8 _) 71 rfl ?_
    intro T424 h424 X424 H424
    replace H424 : OL n0 h424 ((b417, OA Z .byte [(Int8.toInt32 (Int32.toInt8 xf)), (Int8.toInt32 (Int32.toInt8 xf)), (Int8.toInt32 (Int32.toInt8 xf)), (Int8.toInt32 (Int32.toInt8 xf)), (Int8.toInt32 (Int32.toInt8 xf)), (Int8.toInt32 (Int32.toInt8 xf)), (Int8.toInt32 (Int32.toInt8 xf)), (0 : Int32)]) :: []) := H424
    refine o_dup X424 at_71 rfl 72 rfl ?_
    refine o_bipush (v := (7 : Int32)) X424 at_72 rfl 74 rfl ?_
    refine o_iload X424 at_74 rfl 76 rfl ?_
    refine o_bastoreB X424 H424 0 rfl at_76 7 rfl (by show 7 < 8; decide) (Int8.toInt32 (Int32.toInt8 xf)) (o_b8 _) 77 rfl ?_
    intro T425 h425 X425 H425
    replace H425 : OL n0 h425 ((b417, OA Z .byte [(Int8.toInt32 (Int32.toInt8 xf)), (Int8.toInt32 (Int32.toInt8 xf)), (Int8.toInt32 (Int32.toInt8 xf)), (Int8.toInt32 (Int32.toInt8 xf)), (Int8.toInt32 (Int32.toInt8 xf)), (Int8.toInt32 (Int32.toInt8 xf)), (Int8.toInt32 (Int32.toInt8 xf)), (Int8.toInt32 (Int32.toInt8 xf))]) :: []) := H425
    refine o_astore X425 at_77 rfl #[.val (.int xc), .val (.int xi), .val (.int xf), .val (.int xcp), .val (.int (xi &&& (3 : Int32))), .val (.int (Int8.toInt32 (Int32.toInt8 xf))), .val (.ref b417), .unset, .unset, .unset] rfl 79 rfl ?_
    refine o_iconst (v := (4 : Int32)) X425 at_79 rfl 80 rfl ?_
    refine o_newarray (L := ((b417, OA Z .byte [(Int8.toInt32 (Int32.toInt8 xf)), (Int8.toInt32 (Int32.toInt8 xf)), (Int8.toInt32 (Int32.toInt8 xf)), (Int8.toInt32 (Int32.toInt8 xf)), (Int8.toInt32 (Int32.toInt8 xf)), (Int8.toInt32 (Int32.toInt8 xf)), (Int8.toInt32 (Int32.toInt8 xf)), (Int8.toInt32 (Int32.toInt8 xf))]) :: [])) X425 H425 at_80 (hw _ (List.mem_of_getElem? (i := 4) rfl)) rfl rfl 4 4 rfl (by decide) (by decide) 2 12 rfl rfl (by decide) (by decide) 82 rfl ?_
    intro T426 h426 b426 X426 H426
    replace H426 : OL n0 h426 ((b426, OA Z .int [(0 : Int32), (0 : Int32), (0 : Int32), (0 : Int32)]) :: (b417, OA Z .byte [(Int8.toInt32 (Int32.toInt8 xf)), (Int8.toInt32 (Int32.toInt8 xf)), (Int8.toInt32 (Int32.toInt8 xf)), (Int8.toInt32 (Int32.toInt8 xf)), (Int8.toInt32 (Int32.toInt8 xf)), (Int8.toInt32 (Int32.toInt8 xf)), (Int8.toInt32 (Int32.toInt8 xf)), (Int8.toInt32 (Int32.toInt8 xf))]) :: []) := H426
    refine o_astore X426 at_82 rfl #[.val (.int xc), .val (.int xi), .val (.int xf), .val (.int xcp), .val (.int (xi &&& (3 : Int32))), .val (.int (Int8.toInt32 (Int32.toInt8 xf))), .val (.ref b417), .val (.ref b426), .unset, .unset] rfl 84 rfl ?_
    refine o_iloadN X426 at_84 rfl 85 rfl ?_
    refine o_bipush (v := (127 : Int32)) X426 at_85 rfl 87 rfl ?_
    refine o_icmpGt X426 at_87 101 90 (by decide) (by decide) rfl ?_ ?_
    · intro hc87
      refine o_iloadN X426 at_101 rfl 102 rfl ?_
      refine o_sipush (v := (2047 : Int32)) X426 at_102 rfl 105 rfl ?_
      refine o_icmpGt X426 at_105 138 108 (by decide) (by decide) rfl ?_ ?_
      · intro hc105
        refine o_iloadN X426 at_138 rfl 139 rfl ?_
        refine o_ldc (v := (65535 : Int32)) X426 at_139 (hw _ (List.mem_of_getElem? (i := 14) rfl)) 141 rfl ?_
        refine o_icmpGt X426 at_141 190 144 (by decide) (by decide) rfl ?_ ?_
        · intro hc141
          refine o_iconst (v := (4 : Int32)) X426 at_190 rfl 191 rfl ?_
          refine o_istore X426 at_191 #[.val (.int xc), .val (.int xi), .val (.int xf), .val (.int xcp), .val (.int (xi &&& (3 : Int32))), .val (.int (Int8.toInt32 (Int32.toInt8 xf))), .val (.ref b417), .val (.ref b426), .val (.int (4 : Int32)), .unset] rfl 193 rfl ?_
          refine o_aload X426 at_193 rfl rfl 195 rfl ?_
          refine o_iconst (v := (0 : Int32)) X426 at_195 rfl 196 rfl ?_
          refine o_sipush (v := (240 : Int32)) X426 at_196 rfl 199 rfl ?_
          refine o_iloadN X426 at_199 rfl 200 rfl ?_
          refine o_ldc (v := (262144 : Int32)) X426 at_200 (hw _ (List.mem_of_getElem? (i := 15) rfl)) 202 rfl ?_
          refine o_idiv X426 at_202 (by decide) 203 rfl ?_
          refine o_iadd X426 at_203 204 rfl ?_
          refine o_iastore X426 H426 0 rfl at_204 0 rfl (by show 0 < 4; decide) 205 rfl ?_
          intro T427 h427 X427 H427
          replace H427 : OL n0 h427 ((b426, OA Z .int [((240 : Int32) + (xcp / (262144 : Int32))), (0 : Int32), (0 : Int32), (0 : Int32)]) :: (b417, OA Z .byte [(Int8.toInt32 (Int32.toInt8 xf)), (Int8.toInt32 (Int32.toInt8 xf)), (Int8.toInt32 (Int32.toInt8 xf)), (Int8.toInt32 (Int32.toInt8 xf)), (Int8.toInt32 (Int32.toInt8 xf)), (Int8.toInt32 (Int32.toInt8 xf)), (Int8.toInt32 (Int32.toInt8 xf)), (Int8.toInt32 (Int32.toInt8 xf))]) :: []) := H427
          refine o_aload X427 at_205 rfl rfl 207 rfl ?_
          refine o_iconst (v := (1 : Int32)) X427 at_207 rfl 208 rfl ?_
          refine o_sipush (v := (128 : Int32)) X427 at_208 rfl 211 rfl ?_
          refine o_iloadN X427 at_211 rfl 212 rfl ?_
          refine o_sipush (v := (4096 : Int32)) X427 at_212 rfl 215 rfl ?_
          refine o_idiv X427 at_215 (by decide) 216 rfl ?_
          refine o_bipush (v := (64 : Int32)) X427 at_216 rfl 218 rfl ?_
          refine o_irem X427 at_218 (by decide) 219 rfl ?_
          refine o_iadd X427 at_219 220 rfl ?_
          refine o_iastore X427 H427 0 rfl at_220 1 rfl (by show 1 < 4; decide) 221 rfl ?_
          intro T428 h428 X428 H428
          replace H428 : OL n0 h428 ((b426, OA Z .int [((240 : Int32) + (xcp / (262144 : Int32))), ((128 : Int32) + ((xcp / (4096 : Int32)) % (64 : Int32))), (0 : Int32), (0 : Int32)]) :: (b417, OA Z .byte [(Int8.toInt32 (Int32.toInt8 xf)), (Int8.toInt32 (Int32.toInt8 xf)), (Int8.toInt32 (Int32.toInt8 xf)), (Int8.toInt32 (Int32.toInt8 xf)), (Int8.toInt32 (Int32.toInt8 xf)), (Int8.toInt32 (Int32.toInt8 xf)), (Int8.toInt32 (Int32.toInt8 xf)), (Int8.toInt32 (Int32.toInt8 xf))]) :: []) := H428
          refine o_aload X428 at_221 rfl rfl 223 rfl ?_
          refine o_iconst (v := (2 : Int32)) X428 at_223 rfl 224 rfl ?_
          refine o_sipush (v := (128 : Int32)) X428 at_224 rfl 227 rfl ?_
          refine o_iloadN X428 at_227 rfl 228 rfl ?_
          refine o_bipush (v := (64 : Int32)) X428 at_228 rfl 230 rfl ?_
          refine o_idiv X428 at_230 (by decide) 231 rfl ?_
          refine o_bipush (v := (64 : Int32)) X428 at_231 rfl 233 rfl ?_
          refine o_irem X428 at_233 (by decide) 234 rfl ?_
          refine o_iadd X428 at_234 235 rfl ?_
          refine o_iastore X428 H428 0 rfl at_235 2 rfl (by show 2 < 4; decide) 236 rfl ?_
          intro T429 h429 X429 H429
          replace H429 : OL n0 h429 ((b426, OA Z .int [((240 : Int32) + (xcp / (262144 : Int32))), ((128 : Int32) + ((xcp / (4096 : Int32)) % (64 : Int32))), ((128 : Int32) + ((xcp / (64 : Int32)) % (64 : Int32))), (0 : Int32)]) :: (b417, OA Z .byte [(Int8.toInt32 (Int32.toInt8 xf)), (Int8.toInt32 (Int32.toInt8 xf)), (Int8.toInt32 (Int32.toInt8 xf)), (Int8.toInt32 (Int32.toInt8 xf)), (Int8.toInt32 (Int32.toInt8 xf)), (Int8.toInt32 (Int32.toInt8 xf)), (Int8.toInt32 (Int32.toInt8 xf)), (Int8.toInt32 (Int32.toInt8 xf))]) :: []) := H429
          refine o_aload X429 at_236 rfl rfl 238 rfl ?_
          refine o_iconst (v := (3 : Int32)) X429 at_238 rfl 239 rfl ?_
          refine o_sipush (v := (128 : Int32)) X429 at_239 rfl 242 rfl ?_
          refine o_iloadN X429 at_242 rfl 243 rfl ?_
          refine o_bipush (v := (64 : Int32)) X429 at_243 rfl 245 rfl ?_
          refine o_irem X429 at_245 (by decide) 246 rfl ?_
          refine o_iadd X429 at_246 247 rfl ?_
          refine o_iastore X429 H429 0 rfl at_247 3 rfl (by show 3 < 4; decide) 248 rfl ?_
          intro T430 h430 X430 H430
          replace H430 : OL n0 h430 ((b426, OA Z .int [((240 : Int32) + (xcp / (262144 : Int32))), ((128 : Int32) + ((xcp / (4096 : Int32)) % (64 : Int32))), ((128 : Int32) + ((xcp / (64 : Int32)) % (64 : Int32))), ((128 : Int32) + (xcp % (64 : Int32)))]) :: (b417, OA Z .byte [(Int8.toInt32 (Int32.toInt8 xf)), (Int8.toInt32 (Int32.toInt8 xf)), (Int8.toInt32 (Int32.toInt8 xf)), (Int8.toInt32 (Int32.toInt8 xf)), (Int8.toInt32 (Int32.toInt8 xf)), (Int8.toInt32 (Int32.toInt8 xf)), (Int8.toInt32 (Int32.toInt8 xf)), (Int8.toInt32 (Int32.toInt8 xf))]) :: []) := H430
          refine J248 _ _ _ _ _ _ _ _ _ _ _ X430 H430 (Or.inr (Or.inr (Or.inr (⟨rfl, ?_, ?_, rfl, rfl, rfl, rfl⟩)))) (v_ix _)
          all_goals (have hb := v_cp xc; rw [hcp] at hb; simp only [Int32.lt_iff_toInt_lt, Int32.reduceToInt] at hc87 hc105 hc141; omega)
        · intro hc141
          refine o_iconst (v := (3 : Int32)) X426 at_144 rfl 145 rfl ?_
          refine o_istore X426 at_145 #[.val (.int xc), .val (.int xi), .val (.int xf), .val (.int xcp), .val (.int (xi &&& (3 : Int32))), .val (.int (Int8.toInt32 (Int32.toInt8 xf))), .val (.ref b417), .val (.ref b426), .val (.int (3 : Int32)), .unset] rfl 147 rfl ?_
          refine o_aload X426 at_147 rfl rfl 149 rfl ?_
          refine o_iconst (v := (0 : Int32)) X426 at_149 rfl 150 rfl ?_
          refine o_sipush (v := (224 : Int32)) X426 at_150 rfl 153 rfl ?_
          refine o_iloadN X426 at_153 rfl 154 rfl ?_
          refine o_sipush (v := (4096 : Int32)) X426 at_154 rfl 157 rfl ?_
          refine o_idiv X426 at_157 (by decide) 158 rfl ?_
          refine o_iadd X426 at_158 159 rfl ?_
          refine o_iastore X426 H426 0 rfl at_159 0 rfl (by show 0 < 4; decide) 160 rfl ?_
          intro T431 h431 X431 H431
          replace H431 : OL n0 h431 ((b426, OA Z .int [((224 : Int32) + (xcp / (4096 : Int32))), (0 : Int32), (0 : Int32), (0 : Int32)]) :: (b417, OA Z .byte [(Int8.toInt32 (Int32.toInt8 xf)), (Int8.toInt32 (Int32.toInt8 xf)), (Int8.toInt32 (Int32.toInt8 xf)), (Int8.toInt32 (Int32.toInt8 xf)), (Int8.toInt32 (Int32.toInt8 xf)), (Int8.toInt32 (Int32.toInt8 xf)), (Int8.toInt32 (Int32.toInt8 xf)), (Int8.toInt32 (Int32.toInt8 xf))]) :: []) := H431
          refine o_aload X431 at_160 rfl rfl 162 rfl ?_
          refine o_iconst (v := (1 : Int32)) X431 at_162 rfl 163 rfl ?_
          refine o_sipush (v := (128 : Int32)) X431 at_163 rfl 166 rfl ?_
          refine o_iloadN X431 at_166 rfl 167 rfl ?_
          refine o_bipush (v := (64 : Int32)) X431 at_167 rfl 169 rfl ?_
          refine o_idiv X431 at_169 (by decide) 170 rfl ?_
          refine o_bipush (v := (64 : Int32)) X431 at_170 rfl 172 rfl ?_
          refine o_irem X431 at_172 (by decide) 173 rfl ?_
          refine o_iadd X431 at_173 174 rfl ?_
          refine o_iastore X431 H431 0 rfl at_174 1 rfl (by show 1 < 4; decide) 175 rfl ?_
          intro T432 h432 X432 H432
          replace H432 : OL n0 h432 ((b426, OA Z .int [((224 : Int32) + (xcp / (4096 : Int32))), ((128 : Int32) + ((xcp / (64 : Int32)) % (64 : Int32))), (0 : Int32), (0 : Int32)]) :: (b417, OA Z .byte [(Int8.toInt32 (Int32.toInt8 xf)), (Int8.toInt32 (Int32.toInt8 xf)), (Int8.toInt32 (Int32.toInt8 xf)), (Int8.toInt32 (Int32.toInt8 xf)), (Int8.toInt32 (Int32.toInt8 xf)), (Int8.toInt32 (Int32.toInt8 xf)), (Int8.toInt32 (Int32.toInt8 xf)), (Int8.toInt32 (Int32.toInt8 xf))]) :: []) := H432
          refine o_aload X432 at_175 rfl rfl 177 rfl ?_
          refine o_iconst (v := (2 : Int32)) X432 at_177 rfl 178 rfl ?_
          refine o_sipush (v := (128 : Int32)) X432 at_178 rfl 181 rfl ?_
          refine o_iloadN X432 at_181 rfl 182 rfl ?_
          refine o_bipush (v := (64 : Int32)) X432 at_182 rfl 184 rfl ?_
          refine o_irem X432 at_184 (by decide) 185 rfl ?_
          refine o_iadd X432 at_185 186 rfl ?_
          refine o_iastore X432 H432 0 rfl at_186 2 rfl (by show 2 < 4; decide) 187 rfl ?_
          intro T433 h433 X433 H433
          replace H433 : OL n0 h433 ((b426, OA Z .int [((224 : Int32) + (xcp / (4096 : Int32))), ((128 : Int32) + ((xcp / (64 : Int32)) % (64 : Int32))), ((128 : Int32) + (xcp % (64 : Int32))), (0 : Int32)]) :: (b417, OA Z .byte [(Int8.toInt32 (Int32.toInt8 xf)), (Int8.toInt32 (Int32.toInt8 xf)), (Int8.toInt32 (Int32.toInt8 xf)), (Int8.toInt32 (Int32.toInt8 xf)), (Int8.toInt32 (Int32.toInt8 xf)), (Int8.toInt32 (Int32.toInt8 xf)), (Int8.toInt32 (Int32.toInt8 xf)), (Int8.toInt32 (Int32.toInt8 xf))]) :: []) := H433
          refine o_goto X433 at_187 248 (by decide) (by decide) ?_
          refine J248 _ _ _ _ _ _ _ _ _ _ _ X433 H433 (Or.inr (Or.inr (Or.inl ⟨rfl, ?_, ?_, rfl, rfl, rfl⟩))) (v_ix _)
          all_goals (have hb := v_cp xc; rw [hcp] at hb; simp only [Int32.lt_iff_toInt_lt, Int32.reduceToInt] at hc87 hc105 hc141; omega)
      · intro hc105
        refine o_iconst (v := (2 : Int32)) X426 at_108 rfl 109 rfl ?_
        refine o_istore X426 at_109 #[.val (.int xc), .val (.int xi), .val (.int xf), .val (.int xcp), .val (.int (xi &&& (3 : Int32))), .val (.int (Int8.toInt32 (Int32.toInt8 xf))), .val (.ref b417), .val (.ref b426), .val (.int (2 : Int32)), .unset] rfl 111 rfl ?_
        refine o_aload X426 at_111 rfl rfl 113 rfl ?_
        refine o_iconst (v := (0 : Int32)) X426 at_113 rfl 114 rfl ?_
        refine o_sipush (v := (192 : Int32)) X426 at_114 rfl 117 rfl ?_
        refine o_iloadN X426 at_117 rfl 118 rfl ?_
        refine o_bipush (v := (64 : Int32)) X426 at_118 rfl 120 rfl ?_
        refine o_idiv X426 at_120 (by decide) 121 rfl ?_
        refine o_iadd X426 at_121 122 rfl ?_
        refine o_iastore X426 H426 0 rfl at_122 0 rfl (by show 0 < 4; decide) 123 rfl ?_
        intro T434 h434 X434 H434
        replace H434 : OL n0 h434 ((b426, OA Z .int [((192 : Int32) + (xcp / (64 : Int32))), (0 : Int32), (0 : Int32), (0 : Int32)]) :: (b417, OA Z .byte [(Int8.toInt32 (Int32.toInt8 xf)), (Int8.toInt32 (Int32.toInt8 xf)), (Int8.toInt32 (Int32.toInt8 xf)), (Int8.toInt32 (Int32.toInt8 xf)), (Int8.toInt32 (Int32.toInt8 xf)), (Int8.toInt32 (Int32.toInt8 xf)), (Int8.toInt32 (Int32.toInt8 xf)), (Int8.toInt32 (Int32.toInt8 xf))]) :: []) := H434
        refine o_aload X434 at_123 rfl rfl 125 rfl ?_
        refine o_iconst (v := (1 : Int32)) X434 at_125 rfl 126 rfl ?_
        refine o_sipush (v := (128 : Int32)) X434 at_126 rfl 129 rfl ?_
        refine o_iloadN X434 at_129 rfl 130 rfl ?_
        refine o_bipush (v := (64 : Int32)) X434 at_130 rfl 132 rfl ?_
        refine o_irem X434 at_132 (by decide) 133 rfl ?_
        refine o_iadd X434 at_133 134 rfl ?_
        refine o_iastore X434 H434 0 rfl at_134 1 rfl (by show 1 < 4; decide) 135 rfl ?_
        intro T435 h435 X435 H435
        replace H435 : OL n0 h435 ((b426, OA Z .int [((192 : Int32) + (xcp / (64 : Int32))), ((128 : Int32) + (xcp % (64 : Int32))), (0 : Int32), (0 : Int32)]) :: (b417, OA Z .byte [(Int8.toInt32 (Int32.toInt8 xf)), (Int8.toInt32 (Int32.toInt8 xf)), (Int8.toInt32 (Int32.toInt8 xf)), (Int8.toInt32 (Int32.toInt8 xf)), (Int8.toInt32 (Int32.toInt8 xf)), (Int8.toInt32 (Int32.toInt8 xf)), (Int8.toInt32 (Int32.toInt8 xf)), (Int8.toInt32 (Int32.toInt8 xf))]) :: []) := H435
        refine o_goto X435 at_135 248 (by decide) (by decide) ?_
        refine J248 _ _ _ _ _ _ _ _ _ _ _ X435 H435 (Or.inr (Or.inl ⟨rfl, ?_, ?_, rfl, rfl⟩)) (v_ix _)
        all_goals (have hb := v_cp xc; rw [hcp] at hb; simp only [Int32.lt_iff_toInt_lt, Int32.reduceToInt] at hc87 hc105; omega)
    · intro hc87
      refine o_iconst (v := (1 : Int32)) X426 at_90 rfl 91 rfl ?_
      refine o_istore X426 at_91 #[.val (.int xc), .val (.int xi), .val (.int xf), .val (.int xcp), .val (.int (xi &&& (3 : Int32))), .val (.int (Int8.toInt32 (Int32.toInt8 xf))), .val (.ref b417), .val (.ref b426), .val (.int (1 : Int32)), .unset] rfl 93 rfl ?_
      refine o_aload X426 at_93 rfl rfl 95 rfl ?_
      refine o_iconst (v := (0 : Int32)) X426 at_95 rfl 96 rfl ?_
      refine o_iloadN X426 at_96 rfl 97 rfl ?_
      refine o_iastore X426 H426 0 rfl at_97 0 rfl (by show 0 < 4; decide) 98 rfl ?_
      intro T436 h436 X436 H436
      replace H436 : OL n0 h436 ((b426, OA Z .int [xcp, (0 : Int32), (0 : Int32), (0 : Int32)]) :: (b417, OA Z .byte [(Int8.toInt32 (Int32.toInt8 xf)), (Int8.toInt32 (Int32.toInt8 xf)), (Int8.toInt32 (Int32.toInt8 xf)), (Int8.toInt32 (Int32.toInt8 xf)), (Int8.toInt32 (Int32.toInt8 xf)), (Int8.toInt32 (Int32.toInt8 xf)), (Int8.toInt32 (Int32.toInt8 xf)), (Int8.toInt32 (Int32.toInt8 xf))]) :: []) := H436
      refine o_goto X436 at_98 248 (by decide) (by decide) ?_
      refine J248 _ _ _ _ _ _ _ _ _ _ _ X436 H436 (Or.inl ⟨rfl, ?_, ?_, rfl⟩) (v_ix _)
      all_goals (have hb := v_cp xc; rw [hcp] at hb; simp only [Int32.lt_iff_toInt_lt, Int32.reduceToInt] at hc87; omega)
  · intro hc11
    refine o_iloadN X0 at_14 rfl 15 rfl ?_
    refine o_ldc (v := (57343 : Int32)) X0 at_15 (hw _ (List.mem_of_getElem? (i := 13) rfl)) 17 rfl ?_
    refine o_icmpGt X0 at_17 22 20 (by decide) (by decide) rfl ?_ ?_
    · intro hc17
      refine o_iloadN X0 at_22 rfl 23 rfl ?_
      refine o_iconst (v := (3 : Int32)) X0 at_23 rfl 24 rfl ?_
      refine o_iand X0 at_24 25 rfl ?_
      refine o_istore X0 at_25 #[.val (.int xc), .val (.int xi), .val (.int xf), .val (.int xcp), .val (.int (xi &&& (3 : Int32))), .unset, .unset, .unset, .unset, .unset] rfl 27 rfl ?_
      refine o_iloadN X0 at_27 rfl 28 rfl ?_
      refine o_i2b X0 at_28 29 rfl ?_
      refine o_istore X0 at_29 #[.val (.int xc), .val (.int xi), .val (.int xf), .val (.int xcp), .val (.int (xi &&& (3 : Int32))), .val (.int (Int8.toInt32 (Int32.toInt8 xf))), .unset, .unset, .unset, .unset] rfl 31 rfl ?_
      refine o_bipush (v := (8 : Int32)) X0 at_31 rfl 33 rfl ?_
      refine o_newarray (L := []) X0 OL.nil at_33 (hw _ (List.mem_of_getElem? (i := 3) rfl)) rfl rfl 8 8 rfl (by decide) (by decide) 1 8 rfl rfl (by decide) (by decide) 35 rfl ?_
      intro T437 h437 b437 X437 H437
      replace H437 : OL n0 h437 ((b437, OA Z .byte [(0 : Int32), (0 : Int32), (0 : Int32), (0 : Int32), (0 : Int32), (0 : Int32), (0 : Int32), (0 : Int32)]) :: []) := H437
      refine o_dup X437 at_35 rfl 36 rfl ?_
      refine o_iconst (v := (0 : Int32)) X437 at_36 rfl 37 rfl ?_
      refine o_iload X437 at_37 rfl 39 rfl ?_
      refine o_bastoreB X437 H437 0 rfl at_39 0 rfl (by show 0 < 8; decide) (Int8.toInt32 (Int32.toInt8 xf)) (o_b8 _) 40 rfl ?_
      intro T438 h438 X438 H438
      replace H438 : OL n0 h438 ((b437, OA Z .byte [(Int8.toInt32 (Int32.toInt8 xf)), (0 : Int32), (0 : Int32), (0 : Int32), (0 : Int32), (0 : Int32), (0 : Int32), (0 : Int32)]) :: []) := H438
      refine o_dup X438 at_40 rfl 41 rfl ?_
      refine o_iconst (v := (1 : Int32)) X438 at_41 rfl 42 rfl ?_
      refine o_iload X438 at_42 rfl 44 rfl ?_
      refine o_bastoreB X438 H438 0 rfl at_44 1 rfl (by show 1 < 8; decide) (Int8.toInt32 (Int32.toInt8 xf)) (o_b8 _) 45 rfl ?_
      intro T439 h439 X439 H439
      replace H439 : OL n0 h439 ((b437, OA Z .byte [(Int8.toInt32 (Int32.toInt8 xf)), (Int8.toInt32 (Int32.toInt8 xf)), (0 : Int32), (0 : Int32), (0 : Int32), (0 : Int32), (0 : Int32), (0 : Int32)]) :: []) := H439
      refine o_dup X439 at_45 rfl 46 rfl ?_
      refine o_iconst (v := (2 : Int32)) X439 at_46 rfl 47 rfl ?_
      refine o_iload X439 at_47 rfl 49 rfl ?_
      refine o_bastoreB X439 H439 0 rfl at_49 2 rfl (by show 2 < 8; decide) (Int8.toInt32 (Int32.toInt8 xf)) (o_b8 _) 50 rfl ?_
      intro T440 h440 X440 H440
      replace H440 : OL n0 h440 ((b437, OA Z .byte [(Int8.toInt32 (Int32.toInt8 xf)), (Int8.toInt32 (Int32.toInt8 xf)), (Int8.toInt32 (Int32.toInt8 xf)), (0 : Int32), (0 : Int32), (0 : Int32), (0 : Int32), (0 : Int32)]) :: []) := H440
      refine o_dup X440 at_50 rfl 51 rfl ?_
      refine o_iconst (v := (3 : Int32)) X440 at_51 rfl 52 rfl ?_
      refine o_iload X440 at_52 rfl 54 rfl ?_
      refine o_bastoreB X440 H440 0 rfl at_54 3 rfl (by show 3 < 8; decide) (Int8.toInt32 (Int32.toInt8 xf)) (o_b8 _) 55 rfl ?_
      intro T441 h441 X441 H441
      replace H441 : OL n0 h441 ((b437, OA Z .byte [(Int8.toInt32 (Int32.toInt8 xf)), (Int8.toInt32 (Int32.toInt8 xf)), (Int8.toInt32 (Int32.toInt8 xf)), (Int8.toInt32 (Int32.toInt8 xf)), (0 : Int32), (0 : Int32), (0 : Int32), (0 : Int32)]) :: []) := H441
      refine o_dup X441 at_55 rfl 56 rfl ?_
      refine o_iconst (v := (4 : Int32)) X441 at_56 rfl 57 rfl ?_
      refine o_iload X441 at_57 rfl 59 rfl ?_
      refine o_bastoreB X441 H441 0 rfl at_59 4 rfl (by show 4 < 8; decide) (Int8.toInt32 (Int32.toInt8 xf)) (o_b8 _) 60 rfl ?_
      intro T442 h442 X442 H442
      replace H442 : OL n0 h442 ((b437, OA Z .byte [(Int8.toInt32 (Int32.toInt8 xf)), (Int8.toInt32 (Int32.toInt8 xf)), (Int8.toInt32 (Int32.toInt8 xf)), (Int8.toInt32 (Int32.toInt8 xf)), (Int8.toInt32 (Int32.toInt8 xf)), (0 : Int32), (0 : Int32), (0 : Int32)]) :: []) := H442
      refine o_dup X442 at_60 rfl 61 rfl ?_
      refine o_iconst (v := (5 : Int32)) X442 at_61 rfl 62 rfl ?_
      refine o_iload X442 at_62 rfl 64 rfl ?_
      refine o_bastoreB X442 H442 0 rfl at_64 5 rfl (by show 5 < 8; decide) (Int8.toInt32 (Int32.toInt8 xf)) (o_b8 _) 65 rfl ?_
      intro T443 h443 X443 H443
      replace H443 : OL n0 h443 ((b437, OA Z .byte [(Int8.toInt32 (Int32.toInt8 xf)), (Int8.toInt32 (Int32.toInt8 xf)), (Int8.toInt32 (Int32.toInt8 xf)), (Int8.toInt32 (Int32.toInt8 xf)), (Int8.toInt32 (Int32.toInt8 xf)), (Int8.toInt32 (Int32.toInt8 xf)), (0 : Int32), (0 : Int32)]) :: []) := H443
      refine o_dup X443 at_65 rfl 66 rfl ?_
      refine o_bipush (v := (6 : Int32)) X443 at_66 rfl 68 rfl ?_
      refine o_iload X443 at_68 rfl 70 rfl ?_
      refine o_bastoreB X443 H443 0 rfl at_70 6 rfl (by show 6 < 8; decide) (Int8.toInt32 (Int32.toInt8 xf)) (o_b8 _) 71 rfl ?_
      intro T444 h444 X444 H444
      replace H444 : OL n0 h444 ((b437, OA Z .byte [(Int8.toInt32 (Int32.toInt8 xf)), (Int8.toInt32 (Int32.toInt8 xf)), (Int8.toInt32 (Int32.toInt8 xf)), (Int8.toInt32 (Int32.toInt8 xf)), (Int8.toInt32 (Int32.toInt8 xf)), (Int8.toInt32 (Int32.toInt8 xf)), (Int8.toInt32 (Int32.toInt8 xf)), (0 : Int32)]) :: []) := H444
      refine o_dup X444 at_71 rfl 72 rfl ?_
      refine o_bipush (v := (7 : Int32)) X444 at_72 rfl 74 rfl ?_
      refine o_iload X444 at_74 rfl 76 rfl ?_
      refine o_bastoreB X444 H444 0 rfl at_76 7 rfl (by show 7 < 8; decide) (Int8.toInt32 (Int32.toInt8 xf)) (o_b8 _) 77 rfl ?_
      intro T445 h445 X445 H445
      replace H445 : OL n0 h445 ((b437, OA Z .byte [(Int8.toInt32 (Int32.toInt8 xf)), (Int8.toInt32 (Int32.toInt8 xf)), (Int8.toInt32 (Int32.toInt8 xf)), (Int8.toInt32 (Int32.toInt8 xf)), (Int8.toInt32 (Int32.toInt8 xf)), (Int8.toInt32 (Int32.toInt8 xf)), (Int8.toInt32 (Int32.toInt8 xf)), (Int8.toInt32 (Int32.toInt8 xf))]) :: []) := H445
      refine o_astore X445 at_77 rfl #[.val (.int xc), .val (.int xi), .val (.int xf), .val (.int xcp), .val (.int (xi &&& (3 : Int32))), .val (.int (Int8.toInt32 (Int32.toInt8 xf))), .val (.ref b437), .unset, .unset, .unset] rfl 79 rfl ?_
      refine o_iconst (v := (4 : Int32)) X445 at_79 rfl 80 rfl ?_
      refine o_newarray (L := ((b437, OA Z .byte [(Int8.toInt32 (Int32.toInt8 xf)), (Int8.toInt32 (Int32.toInt8 xf)), (Int8.toInt32 (Int32.toInt8 xf)), (Int8.toInt32 (Int32.toInt8 xf)), (Int8.toInt32 (Int32.toInt8 xf)), (Int8.toInt32 (Int32.toInt8 xf)), (Int8.toInt32 (Int32.toInt8 xf)), (Int8.toInt32 (Int32.toInt8 xf))]) :: [])) X445 H445 at_80 (hw _ (List.mem_of_getElem? (i := 4) rfl)) rfl rfl 4 4 rfl (by decide) (by decide) 2 12 rfl rfl (by decide) (by decide) 82 rfl ?_
      intro T446 h446 b446 X446 H446
      replace H446 : OL n0 h446 ((b446, OA Z .int [(0 : Int32), (0 : Int32), (0 : Int32), (0 : Int32)]) :: (b437, OA Z .byte [(Int8.toInt32 (Int32.toInt8 xf)), (Int8.toInt32 (Int32.toInt8 xf)), (Int8.toInt32 (Int32.toInt8 xf)), (Int8.toInt32 (Int32.toInt8 xf)), (Int8.toInt32 (Int32.toInt8 xf)), (Int8.toInt32 (Int32.toInt8 xf)), (Int8.toInt32 (Int32.toInt8 xf)), (Int8.toInt32 (Int32.toInt8 xf))]) :: []) := H446
      refine o_astore X446 at_82 rfl #[.val (.int xc), .val (.int xi), .val (.int xf), .val (.int xcp), .val (.int (xi &&& (3 : Int32))), .val (.int (Int8.toInt32 (Int32.toInt8 xf))), .val (.ref b437), .val (.ref b446), .unset, .unset] rfl 84 rfl ?_
      refine o_iloadN X446 at_84 rfl 85 rfl ?_
      refine o_bipush (v := (127 : Int32)) X446 at_85 rfl 87 rfl ?_
      refine o_icmpGt X446 at_87 101 90 (by decide) (by decide) rfl ?_ ?_
      · intro hc87
        refine o_iloadN X446 at_101 rfl 102 rfl ?_
        refine o_sipush (v := (2047 : Int32)) X446 at_102 rfl 105 rfl ?_
        refine o_icmpGt X446 at_105 138 108 (by decide) (by decide) rfl ?_ ?_
        · intro hc105
          refine o_iloadN X446 at_138 rfl 139 rfl ?_
          refine o_ldc (v := (65535 : Int32)) X446 at_139 (hw _ (List.mem_of_getElem? (i := 14) rfl)) 141 rfl ?_
          refine o_icmpGt X446 at_141 190 144 (by decide) (by decide) rfl ?_ ?_
          · intro hc141
            refine o_iconst (v := (4 : Int32)) X446 at_190 rfl 191 rfl ?_
            refine o_istore X446 at_191 #[.val (.int xc), .val (.int xi), .val (.int xf), .val (.int xcp), .val (.int (xi &&& (3 : Int32))), .val (.int (Int8.toInt32 (Int32.toInt8 xf))), .val (.ref b437), .val (.ref b446), .val (.int (4 : Int32)), .unset] rfl 193 rfl ?_
            refine o_aload X446 at_193 rfl rfl 195 rfl ?_
            refine o_iconst (v := (0 : Int32)) X446 at_195 rfl 196 rfl ?_
            refine o_sipush (v := (240 : Int32)) X446 at_196 rfl 199 rfl ?_
            refine o_iloadN X446 at_199 rfl 200 rfl ?_
            refine o_ldc (v := (262144 : Int32)) X446 at_200 (hw _ (List.mem_of_getElem? (i := 15) rfl)) 202 rfl ?_
            refine o_idiv X446 at_202 (by decide) 203 rfl ?_
            refine o_iadd X446 at_203 204 rfl ?_
            refine o_iastore X446 H446 0 rfl at_204 0 rfl (by show 0 < 4; decide) 205 rfl ?_
            intro T447 h447 X447 H447
            replace H447 : OL n0 h447 ((b446, OA Z .int [((240 : Int32) + (xcp / (262144 : Int32))), (0 : Int32), (0 : Int32), (0 : Int32)]) :: (b437, OA Z .byte [(Int8.toInt32 (Int32.toInt8 xf)), (Int8.toInt32 (Int32.toInt8 xf)), (Int8.toInt32 (Int32.toInt8 xf)), (Int8.toInt32 (Int32.toInt8 xf)), (Int8.toInt32 (Int32.toInt8 xf)), (Int8.toInt32 (Int32.toInt8 xf)), (Int8.toInt32 (Int32.toInt8 xf)), (Int8.toInt32 (Int32.toInt8 xf))]) :: []) := H447
            refine o_aload X447 at_205 rfl rfl 207 rfl ?_
            refine o_iconst (v := (1 : Int32)) X447 at_207 rfl 208 rfl ?_
            refine o_sipush (v := (128 : Int32)) X447 at_208 rfl 211 rfl ?_
            refine o_iloadN X447 at_211 rfl 212 rfl ?_
            refine o_sipush (v := (4096 : Int32)) X447 at_212 rfl 215 rfl ?_
            refine o_idiv X447 at_215 (by decide) 216 rfl ?_
            refine o_bipush (v := (64 : Int32)) X447 at_216 rfl 218 rfl ?_
            refine o_irem X447 at_218 (by decide) 219 rfl ?_
            refine o_iadd X447 at_219 220 rfl ?_
            refine o_iastore X447 H447 0 rfl at_220 1 rfl (by show 1 < 4; decide) 221 rfl ?_
            intro T448 h448 X448 H448
            replace H448 : OL n0 h448 ((b446, OA Z .int [((240 : Int32) + (xcp / (262144 : Int32))), ((128 : Int32) + ((xcp / (4096 : Int32)) % (64 : Int32))), (0 : Int32), (0 : Int32)]) :: (b437, OA Z .byte [(Int8.toInt32 (Int32.toInt8 xf)), (Int8.toInt32 (Int32.toInt8 xf)), (Int8.toInt32 (Int32.toInt8 xf)), (Int8.toInt32 (Int32.toInt8 xf)), (Int8.toInt32 (Int32.toInt8 xf)), (Int8.toInt32 (Int32.toInt8 xf)), (Int8.toInt32 (Int32.toInt8 xf)), (Int8.toInt32 (Int32.toInt8 xf))]) :: []) := H448
            refine o_aload X448 at_221 rfl rfl 223 rfl ?_
            refine o_iconst (v := (2 : Int32)) X448 at_223 rfl 224 rfl ?_
            refine o_sipush (v := (128 : Int32)) X448 at_224 rfl 227 rfl ?_
            refine o_iloadN X448 at_227 rfl 228 rfl ?_
            refine o_bipush (v := (64 : Int32)) X448 at_228 rfl 230 rfl ?_
            refine o_idiv X448 at_230 (by decide) 231 rfl ?_
            refine o_bipush (v := (64 : Int32)) X448 at_231 rfl 233 rfl ?_
            refine o_irem X448 at_233 (by decide) 234 rfl ?_
            refine o_iadd X448 at_234 235 rfl ?_
            refine o_iastore X448 H448 0 rfl at_235 2 rfl (by show 2 < 4; decide) 236 rfl ?_
            intro T449 h449 X449 H449
            replace H449 : OL n0 h449 ((b446, OA Z .int [((240 : Int32) + (xcp / (262144 : Int32))), ((128 : Int32) + ((xcp / (4096 : Int32)) % (64 : Int32))), ((128 : Int32) + ((xcp / (64 : Int32)) % (64 : Int32))), (0 : Int32)]) :: (b437, OA Z .byte [(Int8.toInt32 (Int32.toInt8 xf)), (Int8.toInt32 (Int32.toInt8 xf)), (Int8.toInt32 (Int32.toInt8 xf)), (Int8.toInt32 (Int32.toInt8 xf)), (Int8.toInt32 (Int32.toInt8 xf)), (Int8.toInt32 (Int32.toInt8 xf)), (Int8.toInt32 (Int32.toInt8 xf)), (Int8.toInt32 (Int32.toInt8 xf))]) :: []) := H449
            refine o_aload X449 at_236 rfl rfl 238 rfl ?_
            refine o_iconst (v := (3 : Int32)) X449 at_238 rfl 239 rfl ?_
            refine o_sipush (v := (128 : Int32)) X449 at_239 rfl 242 rfl ?_
            refine o_iloadN X449 at_242 rfl 243 rfl ?_
            refine o_bipush (v := (64 : Int32)) X449 at_243 rfl 245 rfl ?_
            refine o_irem X449 at_245 (by decide) 246 rfl ?_
            refine o_iadd X449 at_246 247 rfl ?_
            refine o_iastore X449 H449 0 rfl at_247 3 rfl (by show 3 < 4; decide) 248 rfl ?_
            intro T450 h450 X450 H450
            replace H450 : OL n0 h450 ((b446, OA Z .int [((240 : Int32) + (xcp / (262144 : Int32))), ((128 : Int32) + ((xcp / (4096 : Int32)) % (64 : Int32))), ((128 : Int32) + ((xcp / (64 : Int32)) % (64 : Int32))), ((128 : Int32) + (xcp % (64 : Int32)))]) :: (b437, OA Z .byte [(Int8.toInt32 (Int32.toInt8 xf)), (Int8.toInt32 (Int32.toInt8 xf)), (Int8.toInt32 (Int32.toInt8 xf)), (Int8.toInt32 (Int32.toInt8 xf)), (Int8.toInt32 (Int32.toInt8 xf)), (Int8.toInt32 (Int32.toInt8 xf)), (Int8.toInt32 (Int32.toInt8 xf)), (Int8.toInt32 (Int32.toInt8 xf))]) :: []) := H450
            refine J248 _ _ _ _ _ _ _ _ _ _ _ X450 H450 (Or.inr (Or.inr (Or.inr (⟨rfl, ?_, ?_, rfl, rfl, rfl, rfl⟩)))) (v_ix _)
            all_goals (have hb := v_cp xc; rw [hcp] at hb; simp only [Int32.lt_iff_toInt_lt, Int32.reduceToInt] at hc87 hc105 hc141; omega)
          · intro hc141
            refine o_iconst (v := (3 : Int32)) X446 at_144 rfl 145 rfl ?_
            refine o_istore X446 at_145 #[.val (.int xc), .val (.int xi), .val (.int xf), .val (.int xcp), .val (.int (xi &&& (3 : Int32))), .val (.int (Int8.toInt32 (Int32.toInt8 xf))), .val (.ref b437), .val (.ref b446), .val (.int (3 : Int32)), .unset] rfl 147 rfl ?_
            refine o_aload X446 at_147 rfl rfl 149 rfl ?_
            refine o_iconst (v := (0 : Int32)) X446 at_149 rfl 150 rfl ?_
            refine o_sipush (v := (224 : Int32)) X446 at_150 rfl 153 rfl ?_
            refine o_iloadN X446 at_153 rfl 154 rfl ?_
            refine o_sipush (v := (4096 : Int32)) X446 at_154 rfl 157 rfl ?_
            refine o_idiv X446 at_157 (by decide) 158 rfl ?_
            refine o_iadd X446 at_158 159 rfl ?_
            refine o_iastore X446 H446 0 rfl at_159 0 rfl (by show 0 < 4; decide) 160 rfl ?_
            intro T451 h451 X451 H451
            replace H451 : OL n0 h451 ((b446, OA Z .int [((224 : Int32) + (xcp / (4096 : Int32))), (0 : Int32), (0 : Int32), (0 : Int32)]) :: (b437, OA Z .byte [(Int8.toInt32 (Int32.toInt8 xf)), (Int8.toInt32 (Int32.toInt8 xf)), (Int8.toInt32 (Int32.toInt8 xf)), (Int8.toInt32 (Int32.toInt8 xf)), (Int8.toInt32 (Int32.toInt8 xf)), (Int8.toInt32 (Int32.toInt8 xf)), (Int8.toInt32 (Int32.toInt8 xf)), (Int8.toInt32 (Int32.toInt8 xf))]) :: []) := H451
            refine o_aload X451 at_160 rfl rfl 162 rfl ?_
            refine o_iconst (v := (1 : Int32)) X451 at_162 rfl 163 rfl ?_
            refine o_sipush (v := (128 : Int32)) X451 at_163 rfl 166 rfl ?_
            refine o_iloadN X451 at_166 rfl 167 rfl ?_
            refine o_bipush (v := (64 : Int32)) X451 at_167 rfl 169 rfl ?_
            refine o_idiv X451 at_169 (by decide) 170 rfl ?_
            refine o_bipush (v := (64 : Int32)) X451 at_170 rfl 172 rfl ?_
            refine o_irem X451 at_172 (by decide) 173 rfl ?_
            refine o_iadd X451 at_173 174 rfl ?_
            refine o_iastore X451 H451 0 rfl at_174 1 rfl (by show 1 < 4; decide) 175 rfl ?_
            intro T452 h452 X452 H452
            replace H452 : OL n0 h452 ((b446, OA Z .int [((224 : Int32) + (xcp / (4096 : Int32))), ((128 : Int32) + ((xcp / (64 : Int32)) % (64 : Int32))), (0 : Int32), (0 : Int32)]) :: (b437, OA Z .byte [(Int8.toInt32 (Int32.toInt8 xf)), (Int8.toInt32 (Int32.toInt8 xf)), (Int8.toInt32 (Int32.toInt8 xf)), (Int8.toInt32 (Int32.toInt8 xf)), (Int8.toInt32 (Int32.toInt8 xf)), (Int8.toInt32 (Int32.toInt8 xf)), (Int8.toInt32 (Int32.toInt8 xf)), (Int8.toInt32 (Int32.toInt8 xf))]) :: []) := H452
            refine o_aload X452 at_175 rfl rfl 177 rfl ?_
            refine o_iconst (v := (2 : Int32)) X452 at_177 rfl 178 rfl ?_
            refine o_sipush (v := (128 : Int32)) X452 at_178 rfl 181 rfl ?_
            refine o_iloadN X452 at_181 rfl 182 rfl ?_
            refine o_bipush (v := (64 : Int32)) X452 at_182 rfl 184 rfl ?_
            refine o_irem X452 at_184 (by decide) 185 rfl ?_
            refine o_iadd X452 at_185 186 rfl ?_
            refine o_iastore X452 H452 0 rfl at_186 2 rfl (by show 2 < 4; decide) 187 rfl ?_
            intro T453 h453 X453 H453
            replace H453 : OL n0 h453 ((b446, OA Z .int [((224 : Int32) + (xcp / (4096 : Int32))), ((128 : Int32) + ((xcp / (64 : Int32)) % (64 : Int32))), ((128 : Int32) + (xcp % (64 : Int32))), (0 : Int32)]) :: (b437, OA Z .byte [(Int8.toInt32 (Int32.toInt8 xf)), (Int8.toInt32 (Int32.toInt8 xf)), (Int8.toInt32 (Int32.toInt8 xf)), (Int8.toInt32 (Int32.toInt8 xf)), (Int8.toInt32 (Int32.toInt8 xf)), (Int8.toInt32 (Int32.toInt8 xf)), (Int8.toInt32 (Int32.toInt8 xf)), (Int8.toInt32 (Int32.toInt8 xf))]) :: []) := H453
            refine o_goto X453 at_187 248 (by decide) (by decide) ?_
            refine J248 _ _ _ _ _ _ _ _ _ _ _ X453 H453 (Or.inr (Or.inr (Or.inl ⟨rfl, ?_, ?_, rfl, rfl, rfl⟩))) (v_ix _)
            all_goals (have hb := v_cp xc; rw [hcp] at hb; simp only [Int32.lt_iff_toInt_lt, Int32.reduceToInt] at hc87 hc105 hc141; omega)
        · intro hc105
          refine o_iconst (v := (2 : Int32)) X446 at_108 rfl 109 rfl ?_
          refine o_istore X446 at_109 #[.val (.int xc), .val (.int xi), .val (.int xf), .val (.int xcp), .val (.int (xi &&& (3 : Int32))), .val (.int (Int8.toInt32 (Int32.toInt8 xf))), .val (.ref b437), .val (.ref b446), .val (.int (2 : Int32)), .unset] rfl 111 rfl ?_
          refine o_aload X446 at_111 rfl rfl 113 rfl ?_
          refine o_iconst (v := (0 : Int32)) X446 at_113 rfl 114 rfl ?_
          refine o_sipush (v := (192 : Int32)) X446 at_114 rfl 117 rfl ?_
          refine o_iloadN X446 at_117 rfl 118 rfl ?_
          refine o_bipush (v := (64 : Int32)) X446 at_118 rfl 120 rfl ?_
          refine o_idiv X446 at_120 (by decide) 121 rfl ?_
          refine o_iadd X446 at_121 122 rfl ?_
          refine o_iastore X446 H446 0 rfl at_122 0 rfl (by show 0 < 4; decide) 123 rfl ?_
          intro T454 h454 X454 H454
          replace H454 : OL n0 h454 ((b446, OA Z .int [((192 : Int32) + (xcp / (64 : Int32))), (0 : Int32), (0 : Int32), (0 : Int32)]) :: (b437, OA Z .byte [(Int8.toInt32 (Int32.toInt8 xf)), (Int8.toInt32 (Int32.toInt8 xf)), (Int8.toInt32 (Int32.toInt8 xf)), (Int8.toInt32 (Int32.toInt8 xf)), (Int8.toInt32 (Int32.toInt8 xf)), (Int8.toInt32 (Int32.toInt8 xf)), (Int8.toInt32 (Int32.toInt8 xf)), (Int8.toInt32 (Int32.toInt8 xf))]) :: []) := H454
          refine o_aload X454 at_123 rfl rfl 125 rfl ?_
          refine o_iconst (v := (1 : Int32)) X454 at_125 rfl 126 rfl ?_
          refine o_sipush (v := (128 : Int32)) X454 at_126 rfl 129 rfl ?_
          refine o_iloadN X454 at_129 rfl 130 rfl ?_
          refine o_bipush (v := (64 : Int32)) X454 at_130 rfl 132 rfl ?_
          refine o_irem X454 at_132 (by decide) 133 rfl ?_
          refine o_iadd X454 at_133 134 rfl ?_
          refine o_iastore X454 H454 0 rfl at_134 1 rfl (by show 1 < 4; decide) 135 rfl ?_
          intro T455 h455 X455 H455
          replace H455 : OL n0 h455 ((b446, OA Z .int [((192 : Int32) + (xcp / (64 : Int32))), ((128 : Int32) + (xcp % (64 : Int32))), (0 : Int32), (0 : Int32)]) :: (b437, OA Z .byte [(Int8.toInt32 (Int32.toInt8 xf)), (Int8.toInt32 (Int32.toInt8 xf)), (Int8.toInt32 (Int32.toInt8 xf)), (Int8.toInt32 (Int32.toInt8 xf)), (Int8.toInt32 (Int32.toInt8 xf)), (Int8.toInt32 (Int32.toInt8 xf)), (Int8.toInt32 (Int32.toInt8 xf)), (Int8.toInt32 (Int32.toInt8 xf))]) :: []) := H455
          refine o_goto X455 at_135 248 (by decide) (by decide) ?_
          refine J248 _ _ _ _ _ _ _ _ _ _ _ X455 H455 (Or.inr (Or.inl ⟨rfl, ?_, ?_, rfl, rfl⟩)) (v_ix _)
          all_goals (have hb := v_cp xc; rw [hcp] at hb; simp only [Int32.lt_iff_toInt_lt, Int32.reduceToInt] at hc87 hc105; omega)
      · intro hc87
        refine o_iconst (v := (1 : Int32)) X446 at_90 rfl 91 rfl ?_
        refine o_istore X446 at_91 #[.val (.int xc), .val (.int xi), .val (.int xf), .val (.int xcp), .val (.int (xi &&& (3 : Int32))), .val (.int (Int8.toInt32 (Int32.toInt8 xf))), .val (.ref b437), .val (.ref b446), .val (.int (1 : Int32)), .unset] rfl 93 rfl ?_
        refine o_aload X446 at_93 rfl rfl 95 rfl ?_
        refine o_iconst (v := (0 : Int32)) X446 at_95 rfl 96 rfl ?_
        refine o_iloadN X446 at_96 rfl 97 rfl ?_
        refine o_iastore X446 H446 0 rfl at_97 0 rfl (by show 0 < 4; decide) 98 rfl ?_
        intro T456 h456 X456 H456
        replace H456 : OL n0 h456 ((b446, OA Z .int [xcp, (0 : Int32), (0 : Int32), (0 : Int32)]) :: (b437, OA Z .byte [(Int8.toInt32 (Int32.toInt8 xf)), (Int8.toInt32 (Int32.toInt8 xf)), (Int8.toInt32 (Int32.toInt8 xf)), (Int8.toInt32 (Int32.toInt8 xf)), (Int8.toInt32 (Int32.toInt8 xf)), (Int8.toInt32 (Int32.toInt8 xf)), (Int8.toInt32 (Int32.toInt8 xf)), (Int8.toInt32 (Int32.toInt8 xf))]) :: []) := H456
        refine o_goto X456 at_98 248 (by decide) (by decide) ?_
        refine J248 _ _ _ _ _ _ _ _ _ _ _ X456 H456 (Or.inl ⟨rfl, ?_, ?_, rfl⟩) (v_ix _)
        all_goals (have hb := v_cp xc; rw [hcp] at hb; simp only [Int32.lt_iff_toInt_lt, Int32.reduceToInt] at hc87; omega)
    · intro hc17
      refine o_iconst (v := (1 : Int32)) X0 at_20 rfl 21 rfl ?_
      exact o_retZ X0 at_21 (by decide) (by decide) (hQ _ _ rfl)
set_option maxRecDepth 65536 in
set_option maxHeartbeats 40000000 in
theorem comes_1 {Post : Tables → Env → Array Value → State → Outcome → State → Prop} (hpost : ∀ tb e args s v u, (limb_1_1.after args s (.returned v) u = true ∧ limb_1_2.after args s (.returned v) u = true ∧ True) → FrameEnd s (.returned v) u (Jvm.fieldLocs frame_1_writes args s ++ Jvm.arrayLocs frame_1_arrays args s ++ Jvm.staticLocs frame_1_statics s) 16 128 → Post tb e args s (.returned v) u) :
    ArmFor flags0 classFile x code maxLocals ret World_1 tables_1 room_1 Calls_1 rest_1 Pre_1 Post := by
  intro l hfl _ _ p e ha hc hk s m args below hf hA hF happ hP
  obtain ⟨hcalls, hrest, hpre⟩ := hP
  obtain ⟨-, -, -, hnamed, -, -, -, hat⟩ := (Spec.applies_iff hf).mp happ
  obtain ⟨hg, hn⟩ := and_e (Cond.before_iff.mp (show (Jvm.Cond.and given_1 narrow_1).before args s = true from hpre))
  obtain ⟨hcnt, hg0⟩ := and_e hg
  obtain ⟨ha0, hg1⟩ := and_e hg0
  obtain ⟨ha1, hg2⟩ := and_e hg1
  have ha2 := hg2
  obtain ⟨w0, w1, w2, rfl⟩ : ∃ w0 w1 w2 : Value, args = #[w0, w1, w2] := by
    have hs : args.size = 3 := by simpa [Cond.value, given_1] using hcnt
    obtain ⟨L⟩ := args
    match L, hs with
    | [w0, w1, w2], _ => exact ⟨w0, w1, w2, rfl⟩
  have hw := fun d (hd : d ∈ tables_1) => atoms_spec (ws := Jvm.Cond.code x code maxLocals ret :: tables_1) hat d (List.mem_cons_of_mem _ hd)
  obtain ⟨i0, ei0⟩ := is_v ha0
  obtain rfl : w0 = (.int i0) := Option.some.inj ei0
  obtain ⟨i1, ei1⟩ := is_v ha1
  obtain rfl : w1 = (.int i1) := Option.some.inj ei1
  obtain ⟨i2, ei2⟩ := is_v ha2
  obtain rfl : w2 = (.int i2) := Option.some.inj ei2
  obtain ⟨n, o, h1, h2, h3, _, L, rfl, ⟨rfl, N⟩, hq⟩ := c_law l s _ hw tables_1 s.heap.size s.heap (Nat.le_refl _) i0 i1 i2 p e ha hc hk s m _ below hf ((Spec.applies_iff_loose hf).mp happ).1 ⟨rfl, State.Warmed39.refl s, rfl⟩ trivial
  refine ⟨n, _, h1, h2, h3, hpost _ _ _ _ _ _ ⟨Cond.after_iff.mpr rfl, Cond.after_iff.mpr (eq_i res_at (Term.int_eval (1)) rfl), trivial⟩ ⟨hq.1, hq.2.1, (hq.2.2.sift fun y hy => Or.inr (N y hy)).mono (by decide) (by decide)⟩⟩
theorem main_1_1 : Claimed_1_1 := comes_1 fun _ _ _ _ _ _ h hF => ⟨h.1, hF⟩
theorem main_1_2 : Claimed_1_2 := comes_1 fun _ _ _ _ _ _ h hF => ⟨h.2.1, hF⟩
end Jvm.Pilot.@@N@@
namespace Jvm.Pilot.@@N@@
open Jvm Jvm.ClassFile Sem Op Lib Jvm.Free Jvm.Stand Jvm.Pilot.@@N@@.Jvm.D
/-! MADE BY PROGRAM (witnessworld.py) out of the Statement's table words and the real class files: 9 classes; the members and pool entries that the words name. The judged class is class 1, her method 1. -/
namespace start1
open Jvm.ClassFile
def u (s : String) : CpInfo := .utf8 (stringToUtf16 s)
/-- a pool by its gaps: so many unusable entries, then the entry; so many at the end -/
def gap : Nat → List CpInfo → List CpInfo
  | 0, r => r
  | n + 1, r => .unusable :: gap n r
def poolList (es : List (Nat × CpInfo)) (last : Nat) : List CpInfo := es.foldr (fun e r => gap e.1 (e.2 :: r)) (gap last [])
def pool (es : List (Nat × CpInfo)) (last : Nat) : Array CpInfo := ⟨poolList es last⟩
def fileOf (pool : Array CpInfo) (this : Nat) (attrs : Array Attribute := #[]) (ms : Array MethodInfo := #[]) (fl : Nat := 33) (sup : Nat := 0) (ifs : Array Nat := #[]) (fds : Array FieldInfo := #[]) : ClassFile where
  minorVersion := 0
  majorVersion := 65
  constantPool := pool
  accessFlags := fl
  thisClass := this
  superClass := sup
  interfaces := ifs
  fields := fds
  methods := ms
  attributes := attrs
def plain (name : String) (sup : Option ClassId) : Class where
  name := name
  kind := .ordinary
  loader := none
  accessFlags := 33
  super := sup
  interfaces := #[]
  cf := none
  fields := #[]
  methods := #[]
  instanceTypes := #[]
  staticTypes := #[]
  resolved := #[]
  callSites := []
  init := .initialized
  statics := none
  mirror := none

def pool0 : Array CpInfo := pool [(5, u "<init>"), (0, u "()V"), (1, .class_ 10), (1, u "java/lang/Object")] 113

def k0m0 : Method := { name := "<init>", desc := "()V", sig := { parameters := [], returnType := none }, accessFlags := 1, code := none }
/-- java/lang/Object -/
def k0 : Class := { plain "java/lang/Object" none with
  accessFlags := 33
  interfaces := #[]
  cf := some (fileOf pool0 8 #[] #[{ accessFlags := 1, nameIndex := 5, descriptorIndex := 6, attributes := #[] }] 33 0 #[] #[])
  fields := #[]
  methods := #[k0m0]
  instanceTypes := #[]
  staticTypes := #[]
  resolved := Array.replicate 124 none
  statics := none }

def pool1 : Array CpInfo := pool [(2, .class_ 4), (1, u "java/lang/Object"), (0, u "<init>"), (0, u "()V"), (0, .integer 2147483647), (0, .integer 1114112), (0, .integer 55296), (0, .integer 57343), (0, .integer 65535), (0, .integer 262144), (0, .methodref 14 15), (0, .class_ 16), (0, .nameAndType 17 18), (0, u "org/bindloom/internal/Utf8"), (0, u "encode"), (0, u "(I[BI)I"), (0, .methodref 20 21), (0, .class_ 22), (0, .nameAndType 23 24), (0, u "org/bindloom/internal/Utf8EncodePinLaw"), (0, u "at"), (0, u "([BIII[II)Z"), (2, u "law"), (0, u "(III)Z")] 7

def k1m0 : Method := { name := "<init>", desc := "()V", sig := { parameters := [], returnType := none }, accessFlags := 1, code := none }
def k1c1 : Code := { maxStack := 6, maxLocals := 10, code := code, exceptionTable := #[], attributes := #[] }
def k1m1 : Method := { name := "law", desc := "(III)Z", sig := { parameters := [.int, .int, .int], returnType := some .boolean }, accessFlags := 9, code := some k1c1 }
def k1c2 : Code := { maxStack := 3, maxLocals := 7, code := method_3_code, exceptionTable := #[], attributes := #[] }
def k1m2 : Method := { name := "at", desc := "([BIII[II)Z", sig := { parameters := [(.array .byte), .int, .int, .int, (.array .int), .int], returnType := some .boolean }, accessFlags := 10, code := some k1c2 }
/-- org/bindloom/internal/Utf8EncodePinLaw -/
def k1 : Class := { plain "org/bindloom/internal/Utf8EncodePinLaw" (some 0) with
  accessFlags := 49
  interfaces := #[]
  cf := some (fileOf pool1 20 #[] #[{ accessFlags := 1, nameIndex := 5, descriptorIndex := 6, attributes := #[] }, { accessFlags := 9, nameIndex := 27, descriptorIndex := 28, attributes := #[] }, { accessFlags := 10, nameIndex := 23, descriptorIndex := 24, attributes := #[] }] 49 2 #[] #[])
  fields := #[]
  methods := #[k1m0, k1m1, k1m2]
  instanceTypes := #[]
  staticTypes := #[]
  resolved := Array.replicate 36 none
  statics := none }

def pool2 : Array CpInfo := pool [(2, .class_ 4), (1, u "java/lang/Object"), (0, u "<init>"), (0, u "()V"), (1, .class_ 10), (1, u "org/bindloom/internal/Utf8"), (15, .integer 65536), (21, u "INVALID"), (0, u "Ljava/lang/String;"), (13, u "encode"), (0, u "(I[BI)I")] 3

def k2m0 : Method := { name := "<init>", desc := "()V", sig := { parameters := [], returnType := none }, accessFlags := 2, code := none }
def k2c1 : Code := { maxStack := 5, maxLocals := 4, code := prog_39_method_9_code, exceptionTable := #[], attributes := #[] }
def k2m1 : Method := { name := "encode", desc := "(I[BI)I", sig := { parameters := [.int, (.array .byte), .int], returnType := some .int }, accessFlags := 9, code := some k2c1 }
/-- org/bindloom/internal/Utf8 -/
def k2 : Class := { plain "org/bindloom/internal/Utf8" (some 0) with
  accessFlags := 49
  interfaces := #[]
  cf := some (fileOf pool2 8 #[] #[{ accessFlags := 2, nameIndex := 5, descriptorIndex := 6, attributes := #[] }, { accessFlags := 9, nameIndex := 63, descriptorIndex := 64, attributes := #[] }] 49 2 #[] #[{ accessFlags := 25, nameIndex := 48, descriptorIndex := 49, attributes := #[] }])
  fields := #[{ name := "INVALID", type := (.object "java/lang/String"), accessFlags := 25, slot := 0, constantValue := 0 }]
  methods := #[k2m0, k2m1]
  instanceTypes := #[]
  staticTypes := #[(.object "java/lang/String")]
  resolved := Array.replicate 68 none
  statics := none }

def pool3 : Array CpInfo := pool [(1, u "java/lang/Cloneable"), (0, .class_ 1), (0, u "java/lang/Object"), (0, .class_ 3)] 3

/-- java/lang/Cloneable -/
def k3 : Class := { plain "java/lang/Cloneable" (some 0) with
  accessFlags := 1537
  interfaces := #[]
  cf := some (fileOf pool3 2 #[] #[] 1537 4 #[] #[])
  fields := #[]
  methods := #[]
  instanceTypes := #[]
  staticTypes := #[]
  resolved := Array.replicate 8 none
  statics := none }

def pool4 : Array CpInfo := pool [(1, u "java/io/Serializable"), (0, .class_ 1), (0, u "java/lang/Object"), (0, .class_ 3)] 3

/-- java/io/Serializable -/
def k4 : Class := { plain "java/io/Serializable" (some 0) with
  accessFlags := 1537
  interfaces := #[]
  cf := some (fileOf pool4 2 #[] #[] 1537 4 #[] #[])
  fields := #[]
  methods := #[]
  instanceTypes := #[]
  staticTypes := #[]
  resolved := Array.replicate 8 none
  statics := none }

/-- the primitive byte -/
def k5 : Class := { plain "byte" none with kind := .primitive 'B', accessFlags := 0x411 }
/-- [B -/
def k6 : Class := { plain "[B" (some 0) with kind := .array 5 .byte, interfaces := #[3, 4], accessFlags := 1041 }

/-- the primitive int -/
def k7 : Class := { plain "int" none with kind := .primitive 'I', accessFlags := 0x411 }
/-- [I -/
def k8 : Class := { plain "[I" (some 0) with kind := .array 7 .int, interfaces := #[3, 4], accessFlags := 1041 }

def heap : Heap := #[]
def classes : Array Class := #[k0, k1, k2, k3, k4, k5, k6, k7, k8]
def interned : List (Array UInt16 × Addr) := []
def slotsUsed : Nat := 0
def theMethod : MethodId := ⟨1, 1⟩
def args0 : Array Value := #[.int 5, .int 3, .int 7]
def aboutOver (below : List Frame) : State where
  vm := { classes := classes, interned := interned.toArray }
  heap := heap
  slotsUsed := slotsUsed
  threads := #[{ frames := .invoking theMethod args0 :: below }]
def below0 : List Frame := [.native { method := ⟨0, 0⟩, args := #[] }]
def about1 : State := aboutOver below0
def p0 : Program := .bare "" "" ""
def e0 : Env := launch0.env 0 0 0
theorem w_frames : about1.frames = Frame.invoking theMethod args0 :: below0 := rfl
set_option maxRecDepth 65536 in
theorem w_args : argsFit about1.vm theMethod args0 = true := by decide +kernel
set_option maxRecDepth 65536 in
theorem w_heap : heapFits about1 = true := by decide +kernel
set_option maxRecDepth 65536 in
theorem w_runnable : about1.curStatus? = some .runnable := by decide +kernel
set_option maxRecDepth 65536 in
theorem w_alone : about1.alone = true := by decide +kernel
set_option maxRecDepth 65536 in
theorem w_named : about1.methodNamed? x = some theMethod := by decide +kernel
set_option maxRecDepth 65536 in
theorem w_hears : about1.hears theMethod below0 = true := by decide +kernel
set_option maxRecDepth 65536 in
theorem w_ripe : about1.ripe theMethod args0 below0 = true := by decide +kernel
theorem w_running : about1.status = .running := rfl
set_option maxRecDepth 65536 in
theorem w_room : about1.hasRoom e0.platform room_1 = true :=
  launch0.hasRoom_least _ room_1 (by decide +kernel) (by decide +kernel) (by decide +kernel) (by decide +kernel) (by decide +kernel) (by decide +kernel)
theorem allAtoms_all (ts : List Jvm.Cond) (a : Array Jvm.Value) (st : Jvm.State) : (allAtoms ts).before a st = ts.all (fun c => c.before a st) := by
  induction ts with
  | nil => rfl
  | cons c t ih =>
    show (Jvm.Cond.and c (allAtoms t)).before a st = _
    rw [Jvm.Cond.before_and, ih, List.all_cons]
def words1 : List Jvm.Cond := Jvm.Cond.code x code maxLocals ret :: tables_1
/-- a 'code' word, met by the world's own term for the bytes: nothing is compared byte by byte -/
theorem code_word {y : MethodName} {bytes : ByteArray} {mx : Nat} {rt : Option FieldType} {a : Array Value} {s : State} {m : MethodId} {meth : Method} {c : Code} (h1 : s.methodNamed? y = some m) (h2 : s.vm.method? m = some meth) (h3 : meth.code = some c) (h4 : c.code = bytes)
    (h5 : (c.maxLocals == mx && c.exceptionTable.isEmpty && decide (c.maxStack ≤ mostOperands) && decide (meth.sig.returnType = rt) && !meth.locks && decide (parseMethodDescriptor y.desc = some meth.sig)) = true) : (Jvm.Cond.code y bytes mx rt).before a s = true := by
  simp only [Bool.and_eq_true, beq_iff_eq, Bool.not_eq_true', decide_eq_true_eq] at h5
  obtain ⟨⟨⟨⟨⟨g1, g2⟩, g3⟩, g4⟩, g5⟩, g6⟩ := h5
  simp [Cond.before, Cond.holds, Cond.value, h1, h2, h3, h4, g1, g2, g3, g4, g5, g6]
def isCode : Jvm.Cond → Bool
  | .code _ _ _ _ => true
  | _ => false
theorem all_split {L : List Jvm.Cond} {P : Jvm.Cond → Bool} (h1 : L.all (fun c => isCode c || P c) = true) (h2 : ∀ c ∈ L.filter isCode, P c = true) : L.all P = true := by
  refine List.all_eq_true.mpr fun c hc => ?_
  have h := List.all_eq_true.mp h1 c hc
  rcases Bool.eq_false_or_eq_true (isCode c) with hi | hi
  · exact h2 c (List.mem_filter.mpr ⟨hc, hi⟩)
  · simpa [hi] using h
set_option maxRecDepth 65536 in
theorem w_c0 : (Jvm.Cond.code x code maxLocals ret).before args0 about1 = true := code_word (m := ⟨1, 1⟩) (meth := k1m1) (c := k1c1) (by decide +kernel) rfl rfl rfl (by decide +kernel)
set_option maxRecDepth 65536 in
theorem w_c1 : (Jvm.Cond.code ({ cls := "org/bindloom/internal/Utf8", name := "encode", desc := "(I[BI)I" } : Jvm.MethodName) prog_39_method_9_code (4 : Nat) (Option.some Jvm.ClassFile.FieldType.int)).before args0 about1 = true := code_word (m := ⟨2, 1⟩) (meth := k2m1) (c := k2c1) (by decide +kernel) rfl rfl rfl (by decide +kernel)
set_option maxRecDepth 65536 in
theorem w_c2 : (Jvm.Cond.code ({ cls := "org/bindloom/internal/Utf8EncodePinLaw", name := "at", desc := "([BIII[II)Z" } : Jvm.MethodName) method_3_code (7 : Nat) (Option.some Jvm.ClassFile.FieldType.boolean)).before args0 about1 = true := code_word (m := ⟨1, 2⟩) (meth := k1m2) (c := k1c2) (by decide +kernel) rfl rfl rfl (by decide +kernel)
def codes1 : List Jvm.Cond := [Jvm.Cond.code x code maxLocals ret, Jvm.Cond.code ({ cls := "org/bindloom/internal/Utf8", name := "encode", desc := "(I[BI)I" } : Jvm.MethodName) prog_39_method_9_code (4 : Nat) (Option.some Jvm.ClassFile.FieldType.int), Jvm.Cond.code ({ cls := "org/bindloom/internal/Utf8EncodePinLaw", name := "at", desc := "([BIII[II)Z" } : Jvm.MethodName) method_3_code (7 : Nat) (Option.some Jvm.ClassFile.FieldType.boolean)]
set_option maxRecDepth 65536 in
theorem codes_eq : words1.filter isCode = codes1 := rfl
theorem w_codes : ∀ c ∈ words1.filter isCode, c.before args0 about1 = true := by
  rw [codes_eq]
  intro c hc
  simp only [codes1, List.mem_cons, List.not_mem_nil, or_false] at hc
  rcases hc with rfl | rfl | rfl
  · exact w_c0
  · exact w_c1
  · exact w_c2
set_option maxRecDepth 65536 in
theorem w_t1 : words1.all (fun c => isCode c || c.before args0 about1) = true := by decide +kernel
theorem w_tables : (allAtoms (Jvm.Cond.code x code maxLocals ret :: tables_1)).before args0 about1 = true := by
  rw [allAtoms_all]
  show words1.all (fun c => c.before args0 about1) = true
  refine all_split ?_ w_codes
  rw [w_t1]
set_option maxRecDepth 65536 in
theorem w_case : (Jvm.Cond.and given_1 narrow_1).before args0 about1 = true := by decide +kernel
theorem w_applies : (headSpec (Jvm.Cond.code x code maxLocals ret :: tables_1) room_1).applies x e0.platform about1 = true :=
  (Spec.applies_iff w_frames).mpr ⟨w_running, w_runnable, w_alone, w_named, w_hears, w_ripe, w_room, w_tables⟩
theorem atStart : AtStart classFile x code maxLocals ret World_1 tables_1 room_1 Calls_1 rest_1 Pre_1 launch0 p0 e0 about1 theMethod args0 below0 :=
  ⟨lists_1, trivial, launch0.admits_env _ _ _, launch0.least_env, fairChoices_fair.cas, fairChoices_fair.clock, w_frames, w_args, w_heap, w_applies, trivial, trivial, w_case⟩
end start1
theorem witness_1 : WitnessClaimed_1 := ⟨start1.p0, start1.e0, start1.about1, start1.theMethod, start1.args0, start1.below0, start1.atStart⟩
end Jvm.Pilot.@@N@@
