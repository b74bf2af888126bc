import JvmDerived
import JvmDerived.Pilot.@@N@@Statement
import JvmDerived.Pilot.@@N@@Code
set_option linter.unusedVariables false
set_option linter.unusedSimpArgs false
@@BLOCK:NumsL.lean.txt@@
namespace Jvm.Pilot.@@N@@
open Jvm Jvm.ClassFile Sem Op Lib Jvm.Free Jvm.Stand Jvm.LawKit Jvm.RoadKit Bundle Jvm.Pilot.@@N@@.Jvm.D
section OwnKit
variable {p : Program} {l : Launch} {e : Env} {R : Room} {s : State} {m : MethodId} {args : Array Value} {below : List Frame} {meth : Method} {c : Code} {T T' : State} {Z : State} {h : Heap} {n0 k n mx : Nat} {y : MethodName} {bytes : ByteArray} {ret : Option FieldType} {Q : Option Value → Heap → Prop} {pc : Nat} {Ls : Array Slot} {st rest : List Value} {a0 : Array Value} {g g' : JFrame}
/-- where a body's walk stands: all that its steps ask, bundled -/
def OW (p : Program) (l : Launch) (e : Env) (R : Room) (s : State) (m : MethodId) (args : Array Value) (below : List Frame) (meth : Method) (c : Code) (Z : State) (y : MethodName) (bytes : ByteArray) (mx : Nat) (ret : Option FieldType) (n0 : Nat) (T : State) (h : Heap) (k n : Nat) : Prop :=
  p.tables.exec = Jvm.exec ∧ Z.Warmed39 s.vm ∧ s.vm.findClass y.cls = some m.cls ∧ c.code = bytes ∧ c.maxLocals = mx ∧ meth.sig.returnType = ret ∧ meth.name = y.name ∧ meth.locks = false ∧ n0 ≤ s.heap.size ∧ T.heap = h ∧ ∃ locs, Stand p l e R s m args below meth c T locs k n ∧ Fr n0 locs
/-- what a body owes from the frame g on: it returns, and Q holds of what it returns and of the heap -/
def OE (p : Program) (e : Env) (R : Room) (below : List Frame) (s : State) (n0 : Nat) (Q : Option Value → Heap → Prop) (T : State) (g : JFrame) : Prop :=
  ∃ t o, Steps p.tables e below (T.setTop g) t ∧ t.status = .running ∧ Ended t below o ∧ ∃ v L, o = .returned v ∧ (Q v t.heap ∧ Fr n0 L) ∧ FrameEnd s o t L R.cells R.slots
theorem OE.by (hs : ∀ t, Steps p.tables e below (T'.setTop g') t → Steps p.tables e below (T.setTop g) t) (K : OE p e R below s n0 Q T' g') : OE p e R below s n0 Q T g := by
  obtain ⟨t, o, h1, r⟩ := K; exact ⟨t, o, hs t h1, r⟩
theorem OW.size (X : OW p l e R s m args below meth c Z y bytes mx ret n0 T h k n) : n0 ≤ h.size := by
  obtain ⟨-, -, -, -, -, -, -, -, h0, rfl, locs, S, -⟩ := X
  exact Nat.le_trans h0 S.same.2.1
theorem OW.more (X : OW p l e R s m args below meth c Z y bytes mx ret n0 T h k n) {k' n' : Nat} (hk : k ≤ k') (hn : n ≤ n') : OW p l e R s m args below meth c Z y bytes mx ret n0 T h k' n' := by
  obtain ⟨h1, h2, h3, h4, h5, h6, h7, h8, h9, h10, locs, S, N⟩ := X
  exact ⟨h1, h2, h3, h4, h5, h6, h7, h8, h9, h10, locs, S.more hk hn, N⟩
theorem o_iloadN (X : OW p l e R s m args below meth c Z y bytes mx ret n0 T h k n) {j : Fin 4} {v : Int32} (hd : decode bytes pc = .ok (.iload_n j, 1)) (hl : Ls[j.val]? = some (.val (.int v))) (pc' : Nat) (hp : pc + 1 = pc') (K : OE p e R below s n0 Q T (mkF m pc' Ls (.int v :: st))) : OE p e R below s n0 Q T (mkF m pc Ls st) := by
  obtain ⟨hx, hZ, hown, hby, hmx, hret, hnm, hlk, h0, hT, locs, S, N⟩ := X; subst hp
  exact OE.by (fun t q => XS.iloadN S.here hx rfl (hb hby hd) hl q) K
theorem o_iload (X : OW p l e R s m args below meth c Z y bytes mx ret n0 T h k n) {j : Nat} {v : Int32} (hd : decode bytes pc = .ok (.iload j, 2)) (hl : Ls[j]? = some (.val (.int v))) (pc' : Nat) (hp : pc + 2 = pc') (K : OE p e R below s n0 Q T (mkF m pc' Ls (.int v :: st))) : OE p e R below s n0 Q T (mkF m pc Ls st) := by
  obtain ⟨hx, hZ, hown, hby, hmx, hret, hnm, hlk, h0, hT, locs, S, N⟩ := X; subst hp
  exact OE.by (fun t q => XS.iload S.here hx rfl (hb hby hd) hl q) K
theorem o_aloadN (X : OW p l e R s m args below meth c Z y bytes mx ret n0 T h k n) {j : Fin 4} {v : Value} (hd : decode bytes pc = .ok (.aload_n j, 1)) (hl : Ls[j.val]? = some (.val v)) (hv : v.isRef = true) (pc' : Nat) (hp : pc + 1 = pc') (K : OE p e R below s n0 Q T (mkF m pc' Ls (v :: st))) : OE p e R below s n0 Q T (mkF m pc Ls st) := by
  obtain ⟨hx, hZ, hown, hby, hmx, hret, hnm, hlk, h0, hT, locs, S, N⟩ := X; subst hp
  exact OE.by (fun t q => XS.aloadN S.here hx rfl (hb hby hd) hl hv q) K
theorem o_aload (X : OW p l e R s m args below meth c Z y bytes mx ret n0 T h k n) {j : Nat} {v : Value} (hd : decode bytes pc = .ok (.aload j, 2)) (hl : Ls[j]? = some (.val v)) (hv : v.isRef = true) (pc' : Nat) (hp : pc + 2 = pc') (K : OE p e R below s n0 Q T (mkF m pc' Ls (v :: st))) : OE p e R below s n0 Q T (mkF m pc Ls st) := by
  obtain ⟨hx, hZ, hown, hby, hmx, hret, hnm, hlk, h0, hT, locs, S, N⟩ := X; subst hp
  exact OE.by (fun t q => XS.aload S.here hx rfl (hb hby hd) hl hv q) K
theorem o_lloadN (X : OW p l e R s m args below meth c Z y bytes mx ret n0 T h k n) {j : Fin 4} {v : Int64} (hd : decode bytes pc = .ok (.lload_n j, 1)) (hl : Ls[j.val]? = some (.val (.long v))) (pc' : Nat) (hp : pc + 1 = pc') (K : OE p e R below s n0 Q T (mkF m pc' Ls (.long v :: st))) : OE p e R below s n0 Q T (mkF m pc Ls st) := by
  obtain ⟨hx, hZ, hown, hby, hmx, hret, hnm, hlk, h0, hT, locs, S, N⟩ := X; subst hp
  exact OE.by (fun t q => XT.lloadN S.here hx rfl (hb hby hd) hl q) K
theorem o_lload (X : OW p l e R s m args below meth c Z y bytes mx ret n0 T h k n) {j : Nat} {v : Int64} (hd : decode bytes pc = .ok (.lload j, 2)) (hl : Ls[j]? = some (.val (.long v))) (pc' : Nat) (hp : pc + 2 = pc') (K : OE p e R below s n0 Q T (mkF m pc' Ls (.long v :: st))) : OE p e R below s n0 Q T (mkF m pc Ls st) := by
  obtain ⟨hx, hZ, hown, hby, hmx, hret, hnm, hlk, h0, hT, locs, S, N⟩ := X; subst hp
  exact OE.by (fun t q => XT.lload S.here hx rfl (hb hby hd) hl q) K
theorem o_iconst (X : OW p l e R s m args below meth c Z y bytes mx ret n0 T h k n) {i : Int} {v : Int32} (hd : decode bytes pc = .ok (.iconst i, 1)) (hv : Int32.ofInt i = v) (pc' : Nat) (hp : pc + 1 = pc') (K : OE p e R below s n0 Q T (mkF m pc' Ls (.int v :: st))) : OE p e R below s n0 Q T (mkF m pc Ls st) := by
  obtain ⟨hx, hZ, hown, hby, hmx, hret, hnm, hlk, h0, hT, locs, S, N⟩ := X; subst hp hv
  exact OE.by (fun t q => XS.iconst S.here hx rfl (hb hby hd) q) K
theorem o_bipush (X : OW p l e R s m args below meth c Z y bytes mx ret n0 T h k n) {i : Int} {v : Int32} (hd : decode bytes pc = .ok (.bipush i, 2)) (hv : (Int8.ofInt i).toInt32 = v) (pc' : Nat) (hp : pc + 2 = pc') (K : OE p e R below s n0 Q T (mkF m pc' Ls (.int v :: st))) : OE p e R below s n0 Q T (mkF m pc Ls st) := by
  obtain ⟨hx, hZ, hown, hby, hmx, hret, hnm, hlk, h0, hT, locs, S, N⟩ := X; subst hp hv
  exact OE.by (fun t q => XS.bipush S.here hx rfl (hb hby hd) q) K
theorem o_sipush (X : OW p l e R s m args below meth c Z y bytes mx ret n0 T h k n) {i : Int} {v : Int32} (hd : decode bytes pc = .ok (.sipush i, 3)) (hv : (Int16.ofInt i).toInt32 = v) (pc' : Nat) (hp : pc + 3 = pc') (K : OE p e R below s n0 Q T (mkF m pc' Ls (.int v :: st))) : OE p e R below s n0 Q T (mkF m pc Ls st) := by
  obtain ⟨hx, hZ, hown, hby, hmx, hret, hnm, hlk, h0, hT, locs, S, N⟩ := X; subst hp hv
  exact OE.by (fun t q => XS.sipush S.here hx rfl (hb hby hd) q) K
theorem o_lconst (X : OW p l e R s m args below meth c Z y bytes mx ret n0 T h k n) {i : Fin 2} {v : Int64} (hd : decode bytes pc = .ok (.lconst i, 1)) (hv : Int64.ofNat i = v) (pc' : Nat) (hp : pc + 1 = pc') (K : OE p e R below s n0 Q T (mkF m pc' Ls (.long v :: st))) : OE p e R below s n0 Q T (mkF m pc Ls st) := by
  obtain ⟨hx, hZ, hown, hby, hmx, hret, hnm, hlk, h0, hT, locs, S, N⟩ := X; subst hp hv
  exact OE.by (fun t q => XT.lconst S.here hx rfl (hb hby hd) q) K
theorem o_iadd (X : OW p l e R s m args below meth c Z y bytes mx ret n0 T h k n) {x z : Int32} (hd : decode bytes pc = .ok (.iadd, 1))  (pc' : Nat) (hp : pc + 1 = pc') (K : OE p e R below s n0 Q T (mkF m pc' Ls (.int (x + z) :: st))) : OE p e R below s n0 Q T (mkF m pc Ls (.int z :: .int x :: st)) := by
  obtain ⟨hx, hZ, hown, hby, hmx, hret, hnm, hlk, h0, hT, locs, S, N⟩ := X; subst hp
  exact OE.by (fun t q => XS.iadd S.here hx rfl (hb hby hd) rfl q) K
theorem o_isub (X : OW p l e R s m args below meth c Z y bytes mx ret n0 T h k n) {x z : Int32} (hd : decode bytes pc = .ok (.isub, 1))  (pc' : Nat) (hp : pc + 1 = pc') (K : OE p e R below s n0 Q T (mkF m pc' Ls (.int (x - z) :: st))) : OE p e R below s n0 Q T (mkF m pc Ls (.int z :: .int x :: st)) := by
  obtain ⟨hx, hZ, hown, hby, hmx, hret, hnm, hlk, h0, hT, locs, S, N⟩ := X; subst hp
  exact OE.by (fun t q => XS.isub S.here hx rfl (hb hby hd) rfl q) K
theorem o_imul (X : OW p l e R s m args below meth c Z y bytes mx ret n0 T h k n) {x z : Int32} (hd : decode bytes pc = .ok (.imul, 1))  (pc' : Nat) (hp : pc + 1 = pc') (K : OE p e R below s n0 Q T (mkF m pc' Ls (.int (x * z) :: st))) : OE p e R below s n0 Q T (mkF m pc Ls (.int z :: .int x :: st)) := by
  obtain ⟨hx, hZ, hown, hby, hmx, hret, hnm, hlk, h0, hT, locs, S, N⟩ := X; subst hp
  exact OE.by (fun t q => XS.imul S.here hx rfl (hb hby hd) rfl q) K
theorem o_iand (X : OW p l e R s m args below meth c Z y bytes mx ret n0 T h k n) {x z : Int32} (hd : decode bytes pc = .ok (.iand, 1))  (pc' : Nat) (hp : pc + 1 = pc') (K : OE p e R below s n0 Q T (mkF m pc' Ls (.int (x &&& z) :: st))) : OE p e R below s n0 Q T (mkF m pc Ls (.int z :: .int x :: st)) := by
  obtain ⟨hx, hZ, hown, hby, hmx, hret, hnm, hlk, h0, hT, locs, S, N⟩ := X; subst hp
  exact OE.by (fun t q => XS.iand S.here hx rfl (hb hby hd) rfl q) K
theorem o_ior (X : OW p l e R s m args below meth c Z y bytes mx ret n0 T h k n) {x z : Int32} (hd : decode bytes pc = .ok (.ior, 1))  (pc' : Nat) (hp : pc + 1 = pc') (K : OE p e R below s n0 Q T (mkF m pc' Ls (.int (x ||| z) :: st))) : OE p e R below s n0 Q T (mkF m pc Ls (.int z :: .int x :: st)) := by
  obtain ⟨hx, hZ, hown, hby, hmx, hret, hnm, hlk, h0, hT, locs, S, N⟩ := X; subst hp
  exact OE.by (fun t q => XT.ior S.here hx rfl (hb hby hd) rfl q) K
theorem o_ixor (X : OW p l e R s m args below meth c Z y bytes mx ret n0 T h k n) {x z : Int32} (hd : decode bytes pc = .ok (.ixor, 1))  (pc' : Nat) (hp : pc + 1 = pc') (K : OE p e R below s n0 Q T (mkF m pc' Ls (.int (x ^^^ z) :: st))) : OE p e R below s n0 Q T (mkF m pc Ls (.int z :: .int x :: st)) := by
  obtain ⟨hx, hZ, hown, hby, hmx, hret, hnm, hlk, h0, hT, locs, S, N⟩ := X; subst hp
  exact OE.by (fun t q => XT.ixor S.here hx rfl (hb hby hd) rfl q) K
theorem o_ishl (X : OW p l e R s m args below meth c Z y bytes mx ret n0 T h k n) {x z : Int32} (hd : decode bytes pc = .ok (.ishl, 1))  (pc' : Nat) (hp : pc + 1 = pc') (K : OE p e R below s n0 Q T (mkF m pc' Ls (.int (x <<< (z &&& 31)) :: st))) : OE p e R below s n0 Q T (mkF m pc Ls (.int z :: .int x :: st)) := by
  obtain ⟨hx, hZ, hown, hby, hmx, hret, hnm, hlk, h0, hT, locs, S, N⟩ := X; subst hp
  exact OE.by (fun t q => XT.ishl S.here hx rfl (hb hby hd) rfl q) K
theorem o_ishr (X : OW p l e R s m args below meth c Z y bytes mx ret n0 T h k n) {x z : Int32} (hd : decode bytes pc = .ok (.ishr, 1))  (pc' : Nat) (hp : pc + 1 = pc') (K : OE p e R below s n0 Q T (mkF m pc' Ls (.int (x >>> (z &&& 31)) :: st))) : OE p e R below s n0 Q T (mkF m pc Ls (.int z :: .int x :: st)) := by
  obtain ⟨hx, hZ, hown, hby, hmx, hret, hnm, hlk, h0, hT, locs, S, N⟩ := X; subst hp
  exact OE.by (fun t q => XT.ishr S.here hx rfl (hb hby hd) rfl q) K
theorem o_iushr (X : OW p l e R s m args below meth c Z y bytes mx ret n0 T h k n) {x z : Int32} (hd : decode bytes pc = .ok (.iushr, 1))  (pc' : Nat) (hp : pc + 1 = pc') (K : OE p e R below s n0 Q T (mkF m pc' Ls (.int (XT.ushr x z) :: st))) : OE p e R below s n0 Q T (mkF m pc Ls (.int z :: .int x :: st)) := by
  obtain ⟨hx, hZ, hown, hby, hmx, hret, hnm, hlk, h0, hT, locs, S, N⟩ := X; subst hp
  exact OE.by (fun t q => XT.iushr S.here hx rfl (hb hby hd) rfl q) K
theorem o_idiv (X : OW p l e R s m args below meth c Z y bytes mx ret n0 T h k n) {x z : Int32} (hd : decode bytes pc = .ok (.idiv, 1)) (hz : z ≠ 0) (pc' : Nat) (hp : pc + 1 = pc') (K : OE p e R below s n0 Q T (mkF m pc' Ls (.int (x / z) :: st))) : OE p e R below s n0 Q T (mkF m pc Ls (.int z :: .int x :: st)) := by
  obtain ⟨hx, hZ, hown, hby, hmx, hret, hnm, hlk, h0, hT, locs, S, N⟩ := X; subst hp
  exact OE.by (fun t q => XS.idiv S.here hx rfl (hb hby hd) rfl hz q) K
theorem o_irem (X : OW p l e R s m args below meth c Z y bytes mx ret n0 T h k n) {x z : Int32} (hd : decode bytes pc = .ok (.irem, 1)) (hz : z ≠ 0) (pc' : Nat) (hp : pc + 1 = pc') (K : OE p e R below s n0 Q T (mkF m pc' Ls (.int (x % z) :: st))) : OE p e R below s n0 Q T (mkF m pc Ls (.int z :: .int x :: st)) := by
  obtain ⟨hx, hZ, hown, hby, hmx, hret, hnm, hlk, h0, hT, locs, S, N⟩ := X; subst hp
  exact OE.by (fun t q => iremM S hx rfl (hb hby hd) rfl hz q) K
theorem o_ladd (X : OW p l e R s m args below meth c Z y bytes mx ret n0 T h k n) {x z : Int64} (hd : decode bytes pc = .ok (.ladd, 1))  (pc' : Nat) (hp : pc + 1 = pc') (K : OE p e R below s n0 Q T (mkF m pc' Ls (.long (x + z) :: st))) : OE p e R below s n0 Q T (mkF m pc Ls (.long z :: .long x :: st)) := by
  obtain ⟨hx, hZ, hown, hby, hmx, hret, hnm, hlk, h0, hT, locs, S, N⟩ := X; subst hp
  exact OE.by (fun t q => XT.ladd S.here hx rfl (hb hby hd) rfl q) K
theorem o_lsub (X : OW p l e R s m args below meth c Z y bytes mx ret n0 T h k n) {x z : Int64} (hd : decode bytes pc = .ok (.lsub, 1))  (pc' : Nat) (hp : pc + 1 = pc') (K : OE p e R below s n0 Q T (mkF m pc' Ls (.long (x - z) :: st))) : OE p e R below s n0 Q T (mkF m pc Ls (.long z :: .long x :: st)) := by
  obtain ⟨hx, hZ, hown, hby, hmx, hret, hnm, hlk, h0, hT, locs, S, N⟩ := X; subst hp
  exact OE.by (fun t q => XT.lsub S.here hx rfl (hb hby hd) rfl q) K
theorem o_lor (X : OW p l e R s m args below meth c Z y bytes mx ret n0 T h k n) {x z : Int64} (hd : decode bytes pc = .ok (.lor, 1))  (pc' : Nat) (hp : pc + 1 = pc') (K : OE p e R below s n0 Q T (mkF m pc' Ls (.long (x ||| z) :: st))) : OE p e R below s n0 Q T (mkF m pc Ls (.long z :: .long x :: st)) := by
  obtain ⟨hx, hZ, hown, hby, hmx, hret, hnm, hlk, h0, hT, locs, S, N⟩ := X; subst hp
  exact OE.by (fun t q => XT.lor S.here hx rfl (hb hby hd) rfl q) K
theorem o_land (X : OW p l e R s m args below meth c Z y bytes mx ret n0 T h k n) {x z : Int64} (hd : decode bytes pc = .ok (.land, 1))  (pc' : Nat) (hp : pc + 1 = pc') (K : OE p e R below s n0 Q T (mkF m pc' Ls (.long (x &&& z) :: st))) : OE p e R below s n0 Q T (mkF m pc Ls (.long z :: .long x :: st)) := by
  obtain ⟨hx, hZ, hown, hby, hmx, hret, hnm, hlk, h0, hT, locs, S, N⟩ := X; subst hp
  exact OE.by (fun t q => XT.land S.here hx rfl (hb hby hd) rfl q) K
theorem o_lmul (X : OW p l e R s m args below meth c Z y bytes mx ret n0 T h k n) {x z : Int64} (hd : decode bytes pc = .ok (.lmul, 1))  (pc' : Nat) (hp : pc + 1 = pc') (K : OE p e R below s n0 Q T (mkF m pc' Ls (.long (x * z) :: st))) : OE p e R below s n0 Q T (mkF m pc Ls (.long z :: .long x :: st)) := by
  obtain ⟨hx, hZ, hown, hby, hmx, hret, hnm, hlk, h0, hT, locs, S, N⟩ := X; subst hp
  exact OE.by (fun t q => XT.lmul S.here hx rfl (hb hby hd) rfl q) K
theorem o_lshl (X : OW p l e R s m args below meth c Z y bytes mx ret n0 T h k n) {x : Int64} {z : Int32} (hd : decode bytes pc = .ok (.lshl, 1))  (pc' : Nat) (hp : pc + 1 = pc') (K : OE p e R below s n0 Q T (mkF m pc' Ls (.long (x <<< (z.toInt64 &&& 63)) :: st))) : OE p e R below s n0 Q T (mkF m pc Ls (.int z :: .long x :: st)) := by
  obtain ⟨hx, hZ, hown, hby, hmx, hret, hnm, hlk, h0, hT, locs, S, N⟩ := X; subst hp
  exact OE.by (fun t q => XT.lshl S.here hx rfl (hb hby hd) rfl q) K
theorem o_lushr (X : OW p l e R s m args below meth c Z y bytes mx ret n0 T h k n) {x : Int64} {z : Int32} (hd : decode bytes pc = .ok (.lushr, 1))  (pc' : Nat) (hp : pc + 1 = pc') (K : OE p e R below s n0 Q T (mkF m pc' Ls (.long (XT.ushrL x z) :: st))) : OE p e R below s n0 Q T (mkF m pc Ls (.int z :: .long x :: st)) := by
  obtain ⟨hx, hZ, hown, hby, hmx, hret, hnm, hlk, h0, hT, locs, S, N⟩ := X; subst hp
  exact OE.by (fun t q => XT.lushr S.here hx rfl (hb hby hd) rfl q) K
theorem o_lcmp (X : OW p l e R s m args below meth c Z y bytes mx ret n0 T h k n) {x z : Int64} (hd : decode bytes pc = .ok (.lcmp, 1))  (pc' : Nat) (hp : pc + 1 = pc') (K : OE p e R below s n0 Q T (mkF m pc' Ls (.int (XT.cmpL x z) :: st))) : OE p e R below s n0 Q T (mkF m pc Ls (.long z :: .long x :: st)) := by
  obtain ⟨hx, hZ, hown, hby, hmx, hret, hnm, hlk, h0, hT, locs, S, N⟩ := X; subst hp
  exact OE.by (fun t q => XT.lcmp S.here hx rfl (hb hby hd) rfl q) K
theorem o_i2l (X : OW p l e R s m args below meth c Z y bytes mx ret n0 T h k n) {x : Int32} (hd : decode bytes pc = .ok (.i2l, 1))  (pc' : Nat) (hp : pc + 1 = pc') (K : OE p e R below s n0 Q T (mkF m pc' Ls (.long x.toInt64 :: st))) : OE p e R below s n0 Q T (mkF m pc Ls (.int x :: st)) := by
  obtain ⟨hx, hZ, hown, hby, hmx, hret, hnm, hlk, h0, hT, locs, S, N⟩ := X; subst hp
  exact OE.by (fun t q => XT.i2l S.here hx rfl (hb hby hd) rfl q) K
theorem o_l2i (X : OW p l e R s m args below meth c Z y bytes mx ret n0 T h k n) {x : Int64} (hd : decode bytes pc = .ok (.l2i, 1))  (pc' : Nat) (hp : pc + 1 = pc') (K : OE p e R below s n0 Q T (mkF m pc' Ls (.int x.toInt32 :: st))) : OE p e R below s n0 Q T (mkF m pc Ls (.long x :: st)) := by
  obtain ⟨hx, hZ, hown, hby, hmx, hret, hnm, hlk, h0, hT, locs, S, N⟩ := X; subst hp
  exact OE.by (fun t q => XT.l2i S.here hx rfl (hb hby hd) rfl q) K
theorem o_i2b (X : OW p l e R s m args below meth c Z y bytes mx ret n0 T h k n) {x : Int32} (hd : decode bytes pc = .ok (.i2b, 1))  (pc' : Nat) (hp : pc + 1 = pc') (K : OE p e R below s n0 Q T (mkF m pc' Ls (.int x.toInt8.toInt32 :: st))) : OE p e R below s n0 Q T (mkF m pc Ls (.int x :: st)) := by
  obtain ⟨hx, hZ, hown, hby, hmx, hret, hnm, hlk, h0, hT, locs, S, N⟩ := X; subst hp
  exact OE.by (fun t q => XT.i2b S.here hx rfl (hb hby hd) rfl q) K
theorem o_i2c (X : OW p l e R s m args below meth c Z y bytes mx ret n0 T h k n) {x : Int32} (hd : decode bytes pc = .ok (.i2c, 1))  (pc' : Nat) (hp : pc + 1 = pc') (K : OE p e R below s n0 Q T (mkF m pc' Ls (.int x.toUInt32.toUInt16.toUInt32.toInt32 :: st))) : OE p e R below s n0 Q T (mkF m pc Ls (.int x :: st)) := by
  obtain ⟨hx, hZ, hown, hby, hmx, hret, hnm, hlk, h0, hT, locs, S, N⟩ := X; subst hp
  exact OE.by (fun t q => XT.i2c S.here hx rfl (hb hby hd) rfl q) K
theorem o_dup (X : OW p l e R s m args below meth c Z y bytes mx ret n0 T h k n) {v : Value} (hd : decode bytes pc = .ok (.dup, 1)) (hc : v.category = 1) (pc' : Nat) (hp : pc + 1 = pc') (K : OE p e R below s n0 Q T (mkF m pc' Ls (v :: v :: st))) : OE p e R below s n0 Q T (mkF m pc Ls (v :: st)) := by
  obtain ⟨hx, hZ, hown, hby, hmx, hret, hnm, hlk, h0, hT, locs, S, N⟩ := X; subst hp
  exact OE.by (fun t q => XS.dup S.here hx rfl (hb hby hd) rfl hc q) K
theorem o_pop (X : OW p l e R s m args below meth c Z y bytes mx ret n0 T h k n) {v : Value} (hd : decode bytes pc = .ok (.pop, 1)) (hc : v.category = 1) (pc' : Nat) (hp : pc + 1 = pc') (K : OE p e R below s n0 Q T (mkF m pc' Ls st)) : OE p e R below s n0 Q T (mkF m pc Ls (v :: st)) := by
  obtain ⟨hx, hZ, hown, hby, hmx, hret, hnm, hlk, h0, hT, locs, S, N⟩ := X; subst hp
  exact OE.by (fun t q => XT.pop S.here hx rfl (hb hby hd) rfl hc q) K
theorem o_dupX1 (X : OW p l e R s m args below meth c Z y bytes mx ret n0 T h k n) {v w : Value} (hd : decode bytes pc = .ok (.dup_x1, 1)) (hc : v.category = 1) (hc' : w.category = 1) (pc' : Nat) (hp : pc + 1 = pc') (K : OE p e R below s n0 Q T (mkF m pc' Ls (v :: w :: v :: st))) : OE p e R below s n0 Q T (mkF m pc Ls (v :: w :: st)) := by
  obtain ⟨hx, hZ, hown, hby, hmx, hret, hnm, hlk, h0, hT, locs, S, N⟩ := X; subst hp
  exact OE.by (fun t q => XT.dupX1 S.here hx rfl (hb hby hd) rfl hc hc' q) K
theorem o_dup2 (X : OW p l e R s m args below meth c Z y bytes mx ret n0 T h k n) {v w : Value} (hd : decode bytes pc = .ok (.dup2, 1)) (hc : v.category = 1) (hc' : w.category = 1) (pc' : Nat) (hp : pc + 1 = pc') (K : OE p e R below s n0 Q T (mkF m pc' Ls (v :: w :: v :: w :: st))) : OE p e R below s n0 Q T (mkF m pc Ls (v :: w :: st)) := by
  obtain ⟨hx, hZ, hown, hby, hmx, hret, hnm, hlk, h0, hT, locs, S, N⟩ := X; subst hp
  exact OE.by (fun t q => XT.dup2 S.here hx rfl (hb hby hd) rfl hc hc' q) K
theorem o_istoreN (X : OW p l e R s m args below meth c Z y bytes mx ret n0 T h k n) {j : Fin 4} {v : Int32} (hd : decode bytes pc = .ok (.istore_n j, 1)) (Ls' : Array Slot) (hl : storeLocals Ls j.val (.int v) = some Ls') (pc' : Nat) (hp : pc + 1 = pc') (K : OE p e R below s n0 Q T (mkF m pc' Ls' st)) : OE p e R below s n0 Q T (mkF m pc Ls (.int v :: st)) := by
  obtain ⟨hx, hZ, hown, hby, hmx, hret, hnm, hlk, h0, hT, locs, S, N⟩ := X; subst hp
  exact OE.by (fun t q => XS.istoreN S.here hx rfl (hb hby hd) rfl hl q) K
theorem o_istore (X : OW p l e R s m args below meth c Z y bytes mx ret n0 T h k n) {j : Nat} {v : Int32} (hd : decode bytes pc = .ok (.istore j, 2)) (Ls' : Array Slot) (hl : storeLocals Ls j (.int v) = some Ls') (pc' : Nat) (hp : pc + 2 = pc') (K : OE p e R below s n0 Q T (mkF m pc' Ls' st)) : OE p e R below s n0 Q T (mkF m pc Ls (.int v :: st)) := by
  obtain ⟨hx, hZ, hown, hby, hmx, hret, hnm, hlk, h0, hT, locs, S, N⟩ := X; subst hp
  exact OE.by (fun t q => XS.istore S.here hx rfl (hb hby hd) rfl hl q) K
theorem o_lstoreN (X : OW p l e R s m args below meth c Z y bytes mx ret n0 T h k n) {j : Fin 4} {v : Int64} (hd : decode bytes pc = .ok (.lstore_n j, 1)) (Ls' : Array Slot) (hl : storeLocals Ls j.val (.long v) = some Ls') (pc' : Nat) (hp : pc + 1 = pc') (K : OE p e R below s n0 Q T (mkF m pc' Ls' st)) : OE p e R below s n0 Q T (mkF m pc Ls (.long v :: st)) := by
  obtain ⟨hx, hZ, hown, hby, hmx, hret, hnm, hlk, h0, hT, locs, S, N⟩ := X; subst hp
  exact OE.by (fun t q => XT.lstoreN S.here hx rfl (hb hby hd) rfl hl q) K
theorem o_lstore (X : OW p l e R s m args below meth c Z y bytes mx ret n0 T h k n) {j : Nat} {v : Int64} (hd : decode bytes pc = .ok (.lstore j, 2)) (Ls' : Array Slot) (hl : storeLocals Ls j (.long v) = some Ls') (pc' : Nat) (hp : pc + 2 = pc') (K : OE p e R below s n0 Q T (mkF m pc' Ls' st)) : OE p e R below s n0 Q T (mkF m pc Ls (.long v :: st)) := by
  obtain ⟨hx, hZ, hown, hby, hmx, hret, hnm, hlk, h0, hT, locs, S, N⟩ := X; subst hp
  exact OE.by (fun t q => XT.lstore S.here hx rfl (hb hby hd) rfl hl q) K
theorem o_astoreN (X : OW p l e R s m args below meth c Z y bytes mx ret n0 T h k n) {j : Fin 4} {v : Value} (hd : decode bytes pc = .ok (.astore_n j, 1)) (hv : v.isRef = true) (Ls' : Array Slot) (hl : storeLocals Ls j.val v = some Ls') (pc' : Nat) (hp : pc + 1 = pc') (K : OE p e R below s n0 Q T (mkF m pc' Ls' st)) : OE p e R below s n0 Q T (mkF m pc Ls (v :: st)) := by
  obtain ⟨hx, hZ, hown, hby, hmx, hret, hnm, hlk, h0, hT, locs, S, N⟩ := X; subst hp
  exact OE.by (fun t q => XS.astoreN S.here hx rfl (hb hby hd) rfl hv hl q) K
theorem o_astore (X : OW p l e R s m args below meth c Z y bytes mx ret n0 T h k n) {j : Nat} {v : Value} (hd : decode bytes pc = .ok (.astore j, 2)) (hv : v.isRef = true) (Ls' : Array Slot) (hl : storeLocals Ls j v = some Ls') (pc' : Nat) (hp : pc + 2 = pc') (K : OE p e R below s n0 Q T (mkF m pc' Ls' st)) : OE p e R below s n0 Q T (mkF m pc Ls (v :: st)) := by
  obtain ⟨hx, hZ, hown, hby, hmx, hret, hnm, hlk, h0, hT, locs, S, N⟩ := X; subst hp
  exact OE.by (fun t q => XS.astore S.here hx rfl (hb hby hd) rfl hv hl q) K
theorem o_iinc (X : OW p l e R s m args below meth c Z y bytes mx ret n0 T h k n) {j : Nat} {i : Int} {v w : Int32} (hd : decode bytes pc = .ok (.iinc j i, 3)) (hg : Ls[j]? = some (.val (.int v))) (hw : v + Int32.ofInt i = w) (Ls' : Array Slot) (hl : storeLocals Ls j (.int w) = some Ls') (pc' : Nat) (hp : pc + 3 = pc') (K : OE p e R below s n0 Q T (mkF m pc' Ls' st)) : OE p e R below s n0 Q T (mkF m pc Ls st) := by
  obtain ⟨hx, hZ, hown, hby, hmx, hret, hnm, hlk, h0, hT, locs, S, N⟩ := X; subst hp hw
  exact OE.by (fun t q => XS.iinc S.here hx rfl (hb hby hd) hg hl q) K
theorem o_goto (X : OW p l e R s m args below meth c Z y bytes mx ret n0 T h k n) {o : Int} (hd : decode bytes pc = .ok (.goto o, 3)) (pc' : Nat) (ho : 0 ≤ (pc : Int) + o) (hp : ((pc : Int) + o).toNat = pc') (K : OE p e R below s n0 Q T (mkF m pc' Ls st)) : OE p e R below s n0 Q T (mkF m pc Ls st) := by
  obtain ⟨hx, hZ, hown, hby, hmx, hret, hnm, hlk, h0, hT, locs, S, N⟩ := X
  exact OE.by (fun t q => XS.goto S.here hx rfl rfl (hb hby hd) ho hp q) K
theorem o_icmpEq (X : OW p l e R s m args below meth c Z y bytes mx ret n0 T h k n) {o : Int} {x z : Int32} (hd : decode bytes pc = .ok (.if_icmp .eq o, 3)) (pcT pcF : Nat) (ho : 0 ≤ (pc : Int) + o) (hT : ((pc : Int) + o).toNat = pcT) (hF : pc + 3 = pcF) (KT : x = z → OE p e R below s n0 Q T (mkF m pcT Ls st)) (KF : ¬ x = z → OE p e R below s n0 Q T (mkF m pcF Ls st)) : OE p e R below s n0 Q T (mkF m pc Ls (.int z :: .int x :: st)) := by
  obtain ⟨hx, hZ, hown, hby, hmx, hret, hnm, hlk, h0, hT', locs, S, N⟩ := X; subst hF
  by_cases q : x = z
  · exact OE.by (fun t r => XS.icmpYes S.here hx rfl rfl (hb hby hd) rfl ((teq q).1) ho hT r) (KT q)
  · exact OE.by (fun t r => XS.icmpNo S.here hx rfl (hb hby hd) rfl ((feq q).1) r) (KF q)
theorem o_ifEq (X : OW p l e R s m args below meth c Z y bytes mx ret n0 T h k n) {o : Int} {x : Int32} (hd : decode bytes pc = .ok (.ifCond .eq o, 3)) (pcT pcF : Nat) (ho : 0 ≤ (pc : Int) + o) (hT : ((pc : Int) + o).toNat = pcT) (hF : pc + 3 = pcF) (KT : x = 0 → OE p e R below s n0 Q T (mkF m pcT Ls st)) (KF : ¬ x = 0 → OE p e R below s n0 Q T (mkF m pcF Ls st)) : OE p e R below s n0 Q T (mkF m pc Ls (.int x :: st)) := by
  obtain ⟨hx, hZ, hown, hby, hmx, hret, hnm, hlk, h0, hT', locs, S, N⟩ := X; subst hF
  by_cases q : x = 0
  · exact OE.by (fun t r => XS.ifYes S.here hx rfl rfl (hb hby hd) rfl ((if0 _ _).trans (teq q).1) ho hT r) (KT q)
  · exact OE.by (fun t r => XS.ifNo S.here hx rfl (hb hby hd) rfl ((if0 _ _).trans (feq q).1) r) (KF q)
theorem o_icmpNe (X : OW p l e R s m args below meth c Z y bytes mx ret n0 T h k n) {o : Int} {x z : Int32} (hd : decode bytes pc = .ok (.if_icmp .ne o, 3)) (pcT pcF : Nat) (ho : 0 ≤ (pc : Int) + o) (hT : ((pc : Int) + o).toNat = pcT) (hF : pc + 3 = pcF) (KT : ¬ x = z → OE p e R below s n0 Q T (mkF m pcT Ls st)) (KF : x = z → OE p e R below s n0 Q T (mkF m pcF Ls st)) : OE p e R below s n0 Q T (mkF m pc Ls (.int z :: .int x :: st)) := by
  obtain ⟨hx, hZ, hown, hby, hmx, hret, hnm, hlk, h0, hT', locs, S, N⟩ := X; subst hF
  by_cases q : x = z
  · exact OE.by (fun t r => XS.icmpNo S.here hx rfl (hb hby hd) rfl ((teq q).2) r) (KF q)
  · exact OE.by (fun t r => XS.icmpYes S.here hx rfl rfl (hb hby hd) rfl ((feq q).2) ho hT r) (KT q)
theorem o_ifNe (X : OW p l e R s m args below meth c Z y bytes mx ret n0 T h k n) {o : Int} {x : Int32} (hd : decode bytes pc = .ok (.ifCond .ne o, 3)) (pcT pcF : Nat) (ho : 0 ≤ (pc : Int) + o) (hT : ((pc : Int) + o).toNat = pcT) (hF : pc + 3 = pcF) (KT : ¬ x = 0 → OE p e R below s n0 Q T (mkF m pcT Ls st)) (KF : x = 0 → OE p e R below s n0 Q T (mkF m pcF Ls st)) : OE p e R below s n0 Q T (mkF m pc Ls (.int x :: st)) := by
  obtain ⟨hx, hZ, hown, hby, hmx, hret, hnm, hlk, h0, hT', locs, S, N⟩ := X; subst hF
  by_cases q : x = 0
  · exact OE.by (fun t r => XS.ifNo S.here hx rfl (hb hby hd) rfl ((if0 _ _).trans (teq q).2) r) (KF q)
  · exact OE.by (fun t r => XS.ifYes S.here hx rfl rfl (hb hby hd) rfl ((if0 _ _).trans (feq q).2) ho hT r) (KT q)
theorem o_icmpLt (X : OW p l e R s m args below meth c Z y bytes mx ret n0 T h k n) {o : Int} {x z : Int32} (hd : decode bytes pc = .ok (.if_icmp .lt o, 3)) (pcT pcF : Nat) (ho : 0 ≤ (pc : Int) + o) (hT : ((pc : Int) + o).toNat = pcT) (hF : pc + 3 = pcF) (KT : x < z → OE p e R below s n0 Q T (mkF m pcT Ls st)) (KF : ¬ x < z → OE p e R below s n0 Q T (mkF m pcF Ls st)) : OE p e R below s n0 Q T (mkF m pc Ls (.int z :: .int x :: st)) := by
  obtain ⟨hx, hZ, hown, hby, hmx, hret, hnm, hlk, h0, hT', locs, S, N⟩ := X; subst hF
  by_cases q : x < z
  · exact OE.by (fun t r => XS.icmpYes S.here hx rfl rfl (hb hby hd) rfl ((tlt q).1) ho hT r) (KT q)
  · exact OE.by (fun t r => XS.icmpNo S.here hx rfl (hb hby hd) rfl ((flt q).1) r) (KF q)
theorem o_ifLt (X : OW p l e R s m args below meth c Z y bytes mx ret n0 T h k n) {o : Int} {x : Int32} (hd : decode bytes pc = .ok (.ifCond .lt o, 3)) (pcT pcF : Nat) (ho : 0 ≤ (pc : Int) + o) (hT : ((pc : Int) + o).toNat = pcT) (hF : pc + 3 = pcF) (KT : x < 0 → OE p e R below s n0 Q T (mkF m pcT Ls st)) (KF : ¬ x < 0 → OE p e R below s n0 Q T (mkF m pcF Ls st)) : OE p e R below s n0 Q T (mkF m pc Ls (.int x :: st)) := by
  obtain ⟨hx, hZ, hown, hby, hmx, hret, hnm, hlk, h0, hT', locs, S, N⟩ := X; subst hF
  by_cases q : x < 0
  · exact OE.by (fun t r => XS.ifYes S.here hx rfl rfl (hb hby hd) rfl ((if0 _ _).trans (tlt q).1) ho hT r) (KT q)
  · exact OE.by (fun t r => XS.ifNo S.here hx rfl (hb hby hd) rfl ((if0 _ _).trans (flt q).1) r) (KF q)
theorem o_icmpGe (X : OW p l e R s m args below meth c Z y bytes mx ret n0 T h k n) {o : Int} {x z : Int32} (hd : decode bytes pc = .ok (.if_icmp .ge o, 3)) (pcT pcF : Nat) (ho : 0 ≤ (pc : Int) + o) (hT : ((pc : Int) + o).toNat = pcT) (hF : pc + 3 = pcF) (KT : ¬ x < z → OE p e R below s n0 Q T (mkF m pcT Ls st)) (KF : x < z → OE p e R below s n0 Q T (mkF m pcF Ls st)) : OE p e R below s n0 Q T (mkF m pc Ls (.int z :: .int x :: st)) := by
  obtain ⟨hx, hZ, hown, hby, hmx, hret, hnm, hlk, h0, hT', locs, S, N⟩ := X; subst hF
  by_cases q : x < z
  · exact OE.by (fun t r => XS.icmpNo S.here hx rfl (hb hby hd) rfl ((tlt q).2.1) r) (KF q)
  · exact OE.by (fun t r => XS.icmpYes S.here hx rfl rfl (hb hby hd) rfl ((flt q).2.1) ho hT r) (KT q)
theorem o_ifGe (X : OW p l e R s m args below meth c Z y bytes mx ret n0 T h k n) {o : Int} {x : Int32} (hd : decode bytes pc = .ok (.ifCond .ge o, 3)) (pcT pcF : Nat) (ho : 0 ≤ (pc : Int) + o) (hT : ((pc : Int) + o).toNat = pcT) (hF : pc + 3 = pcF) (KT : ¬ x < 0 → OE p e R below s n0 Q T (mkF m pcT Ls st)) (KF : x < 0 → OE p e R below s n0 Q T (mkF m pcF Ls st)) : OE p e R below s n0 Q T (mkF m pc Ls (.int x :: st)) := by
  obtain ⟨hx, hZ, hown, hby, hmx, hret, hnm, hlk, h0, hT', locs, S, N⟩ := X; subst hF
  by_cases q : x < 0
  · exact OE.by (fun t r => XS.ifNo S.here hx rfl (hb hby hd) rfl ((if0 _ _).trans (tlt q).2.1) r) (KF q)
  · exact OE.by (fun t r => XS.ifYes S.here hx rfl rfl (hb hby hd) rfl ((if0 _ _).trans (flt q).2.1) ho hT r) (KT q)
theorem o_icmpGt (X : OW p l e R s m args below meth c Z y bytes mx ret n0 T h k n) {o : Int} {x z : Int32} (hd : decode bytes pc = .ok (.if_icmp .gt o, 3)) (pcT pcF : Nat) (ho : 0 ≤ (pc : Int) + o) (hT : ((pc : Int) + o).toNat = pcT) (hF : pc + 3 = pcF) (KT : z < x → OE p e R below s n0 Q T (mkF m pcT Ls st)) (KF : ¬ z < x → OE p e R below s n0 Q T (mkF m pcF Ls st)) : OE p e R below s n0 Q T (mkF m pc Ls (.int z :: .int x :: st)) := by
  obtain ⟨hx, hZ, hown, hby, hmx, hret, hnm, hlk, h0, hT', locs, S, N⟩ := X; subst hF
  by_cases q : z < x
  · exact OE.by (fun t r => XS.icmpYes S.here hx rfl rfl (hb hby hd) rfl ((tlt q).2.2.1) ho hT r) (KT q)
  · exact OE.by (fun t r => XS.icmpNo S.here hx rfl (hb hby hd) rfl ((flt q).2.2.1) r) (KF q)
theorem o_ifGt (X : OW p l e R s m args below meth c Z y bytes mx ret n0 T h k n) {o : Int} {x : Int32} (hd : decode bytes pc = .ok (.ifCond .gt o, 3)) (pcT pcF : Nat) (ho : 0 ≤ (pc : Int) + o) (hT : ((pc : Int) + o).toNat = pcT) (hF : pc + 3 = pcF) (KT : 0 < x → OE p e R below s n0 Q T (mkF m pcT Ls st)) (KF : ¬ 0 < x → OE p e R below s n0 Q T (mkF m pcF Ls st)) : OE p e R below s n0 Q T (mkF m pc Ls (.int x :: st)) := by
  obtain ⟨hx, hZ, hown, hby, hmx, hret, hnm, hlk, h0, hT', locs, S, N⟩ := X; subst hF
  by_cases q : 0 < x
  · exact OE.by (fun t r => XS.ifYes S.here hx rfl rfl (hb hby hd) rfl ((if0 _ _).trans (tlt q).2.2.1) ho hT r) (KT q)
  · exact OE.by (fun t r => XS.ifNo S.here hx rfl (hb hby hd) rfl ((if0 _ _).trans (flt q).2.2.1) r) (KF q)
theorem o_icmpLe (X : OW p l e R s m args below meth c Z y bytes mx ret n0 T h k n) {o : Int} {x z : Int32} (hd : decode bytes pc = .ok (.if_icmp .le o, 3)) (pcT pcF : Nat) (ho : 0 ≤ (pc : Int) + o) (hT : ((pc : Int) + o).toNat = pcT) (hF : pc + 3 = pcF) (KT : ¬ z < x → OE p e R below s n0 Q T (mkF m pcT Ls st)) (KF : z < x → OE p e R below s n0 Q T (mkF m pcF Ls st)) : OE p e R below s n0 Q T (mkF m pc Ls (.int z :: .int x :: st)) := by
  obtain ⟨hx, hZ, hown, hby, hmx, hret, hnm, hlk, h0, hT', locs, S, N⟩ := X; subst hF
  by_cases q : z < x
  · exact OE.by (fun t r => XS.icmpNo S.here hx rfl (hb hby hd) rfl ((tlt q).2.2.2) r) (KF q)
  · exact OE.by (fun t r => XS.icmpYes S.here hx rfl rfl (hb hby hd) rfl ((flt q).2.2.2) ho hT r) (KT q)
theorem o_ifLe (X : OW p l e R s m args below meth c Z y bytes mx ret n0 T h k n) {o : Int} {x : Int32} (hd : decode bytes pc = .ok (.ifCond .le o, 3)) (pcT pcF : Nat) (ho : 0 ≤ (pc : Int) + o) (hT : ((pc : Int) + o).toNat = pcT) (hF : pc + 3 = pcF) (KT : ¬ 0 < x → OE p e R below s n0 Q T (mkF m pcT Ls st)) (KF : 0 < x → OE p e R below s n0 Q T (mkF m pcF Ls st)) : OE p e R below s n0 Q T (mkF m pc Ls (.int x :: st)) := by
  obtain ⟨hx, hZ, hown, hby, hmx, hret, hnm, hlk, h0, hT', locs, S, N⟩ := X; subst hF
  by_cases q : 0 < x
  · exact OE.by (fun t r => XS.ifNo S.here hx rfl (hb hby hd) rfl ((if0 _ _).trans (tlt q).2.2.2) r) (KF q)
  · exact OE.by (fun t r => XS.ifYes S.here hx rfl rfl (hb hby hd) rfl ((if0 _ _).trans (flt q).2.2.2) ho hT r) (KT q)
theorem o_ifnullR (X : OW p l e R s m args below meth c Z y bytes mx ret n0 T h k n) {o : Int} {a : Addr} (hd : decode bytes pc = .ok (.ifnull o, 3)) (pc' : Nat) (hp : pc + 3 = pc') (K : OE p e R below s n0 Q T (mkF m pc' Ls st)) : OE p e R below s n0 Q T (mkF m pc Ls (.ref a :: st)) := by
  obtain ⟨hx, hZ, hown, hby, hmx, hret, hnm, hlk, h0, hT, locs, S, N⟩ := X; subst hp
  exact OE.by (fun t q => XS.ifnullNo S.here hx rfl (hb hby hd) rfl q) K
theorem o_ifnonnullR (X : OW p l e R s m args below meth c Z y bytes mx ret n0 T h k n) {o : Int} {a : Addr} (hd : decode bytes pc = .ok (.ifnonnull o, 3)) (pc' : Nat) (ho : 0 ≤ (pc : Int) + o) (hp : ((pc : Int) + o).toNat = pc') (K : OE p e R below s n0 Q T (mkF m pc' Ls st)) : OE p e R below s n0 Q T (mkF m pc Ls (.ref a :: st)) := by
  obtain ⟨hx, hZ, hown, hby, hmx, hret, hnm, hlk, h0, hT, locs, S, N⟩ := X
  exact OE.by (fun t q => XT.ifnonnullYes S.here hx rfl rfl (hb hby hd) rfl ho hp q) K
theorem o_acmpEqN (X : OW p l e R s m args below meth c Z y bytes mx ret n0 T h k n) {o : Int} {a b : Addr} (hd : decode bytes pc = .ok (.if_acmp .eq o, 3)) (hab : a ≠ b) (pc' : Nat) (hp : pc + 3 = pc') (K : OE p e R below s n0 Q T (mkF m pc' Ls st)) : OE p e R below s n0 Q T (mkF m pc Ls (.ref b :: .ref a :: st)) := by
  obtain ⟨hx, hZ, hown, hby, hmx, hret, hnm, hlk, h0, hT, locs, S, N⟩ := X; subst hp
  exact OE.by (fun t q => XT.acmpNo S.here hx rfl (hb hby hd) rfl rfl rfl (decide_eq_false fun r => hab (Value.ref.inj r)) q) K
theorem o_acmpNeY (X : OW p l e R s m args below meth c Z y bytes mx ret n0 T h k n) {o : Int} {a b : Addr} (hd : decode bytes pc = .ok (.if_acmp .ne o, 3)) (hab : a ≠ b) (pc' : Nat) (ho : 0 ≤ (pc : Int) + o) (hp : ((pc : Int) + o).toNat = pc') (K : OE p e R below s n0 Q T (mkF m pc' Ls st)) : OE p e R below s n0 Q T (mkF m pc Ls (.ref b :: .ref a :: st)) := by
  obtain ⟨hx, hZ, hown, hby, hmx, hret, hnm, hlk, h0, hT, locs, S, N⟩ := X
  exact OE.by (fun t q => XT.acmpYes S.here hx rfl rfl (hb hby hd) rfl rfl rfl (decide_eq_true fun r => hab (Value.ref.inj r)) ho hp q) K
theorem o_ldc (X : OW p l e R s m args below meth c Z y bytes mx ret n0 T h k n) {i : Nat} {v : Int32} (hd : decode bytes pc = .ok (.ldc i, 2)) (w : (Cond.constant y.cls i v).before a0 Z = true) (pc' : Nat) (hp : pc + 2 = pc') (K : OE p e R below s n0 Q T (mkF m pc' Ls (.int v :: st))) : OE p e R below s n0 Q T (mkF m pc Ls st) := by
  obtain ⟨hx, hZ, hown, hby, hmx, hret, hnm, hlk, h0, hT, locs, S, N⟩ := X; subst hp
  exact OE.by (fun t q => S.ldcInt hx hown (mvT hZ w) (g := mkF m pc Ls st) rfl (hb hby hd) t q) K
theorem o_ldc2L (X : OW p l e R s m args below meth c Z y bytes mx ret n0 T h k n) {i : Nat} {v : Int64} (hd : decode bytes pc = .ok (.ldc2_w i, 3)) (w : (Cond.constantLong y.cls i v).before a0 Z = true) (pc' : Nat) (hp : pc + 3 = pc') (K : OE p e R below s n0 Q T (mkF m pc' Ls (.long v :: st))) : OE p e R below s n0 Q T (mkF m pc Ls st) := by
  obtain ⟨hx, hZ, hown, hby, hmx, hret, hnm, hlk, h0, hT, locs, S, N⟩ := X; subst hp
  exact OE.by (fun t q => S.ldc2Long hx hown (mvT hZ w) (g := mkF m pc Ls st) rfl (hb hby hd) t q) K
theorem o_retZ (X : OW p l e R s m args below meth c Z y bytes mx (some .boolean) n0 T h k n) {z : Int32} (hd : decode bytes pc = .ok (.ireturn, 1)) (hk : k ≤ R.cells) (hn : n ≤ R.slots) (hq : Q (some (.int (nar .boolean z))) h) : OE p e R below s n0 Q T (mkF m pc Ls (.int z :: st)) := by
  obtain ⟨hx, hZ, hown, hby, hmx, hret, hnm, hlk, h0, hT, locs, S, N⟩ := X
  obtain ⟨fs, hr, hrun, hended, hW, hsame⟩ := S.leave (v := some (.int (nar .boolean z))) (fun q => by rw [hret] at q; cases q) hlk
  exact ⟨_, _, retN S hx (t := .boolean) hret (by simp) (hb hby hd) hr, hrun, hended, _, _, rfl, ⟨by show Q _ T.heap; rw [hT]; exact hq, N⟩, ⟨_, rfl⟩, hW, hsame.mono hk hn⟩
theorem o_retB (X : OW p l e R s m args below meth c Z y bytes mx (some .byte) n0 T h k n) {z : Int32} (hd : decode bytes pc = .ok (.ireturn, 1)) (hk : k ≤ R.cells) (hn : n ≤ R.slots) (hq : Q (some (.int (nar .byte z))) h) : OE p e R below s n0 Q T (mkF m pc Ls (.int z :: st)) := by
  obtain ⟨hx, hZ, hown, hby, hmx, hret, hnm, hlk, h0, hT, locs, S, N⟩ := X
  obtain ⟨fs, hr, hrun, hended, hW, hsame⟩ := S.leave (v := some (.int (nar .byte z))) (fun q => by rw [hret] at q; cases q) hlk
  exact ⟨_, _, retN S hx (t := .byte) hret (by simp) (hb hby hd) hr, hrun, hended, _, _, rfl, ⟨by show Q _ T.heap; rw [hT]; exact hq, N⟩, ⟨_, rfl⟩, hW, hsame.mono hk hn⟩
theorem o_retC (X : OW p l e R s m args below meth c Z y bytes mx (some .char) n0 T h k n) {z : Int32} (hd : decode bytes pc = .ok (.ireturn, 1)) (hk : k ≤ R.cells) (hn : n ≤ R.slots) (hq : Q (some (.int (nar .char z))) h) : OE p e R below s n0 Q T (mkF m pc Ls (.int z :: st)) := by
  obtain ⟨hx, hZ, hown, hby, hmx, hret, hnm, hlk, h0, hT, locs, S, N⟩ := X
  obtain ⟨fs, hr, hrun, hended, hW, hsame⟩ := S.leave (v := some (.int (nar .char z))) (fun q => by rw [hret] at q; cases q) hlk
  exact ⟨_, _, retN S hx (t := .char) hret (by simp) (hb hby hd) hr, hrun, hended, _, _, rfl, ⟨by show Q _ T.heap; rw [hT]; exact hq, N⟩, ⟨_, rfl⟩, hW, hsame.mono hk hn⟩
theorem o_retI (X : OW p l e R s m args below meth c Z y bytes mx (some .int) n0 T h k n) {z : Int32} (hd : decode bytes pc = .ok (.ireturn, 1)) (hk : k ≤ R.cells) (hn : n ≤ R.slots) (hq : Q (some (.int z)) h) : OE p e R below s n0 Q T (mkF m pc Ls (.int z :: st)) := by
  obtain ⟨hx, hZ, hown, hby, hmx, hret, hnm, hlk, h0, hT, locs, S, N⟩ := X
  obtain ⟨fs, hr, hrun, hended, hW, hsame⟩ := S.leave (v := some (.int z)) (fun q => by rw [hret] at q; cases q) hlk
  exact ⟨_, _, retOut S hx hret rfl (Or.inl ⟨rfl, Or.inl rfl, z, rfl⟩) (hb hby hd) hr, hrun, hended, _, _, rfl, ⟨by show Q _ T.heap; rw [hT]; exact hq, N⟩, ⟨_, rfl⟩, hW, hsame.mono hk hn⟩
theorem o_retJ (X : OW p l e R s m args below meth c Z y bytes mx (some .long) n0 T h k n) {z : Int64} (hd : decode bytes pc = .ok (.lreturn, 1)) (hk : k ≤ R.cells) (hn : n ≤ R.slots) (hq : Q (some (.long z)) h) : OE p e R below s n0 Q T (mkF m pc Ls (.long z :: st)) := by
  obtain ⟨hx, hZ, hown, hby, hmx, hret, hnm, hlk, h0, hT, locs, S, N⟩ := X
  obtain ⟨fs, hr, hrun, hended, hW, hsame⟩ := S.leave (v := some (.long z)) (fun q => by rw [hret] at q; cases q) hlk
  exact ⟨_, _, retOut S hx hret rfl (Or.inr (Or.inl ⟨rfl, rfl, z, rfl⟩)) (hb hby hd) hr, hrun, hended, _, _, rfl, ⟨by show Q _ T.heap; rw [hT]; exact hq, N⟩, ⟨_, rfl⟩, hW, hsame.mono hk hn⟩
theorem o_retA {ty : FieldType} (X : OW p l e R s m args below meth c Z y bytes mx (some ty) n0 T h k n) (hty : ty.isReference = true) {a : Addr} (hnar : narrow ty (.ref a) = .ref a) (hd : decode bytes pc = .ok (.areturn, 1)) (hk : k ≤ R.cells) (hn : n ≤ R.slots) (hq : Q (some (.ref a)) h) : OE p e R below s n0 Q T (mkF m pc Ls (.ref a :: st)) := by
  obtain ⟨hx, hZ, hown, hby, hmx, hret, hnm, hlk, h0, hT, locs, S, N⟩ := X
  obtain ⟨fs, hr, hrun, hended, hW, hsame⟩ := S.leave (v := some (.ref a)) (fun q => by rw [hret] at q; cases q) hlk
  exact ⟨_, _, retOut S hx hret hnar (Or.inr (Or.inr (Or.inr (Or.inr ⟨rfl, hty, rfl⟩)))) (hb hby hd) hr, hrun, hended, _, _, rfl, ⟨by show Q _ T.heap; rw [hT]; exact hq, N⟩, ⟨_, rfl⟩, hW, hsame.mono hk hn⟩
theorem o_ret (X : OW p l e R s m args below meth c Z y bytes mx none n0 T h k n) (hd : decode bytes pc = .ok (.return_, 1)) (hk : k ≤ R.cells) (hn : n ≤ R.slots) (hq : Q none h) : OE p e R below s n0 Q T (mkF m pc Ls []) := by
  obtain ⟨hx, hZ, hown, hby, hmx, hret, hnm, hlk, h0, hT, locs, S, N⟩ := X
  obtain ⟨fs, hr, hrun, hended, hW, hsame⟩ := S.leave (v := none) (fun _ => rfl) hlk
  exact ⟨_, _, S.returnOut hx hret (hb hby hd) hr, hrun, hended, _, _, rfl, ⟨by show Q _ T.heap; rw [hT]; exact hq, N⟩, ⟨_, rfl⟩, hW, hsame.mono hk hn⟩
/-! the heap: a list of places, each with what its cell says -/
def OA (Z : State) (ty : FieldType) (vs : List Int32) (c : Cell) : Prop := Z.isArrayOf c ty ∧ c.vm ≠ .unknown ∧ c.slots = (vs.map Value.int).toArray ∧ (∀ x ∈ vs, fits ty (.int x) = true) ∧ Z.vm.findClass ("[" ++ ty.toString) = some c.cls
def OL (n0 : Nat) (h : Heap) (L : List (Addr × (Cell → Prop))) : Prop := (L.map (·.1)).Nodup ∧ ∀ q ∈ L, n0 ≤ q.1 ∧ ∃ c : Cell, h[q.1]? = some c ∧ q.2 c
variable {L : List (Addr × (Cell → Prop))} {h' : Heap} {a : Addr} {ty : FieldType} {vs : List Int32} {PP : Cell → Prop}
theorem OL.nil : OL n0 h [] := ⟨List.nodup_nil, fun _ q => nomatch q⟩
theorem OL.ext (H : OL n0 h L) (E : Ext h h') : OL n0 h' L := ⟨H.1, fun q hq => by obtain ⟨h1, c, h2, h3⟩ := H.2 q hq; exact ⟨h1, c, E.2 _ _ h2, h3⟩⟩
theorem OL.lt (H : OL n0 h L) {q : Addr × (Cell → Prop)} (hq : q ∈ L) : q.1 < h.size := by obtain ⟨-, c, h2, -⟩ := H.2 q hq; exact (Array.getElem?_eq_some_iff.mp h2).1
theorem OL.push (H : OL n0 h L) (E : Ext h h') (h0 : n0 ≤ h.size) {c : Cell} (hc : h'[h.size]? = some c) (hp : PP c) : OL n0 h' ((h.size, PP) :: L) := by
  refine ⟨?_, fun q hq => ?_⟩
  · rw [List.map_cons, List.nodup_cons]
    refine ⟨fun hx => ?_, H.1⟩
    obtain ⟨q, hq, e⟩ := List.mem_map.mp hx
    have e' : q.1 = h.size := e
    exact absurd (H.lt hq) (by rw [e']; exact Nat.lt_irrefl _)
  · rcases List.mem_cons.mp hq with hq | hq
    · cases hq; exact ⟨h0, c, hc, hp⟩
    · exact (H.ext E).2 q hq
theorem OL.perm {L' : List (Addr × (Cell → Prop))} (H : OL n0 h L) (q : L.Perm L') : OL n0 h L' := ⟨(q.map (·.1)).nodup_iff.mp H.1, fun z hz => H.2 z (q.mem_iff.mpr hz)⟩
/-- the i-th place comes to the front -/
theorem OL.front (H : OL n0 h L) (i : Nat) {q : Addr × (Cell → Prop)} (hi : L[i]? = some q) : OL n0 h (q :: L.eraseIdx i) := by
  obtain ⟨hl, e⟩ := List.getElem?_eq_some_iff.mp hi
  refine H.perm ?_
  have e1 : L = L.take i ++ q :: L.drop (i + 1) := by rw [← e, List.getElem_cons_drop]; exact (List.take_append_drop i L).symm
  have e2 : L.eraseIdx i = L.take i ++ L.drop (i + 1) := List.eraseIdx_eq_take_drop_succ L i
  rw [e2]
  exact (List.Perm.of_eq e1).trans List.perm_middle
theorem OL.get (H : OL n0 h L) {i : Nat} (hi : L[i]? = some (a, PP)) : n0 ≤ a ∧ ∃ c : Cell, h[a]? = some c ∧ PP c := H.2 (a, PP) (List.mem_of_getElem? hi)
theorem OL.ne (H : OL n0 h L) {i j : Nat} {b : Addr} {PB : Cell → Prop} (hi : L[i]? = some (a, PP)) (hj : L[j]? = some (b, PB)) (hij : i ≠ j) : a ≠ b := by
  intro e; subst e
  have h1 : (L.map (·.1))[i]? = some a := by simp [hi]
  have h2 : (L.map (·.1))[j]? = some a := by simp [hj]
  obtain ⟨l1, -⟩ := List.getElem?_eq_some_iff.mp h1
  exact hij ((List.getElem?_inj l1 H.1).mp (h1.trans h2.symm))
theorem OL.wr (H : OL n0 h L) {i sl : Nat} {v : Value} {P' : Cell → Prop} (hi : L[i]? = some (a, PP)) (W : Wr h h' a sl v) (hP : ∀ c : Cell, h[a]? = some c → PP c → P' (c.setSlot sl v)) : OL n0 h' (L.set i (a, P')) := by
  have hmap : (L.set i (a, P')).map (·.1) = L.map (·.1) := by
    apply List.ext_getElem?
    intro j
    simp only [List.getElem?_map, List.getElem?_set]
    split
    · rename_i e; subst e; rw [if_pos (List.getElem?_eq_some_iff.mp hi).1, hi]; rfl
    · rfl
  refine ⟨by rw [hmap]; exact H.1, fun q hq => ?_⟩
  obtain ⟨j, hj⟩ := List.getElem?_of_mem hq
  rw [List.getElem?_set] at hj
  split at hj
  · rename_i e; subst e
    split at hj
    · cases hj
      obtain ⟨h1, c, h2, h3⟩ := H.get hi
      obtain ⟨c', e1, -, -, -, -, -, e7⟩ := wr_at W h2
      exact ⟨h1, c', e1, by rw [(e7 rfl).1]; exact hP c h2 h3⟩
    · cases hj
  · rename_i e
    obtain ⟨b, PB⟩ := q
    obtain ⟨h1, c, h2, h3⟩ := H.get hj
    obtain ⟨c', e1, -, -, -, e5, -⟩ := wr_at W h2
    have := e5 (H.ne hj hi (fun r => e r.symm))
    subst this
    exact ⟨h1, c', e1, h3⟩
theorem OA.set {c : Cell} {j : Nat} {x : Int32} (A : OA Z ty vs c) (hf : fits ty (.int x) = true) : OA Z ty (vs.set j x) (c.setSlot j (.int x)) := by
  obtain ⟨h1, h2, h3, h4, h5⟩ := A
  refine ⟨h1, h2, ?_, fun z hz => ?_, h5⟩
  · show c.slots.setIfInBounds j (.int x) = _
    rw [h3]; simp [List.map_set]
  · rcases List.mem_or_eq_of_mem_set hz with q | q
    · exact h4 z q
    · rw [q]; exact hf
theorem OA.new {k : ClassId} {z : Int32} {N : Nat} (hN : z.toInt = N) (hd : defaultValue ty = .int 0) (hf : fits ty (.int 0) = true) (A : Arr Z h a (newA k ty z) ty) (E : Exa Z h a ("[" ++ ty.toString)) : OA Z ty (List.replicate N 0) (newA k ty z) := by
  obtain ⟨c, kk, e1, e2, -⟩ := E
  cases A.1.symm.trans e1
  refine ⟨A.2.1, A.2.2, ?_, fun x hx => by rw [List.eq_of_mem_replicate hx]; exact hf, e2⟩
  have e : z.toNatClampNeg = N := by simp only [Int32.toNatClampNeg, hN]; rfl
  show Array.replicate z.toNatClampNeg (defaultValue ty) = _
  rw [e, hd]; simp
theorem o_idx {j : Int32} {i N : Nat} (hj : j.toInt = i) (hi : i < N) : ¬ (j < 0 ∨ N ≤ j.toNatClampNeg) ∧ j.toNatClampNeg = i := by
  have e : j.toNatClampNeg = i := by simp only [Int32.toNatClampNeg, hj]; rfl
  refine ⟨?_, e⟩
  rw [e, Int32.lt_iff_toInt_lt, hj, show (0 : Int32).toInt = 0 from rfl]; omega
theorem OA.size {c : Cell} (A : OA Z ty vs c) : c.slots.size = vs.length := by rw [A.2.2.1]; simp
theorem o_newarray (X : OW p l e R s m args below meth c Z y bytes mx ret n0 T h k n) (H : OL n0 h L) {aty : ArrayType} (hd : decode bytes pc = .ok (.newarray aty, 2)) (w : (Cond.arrayClass (newarray.typeOf aty)).before a0 Z = true) (hdv : defaultValue (newarray.typeOf aty) = .int 0) (hfv : fits (newarray.typeOf aty) (.int 0) = true) {z : Int32} (N cap : Nat) (hN : z.toInt = N) (hcap : N ≤ cap) (hb8 : cap * 8 ≤ 536870912) (k2 n2 : Nat) (hk2 : k + 1 = k2) (hn2 : n + cap = n2) (hc : k2 ≤ R.cells) (hl : n2 ≤ R.slots) (pc' : Nat) (hp : pc + 2 = pc')
    (K : ∀ T' h' a, OW p l e R s m args below meth c Z y bytes mx ret n0 T' h' k2 n2 → OL n0 h' ((a, OA Z (newarray.typeOf aty) (List.replicate N 0)) :: L) → OE p e R below s n0 Q T' (mkF m pc' Ls (.ref a :: st))) : OE p e R below s n0 Q T (mkF m pc Ls (.int z :: st)) := by
  have h0 := X.size
  obtain ⟨hx, hZ, hown, hby, hmx, hret, hnm, hlk, hn0, hT, locs, S, N0⟩ := X; subst hp hk2 hn2
  obtain ⟨T', h', cA, S', hT', E, A, EX, stp⟩ := newPE S hx hZ w hT (g := mkF m pc Ls (.int z :: st)) rfl (hb hby hd) rfl (by rw [Int32.lt_iff_toInt_lt, hN, show (0 : Int32).toInt = 0 from rfl]; omega) (cap := cap) (by simp only [Int32.toNatClampNeg, hN]; exact hcap) hb8 hc hl rfl
  exact OE.by stp (K T' h' h.size ⟨hx, hZ, hown, hby, hmx, hret, hnm, hlk, hn0, hT', locs, S', N0⟩ (H.push E h0 A.1 (OA.new hN hdv hfv A EX)))
theorem o_arraylength (X : OW p l e R s m args below meth c Z y bytes mx ret n0 T h k n) (H : OL n0 h L) (i : Nat) (hi : L[i]? = some (a, OA Z ty vs)) (hd : decode bytes pc = .ok (.arraylength, 1)) (z : Int32) (hz : Int32.ofNat vs.length = z) (pc' : Nat) (hp : pc + 1 = pc')
    (K : OE p e R below s n0 Q T (mkF m pc' Ls (.int z :: st))) : OE p e R below s n0 Q T (mkF m pc Ls (.ref a :: st)) := by
  obtain ⟨hx, hZ, hown, hby, hmx, hret, hnm, hlk, hn0, hT, locs, S, N0⟩ := X; subst hp
  obtain ⟨h1, c', h2, A⟩ := H.get hi
  refine OE.by (fun t q => S.arraylength hx (by rw [hT]; exact h2) (State.isArrayOf_alike hZ.alike A.1) (g := mkF m pc Ls (.ref a :: st)) rfl rfl (hb hby hd) t ?_) K
  have e1 : c'.slots.size.toInt32 = z := by rw [A.size]; exact hz
  rw [e1]; exact q
theorem o_iaload (X : OW p l e R s m args below meth c Z y bytes mx ret n0 T h k n) (H : OL n0 h L) (i : Nat) (hi : L[i]? = some (a, OA Z .int vs)) (hd : decode bytes pc = .ok (.iaload, 1)) {j : Int32} (jn : Nat) (hj : j.toInt = jn) (v : Int32) (hv : vs[jn]? = some v) (pc' : Nat) (hp : pc + 1 = pc')
    (K : OE p e R below s n0 Q T (mkF m pc' Ls (.int v :: st))) : OE p e R below s n0 Q T (mkF m pc Ls (.int j :: .ref a :: st)) := by
  obtain ⟨hx, hZ, hown, hby, hmx, hret, hnm, hlk, hn0, hT, locs, S, N0⟩ := X; subst hp
  obtain ⟨h1, c', h2, A⟩ := H.get hi
  have hlt := (List.getElem?_eq_some_iff.mp hv).1
  obtain ⟨q1, q2⟩ := o_idx hj (N := c'.slots.size) (by rw [A.size]; exact hlt)
  exact OE.by (fun t q => S.iaload hx (by rw [hT]; exact h2) (State.isArrayOf_alike hZ.alike A.1) A.2.1 q1 (v := .int v) (by rw [q2, A.2.2.1]; simp [hv]) (g := mkF m pc Ls (.int j :: .ref a :: st)) rfl rfl (hb hby hd) t q) K
theorem o_baloadB (X : OW p l e R s m args below meth c Z y bytes mx ret n0 T h k n) (H : OL n0 h L) (i : Nat) (hi : L[i]? = some (a, OA Z .byte vs)) (hd : decode bytes pc = .ok (.baload, 1)) {j : Int32} (jn : Nat) (hj : j.toInt = jn) (v : Int32) (hv : vs[jn]? = some v) (pc' : Nat) (hp : pc + 1 = pc')
    (K : OE p e R below s n0 Q T (mkF m pc' Ls (.int v :: st))) : OE p e R below s n0 Q T (mkF m pc Ls (.int j :: .ref a :: st)) := by
  obtain ⟨hx, hZ, hown, hby, hmx, hret, hnm, hlk, hn0, hT, locs, S, N0⟩ := X; subst hp
  obtain ⟨h1, c', h2, A⟩ := H.get hi
  have hlt := (List.getElem?_eq_some_iff.mp hv).1
  obtain ⟨q1, q2⟩ := o_idx hj (N := c'.slots.size) (by rw [A.size]; exact hlt)
  exact OE.by (fun t q => S.baloadBytes hx (by rw [hT]; exact h2) (State.isArrayOf_alike hZ.alike A.1) A.2.1 q1 (v := .int v) (by rw [q2, A.2.2.1]; simp [hv]) (g := mkF m pc Ls (.int j :: .ref a :: st)) rfl rfl (hb hby hd) t q) K
theorem o_baloadZ (X : OW p l e R s m args below meth c Z y bytes mx ret n0 T h k n) (H : OL n0 h L) (i : Nat) (hi : L[i]? = some (a, OA Z .boolean vs)) (hd : decode bytes pc = .ok (.baload, 1)) {j : Int32} (jn : Nat) (hj : j.toInt = jn) (v : Int32) (hv : vs[jn]? = some v) (pc' : Nat) (hp : pc + 1 = pc')
    (K : OE p e R below s n0 Q T (mkF m pc' Ls (.int v :: st))) : OE p e R below s n0 Q T (mkF m pc Ls (.int j :: .ref a :: st)) := by
  obtain ⟨hx, hZ, hown, hby, hmx, hret, hnm, hlk, hn0, hT, locs, S, N0⟩ := X; subst hp
  obtain ⟨h1, c', h2, A⟩ := H.get hi
  have hlt := (List.getElem?_eq_some_iff.mp hv).1
  obtain ⟨q1, q2⟩ := o_idx hj (N := c'.slots.size) (by rw [A.size]; exact hlt)
  exact OE.by (fun t q => S.baloadBooleans hx (by rw [hT]; exact h2) (State.isArrayOf_alike hZ.alike A.1) A.2.1 q1 (v := .int v) (by rw [q2, A.2.2.1]; simp [hv]) (g := mkF m pc Ls (.int j :: .ref a :: st)) rfl rfl (hb hby hd) t q) K
theorem o_iastore (X : OW p l e R s m args below meth c Z y bytes mx ret n0 T h k n) (H : OL n0 h L) (i : Nat) (hi : L[i]? = some (a, OA Z .int vs)) (hd : decode bytes pc = .ok (.iastore, 1)) {j x : Int32} (jn : Nat) (hj : j.toInt = jn) (hlt : jn < vs.length) (pc' : Nat) (hp : pc + 1 = pc')
    (K : ∀ T' h', OW p l e R s m args below meth c Z y bytes mx ret n0 T' h' k n → OL n0 h' (L.set i (a, OA Z .int (vs.set jn x))) → OE p e R below s n0 Q T' (mkF m pc' Ls st)) : OE p e R below s n0 Q T (mkF m pc Ls (.int x :: .int j :: .ref a :: st)) := by
  obtain ⟨hx, hZ, hown, hby, hmx, hret, hnm, hlk, hn0, hT, locs, S, N0⟩ := X; subst hp
  obtain ⟨h1, c', h2, A⟩ := H.get hi
  obtain ⟨q1, q2⟩ := o_idx hj (N := c'.slots.size) (by rw [A.size]; exact hlt)
  obtain ⟨T', h', S', hT', W, stp⟩ := stI S hx hZ hT ⟨h2, A.1, A.2.1⟩ q1 (x := x) (g := mkF m pc Ls (.int x :: .int j :: .ref a :: st)) rfl rfl (hb hby hd)
  rw [q2] at W S'
  exact OE.by stp (K T' h' ⟨hx, hZ, hown, hby, hmx, hret, hnm, hlk, hn0, hT', _, S', N0.app fun z hz => by cases List.mem_singleton.mp hz; exact h1⟩ (H.wr hi W fun c _ B => B.set rfl))
theorem o_bastoreB (X : OW p l e R s m args below meth c Z y bytes mx ret n0 T h k n) (H : OL n0 h L) (i : Nat) (hi : L[i]? = some (a, OA Z .byte vs)) (hd : decode bytes pc = .ok (.bastore, 1)) {j x : Int32} (jn : Nat) (hj : j.toInt = jn) (hlt : jn < vs.length) (v : Int32) (hv : x.toInt8.toInt32 = v) (pc' : Nat) (hp : pc + 1 = pc')
    (K : ∀ T' h', OW p l e R s m args below meth c Z y bytes mx ret n0 T' h' k n → OL n0 h' (L.set i (a, OA Z .byte (vs.set jn v))) → OE p e R below s n0 Q T' (mkF m pc' Ls st)) : OE p e R below s n0 Q T (mkF m pc Ls (.int x :: .int j :: .ref a :: st)) := by
  obtain ⟨hx, hZ, hown, hby, hmx, hret, hnm, hlk, hn0, hT, locs, S, N0⟩ := X; subst hp hv
  obtain ⟨h1, c', h2, A⟩ := H.get hi
  obtain ⟨q1, q2⟩ := o_idx hj (N := c'.slots.size) (by rw [A.size]; exact hlt)
  obtain ⟨T', h', S', hT', W, stp⟩ := stB S hx hZ hT ⟨h2, A.1, A.2.1⟩ q1 (x := x) (g := mkF m pc Ls (.int x :: .int j :: .ref a :: st)) rfl rfl (hb hby hd)
  rw [q2] at W S'
  exact OE.by stp (K T' h' ⟨hx, hZ, hown, hby, hmx, hret, hnm, hlk, hn0, hT', _, S', N0.app fun z hz => by cases List.mem_singleton.mp hz; exact h1⟩ (H.wr hi W fun c _ B => B.set (fits_nar_byte x)))
theorem o_bastoreZ (X : OW p l e R s m args below meth c Z y bytes mx ret n0 T h k n) (H : OL n0 h L) (i : Nat) (hi : L[i]? = some (a, OA Z .boolean vs)) (hd : decode bytes pc = .ok (.bastore, 1)) {j x : Int32} (jn : Nat) (hj : j.toInt = jn) (hlt : jn < vs.length) (v : Int32) (hv : nar .boolean x = v) (pc' : Nat) (hp : pc + 1 = pc')
    (K : ∀ T' h', OW p l e R s m args below meth c Z y bytes mx ret n0 T' h' k n → OL n0 h' (L.set i (a, OA Z .boolean (vs.set jn v))) → OE p e R below s n0 Q T' (mkF m pc' Ls st)) : OE p e R below s n0 Q T (mkF m pc Ls (.int x :: .int j :: .ref a :: st)) := by
  obtain ⟨hx, hZ, hown, hby, hmx, hret, hnm, hlk, hn0, hT, locs, S, N0⟩ := X; subst hp hv
  obtain ⟨h1, c', h2, A⟩ := H.get hi
  obtain ⟨q1, q2⟩ := o_idx hj (N := c'.slots.size) (by rw [A.size]; exact hlt)
  obtain ⟨T', h', S', hT', W, stp⟩ := stZ S hx hZ hT ⟨h2, A.1, A.2.1⟩ q1 (x := x) (g := mkF m pc Ls (.int x :: .int j :: .ref a :: st)) rfl rfl (hb hby hd)
  rw [q2] at W S'
  exact OE.by stp (K T' h' ⟨hx, hZ, hown, hby, hmx, hret, hnm, hlk, hn0, hT', _, S', N0.app fun z hz => by cases List.mem_singleton.mp hz; exact h1⟩ (H.wr hi W fun c _ B => B.set (fits_nar_bool x)))
theorem o_b8 (x : Int32) : x.toInt8.toInt32.toInt8.toInt32 = x.toInt8.toInt32 := by simp
/-! contracts and calls -/
def OC (l : Launch) (Z : State) (y : MethodName) (bytes : ByteArray) (mx : Nat) (ret : Option FieldType) (ws : List Jvm.Cond) (rm : Room) (n0 : Nat) (as' : Array Value) (h0 : Heap) (Q : Option Value → Heap → Prop) : Prop :=
  MetFree l y (head1 (Jvm.Cond.code y bytes mx ret :: ws) rm) (fun a U => a = as' ∧ Z.Warmed39 U.vm ∧ U.heap = h0) (fun _ _ _ _ _ => True) (fun _ U o U' => ∃ v L, o = .returned v ∧ (Q v U'.heap ∧ Fr n0 L) ∧ FrameEnd U o U' L rm.cells rm.slots)
theorem OC.of {ws : List Jvm.Cond} {rm : Room} {as' : Array Value} {h0 : Heap} (hp : plainName y.cls = true) (hn : n0 ≤ h0.size) (Ls : Array Slot) (hef : ∀ m : MethodId, entryFrame m as' mx = mkF m 0 Ls [])
    (B : ∀ p e s m below meth c T, OW p l e rm s m as' below meth c Z y bytes mx ret n0 T h0 0 0 → ∀ Q' : Option Value → Heap → Prop, (∀ r h, Q r h → Q' r h) → OE p e rm below s n0 Q' T (mkF m 0 Ls [])) : OC l Z y bytes mx ret ws rm n0 as' h0 Q := by
  refine MetFree.of_bodySF (plainFor_of_name hp) hisR ?_
  intro p e s m args below meth c s₁ Bd hml0 hP hK
  obtain ⟨rfl, hZ, hh⟩ := hP
  have hnm := (name_of_methodNamed Bd.named Bd.method).1
  have X0 : Stand p l e rm s m args below meth c s₁ [] 0 0 := Stand.of_body Bd
  have e0 : s₁.heap = h0 := by rw [← hh, Bd.state]; rfl
  rw [hef m]
  exact B p e s m below meth c s₁ ⟨Bd.exec, hZ, findClass_of_methodNamed Bd.named, Bd.bytes, hml0, Bd.returns, hnm, Bd.notSynchronized, by rw [hh]; exact hn, e0, [], X0, Fr.nil n0⟩ Q (fun _ _ q => q)
theorem o_callS (X : OW p l e R s m args below meth c Z y bytes mx ret n0 T h k n) {i : Nat} (hd : decode bytes pc = .ok (.invokestatic i, 3)) {y' : MethodName} {bytes' : ByteArray} {mx' : Nat} {ret' : Option FieldType} {rm : Room} {as' : Array Value} {Q' : Option Value → Heap → Prop} (C : OC l Z y' bytes' mx' ret' [] rm n0 as' h Q')
    (w1 : (Cond.methodLink y.cls i y').before a0 Z = true) (w2 : (Cond.static y').before a0 Z = true) (w3 : (Cond.initialized y'.cls).before a0 Z = true) (w4 : (Cond.code y' bytes' mx' ret').before a0 Z = true) (hy : y'.cls ≠ "java/lang/invoke/MethodHandle" ∧ y'.cls ≠ "java/lang/invoke/VarHandle")
    (Wd : Nat) (hf : rm.frames + 1 ≤ R.frames) (hlo : Wd + (mx' + 11) + rm.locals ≤ R.locals) (hls : Ls.size = mx) (argsL : List Value) (has : as' = argsL.toArray) {ps : List FieldType} {r' : Option FieldType} (hpd : parseMethodDescriptor y'.desc = some ⟨ps, r'⟩) (hlen : argsL.length = ps.length) (hst : st = argsL.reverse ++ rest) (hW : (rest.map fun v => v.category).sum ≤ Wd) (k2 n2 : Nat) (hk2 : k + rm.cells = k2) (hn2 : n + rm.slots = n2) (hk : k2 ≤ R.cells) (hn : n2 ≤ R.slots) (pc' : Nat) (hp : pc + 3 = pc')
    (K : ∀ v T' h', OW p l e R s m args below meth c Z y bytes mx ret n0 T' h' k2 n2 → Q' v h' → OE p e R below s n0 Q T' (mkF m pc' Ls (v.toList ++ rest))) : OE p e R below s n0 Q T (mkF m pc Ls st) := by
  obtain ⟨hx, hZ, hown, hby, hmx, hret, hnm, hlk, hn0, hT, locs, S, N0⟩ := X; subst hp has hk2 hn2
  obtain ⟨v, _, ⟨T2, L2, k2, n2⟩, -, X2, ⟨Lc, hQ, l2, y2, z2⟩, stp⟩ := Jvm.LawKit.callS S hx (y := y') hown (mvT hZ w1) (mvT hZ w2) (mvT hZ w3) (mvT hZ w4) hy (backOf (W := Wd) (Q := fun v hh LL => Q' v hh ∧ Fr n0 LL) C hZ w4 w3 hf hlo) (g := mkF m pc Ls st) rfl (by rw [hmx]; exact hls) (argsL := argsL) (rest := rest) (lenOf hpd hlen) hst (by show 2 * 0 + _ ≤ _; omega) (hb hby hd) (fun _ _ => ⟨rfl, hT, hk, hn⟩)
  dsimp only [Pt.U, Pt.locs, Pt.cells, Pt.slots] at X2 l2 y2 z2 stp hQ
  subst l2 y2 z2
  exact OE.by stp (K v T2 T2.heap ⟨hx, hZ, hown, hby, hmx, hret, hnm, hlk, hn0, rfl, _, X2, N0.app hQ.2⟩ hQ.1)
end OwnKit
theorem d1_0 : decode prog_39_method_8_code 0 = .ok (.aload_n 0, 1) := by decide +kernel
theorem d1_1 : decode prog_39_method_8_code 1 = .ok (.iload_n 1, 1) := by decide +kernel
theorem d1_2 : decode prog_39_method_8_code 2 = .ok (.baload, 1) := by decide +kernel
theorem d1_3 : decode prog_39_method_8_code 3 = .ok (.sipush 255, 3) := by decide +kernel
theorem d1_6 : decode prog_39_method_8_code 6 = .ok (.iand, 1) := by decide +kernel
theorem d1_7 : decode prog_39_method_8_code 7 = .ok (.istore_n 3, 1) := by decide +kernel
theorem d1_8 : decode prog_39_method_8_code 8 = .ok (.iload_n 2, 1) := by decide +kernel
theorem d1_9 : decode prog_39_method_8_code 9 = .ok (.iconst 1, 1) := by decide +kernel
theorem d1_10 : decode prog_39_method_8_code 10 = .ok (.if_icmp .ne 9, 3) := by decide +kernel
theorem d1_13 : decode prog_39_method_8_code 13 = .ok (.iload_n 3, 1) := by decide +kernel
theorem d1_14 : decode prog_39_method_8_code 14 = .ok (.istore 4, 2) := by decide +kernel
theorem d1_16 : decode prog_39_method_8_code 16 = .ok (.goto 109, 3) := by decide +kernel
theorem d1_19 : decode prog_39_method_8_code 19 = .ok (.iload_n 2, 1) := by decide +kernel
theorem d1_20 : decode prog_39_method_8_code 20 = .ok (.iconst 2, 1) := by decide +kernel
theorem d1_21 : decode prog_39_method_8_code 21 = .ok (.if_icmp .ne 24, 3) := by decide +kernel
theorem d1_24 : decode prog_39_method_8_code 24 = .ok (.iload_n 3, 1) := by decide +kernel
theorem d1_25 : decode prog_39_method_8_code 25 = .ok (.bipush 31, 2) := by decide +kernel
theorem d1_27 : decode prog_39_method_8_code 27 = .ok (.iand, 1) := by decide +kernel
theorem d1_28 : decode prog_39_method_8_code 28 = .ok (.bipush 6, 2) := by decide +kernel
theorem d1_30 : decode prog_39_method_8_code 30 = .ok (.ishl, 1) := by decide +kernel
theorem d1_31 : decode prog_39_method_8_code 31 = .ok (.aload_n 0, 1) := by decide +kernel
theorem d1_32 : decode prog_39_method_8_code 32 = .ok (.iload_n 1, 1) := by decide +kernel
theorem d1_33 : decode prog_39_method_8_code 33 = .ok (.iconst 1, 1) := by decide +kernel
theorem d1_34 : decode prog_39_method_8_code 34 = .ok (.iadd, 1) := by decide +kernel
theorem d1_35 : decode prog_39_method_8_code 35 = .ok (.baload, 1) := by decide +kernel
theorem d1_36 : decode prog_39_method_8_code 36 = .ok (.bipush 63, 2) := by decide +kernel
theorem d1_38 : decode prog_39_method_8_code 38 = .ok (.iand, 1) := by decide +kernel
theorem d1_39 : decode prog_39_method_8_code 39 = .ok (.ior, 1) := by decide +kernel
theorem d1_40 : decode prog_39_method_8_code 40 = .ok (.istore 4, 2) := by decide +kernel
theorem d1_42 : decode prog_39_method_8_code 42 = .ok (.goto 83, 3) := by decide +kernel
theorem d1_45 : decode prog_39_method_8_code 45 = .ok (.iload_n 2, 1) := by decide +kernel
theorem d1_46 : decode prog_39_method_8_code 46 = .ok (.iconst 3, 1) := by decide +kernel
theorem d1_47 : decode prog_39_method_8_code 47 = .ok (.if_icmp .ne 36, 3) := by decide +kernel
theorem d1_50 : decode prog_39_method_8_code 50 = .ok (.iload_n 3, 1) := by decide +kernel
theorem d1_51 : decode prog_39_method_8_code 51 = .ok (.bipush 15, 2) := by decide +kernel
theorem d1_53 : decode prog_39_method_8_code 53 = .ok (.iand, 1) := by decide +kernel
theorem d1_54 : decode prog_39_method_8_code 54 = .ok (.bipush 12, 2) := by decide +kernel
theorem d1_56 : decode prog_39_method_8_code 56 = .ok (.ishl, 1) := by decide +kernel
theorem d1_57 : decode prog_39_method_8_code 57 = .ok (.aload_n 0, 1) := by decide +kernel
theorem d1_58 : decode prog_39_method_8_code 58 = .ok (.iload_n 1, 1) := by decide +kernel
theorem d1_59 : decode prog_39_method_8_code 59 = .ok (.iconst 1, 1) := by decide +kernel
theorem d1_60 : decode prog_39_method_8_code 60 = .ok (.iadd, 1) := by decide +kernel
theorem d1_61 : decode prog_39_method_8_code 61 = .ok (.baload, 1) := by decide +kernel
theorem d1_62 : decode prog_39_method_8_code 62 = .ok (.bipush 63, 2) := by decide +kernel
theorem d1_64 : decode prog_39_method_8_code 64 = .ok (.iand, 1) := by decide +kernel
theorem d1_65 : decode prog_39_method_8_code 65 = .ok (.bipush 6, 2) := by decide +kernel
theorem d1_67 : decode prog_39_method_8_code 67 = .ok (.ishl, 1) := by decide +kernel
theorem d1_68 : decode prog_39_method_8_code 68 = .ok (.ior, 1) := by decide +kernel
theorem d1_69 : decode prog_39_method_8_code 69 = .ok (.aload_n 0, 1) := by decide +kernel
theorem d1_70 : decode prog_39_method_8_code 70 = .ok (.iload_n 1, 1) := by decide +kernel
theorem d1_71 : decode prog_39_method_8_code 71 = .ok (.iconst 2, 1) := by decide +kernel
theorem d1_72 : decode prog_39_method_8_code 72 = .ok (.iadd, 1) := by decide +kernel
theorem d1_73 : decode prog_39_method_8_code 73 = .ok (.baload, 1) := by decide +kernel
theorem d1_74 : decode prog_39_method_8_code 74 = .ok (.bipush 63, 2) := by decide +kernel
theorem d1_76 : decode prog_39_method_8_code 76 = .ok (.iand, 1) := by decide +kernel
theorem d1_77 : decode prog_39_method_8_code 77 = .ok (.ior, 1) := by decide +kernel
theorem d1_78 : decode prog_39_method_8_code 78 = .ok (.istore 4, 2) := by decide +kernel
theorem d1_80 : decode prog_39_method_8_code 80 = .ok (.goto 45, 3) := by decide +kernel
theorem d1_83 : decode prog_39_method_8_code 83 = .ok (.iload_n 3, 1) := by decide +kernel
theorem d1_84 : decode prog_39_method_8_code 84 = .ok (.bipush 7, 2) := by decide +kernel
theorem d1_86 : decode prog_39_method_8_code 86 = .ok (.iand, 1) := by decide +kernel
theorem d1_87 : decode prog_39_method_8_code 87 = .ok (.bipush 18, 2) := by decide +kernel
theorem d1_89 : decode prog_39_method_8_code 89 = .ok (.ishl, 1) := by decide +kernel
theorem d1_90 : decode prog_39_method_8_code 90 = .ok (.aload_n 0, 1) := by decide +kernel
theorem d1_91 : decode prog_39_method_8_code 91 = .ok (.iload_n 1, 1) := by decide +kernel
theorem d1_92 : decode prog_39_method_8_code 92 = .ok (.iconst 1, 1) := by decide +kernel
theorem d1_93 : decode prog_39_method_8_code 93 = .ok (.iadd, 1) := by decide +kernel
theorem d1_94 : decode prog_39_method_8_code 94 = .ok (.baload, 1) := by decide +kernel
theorem d1_95 : decode prog_39_method_8_code 95 = .ok (.bipush 63, 2) := by decide +kernel
theorem d1_97 : decode prog_39_method_8_code 97 = .ok (.iand, 1) := by decide +kernel
theorem d1_98 : decode prog_39_method_8_code 98 = .ok (.bipush 12, 2) := by decide +kernel
theorem d1_100 : decode prog_39_method_8_code 100 = .ok (.ishl, 1) := by decide +kernel
theorem d1_101 : decode prog_39_method_8_code 101 = .ok (.ior, 1) := by decide +kernel
theorem d1_102 : decode prog_39_method_8_code 102 = .ok (.aload_n 0, 1) := by decide +kernel
theorem d1_103 : decode prog_39_method_8_code 103 = .ok (.iload_n 1, 1) := by decide +kernel
theorem d1_104 : decode prog_39_method_8_code 104 = .ok (.iconst 2, 1) := by decide +kernel
theorem d1_105 : decode prog_39_method_8_code 105 = .ok (.iadd, 1) := by decide +kernel
theorem d1_106 : decode prog_39_method_8_code 106 = .ok (.baload, 1) := by decide +kernel
theorem d1_107 : decode prog_39_method_8_code 107 = .ok (.bipush 63, 2) := by decide +kernel
theorem d1_109 : decode prog_39_method_8_code 109 = .ok (.iand, 1) := by decide +kernel
theorem d1_110 : decode prog_39_method_8_code 110 = .ok (.bipush 6, 2) := by decide +kernel
theorem d1_112 : decode prog_39_method_8_code 112 = .ok (.ishl, 1) := by decide +kernel
theorem d1_113 : decode prog_39_method_8_code 113 = .ok (.ior, 1) := by decide +kernel
theorem d1_114 : decode prog_39_method_8_code 114 = .ok (.aload_n 0, 1) := by decide +kernel
theorem d1_115 : decode prog_39_method_8_code 115 = .ok (.iload_n 1, 1) := by decide +kernel
theorem d1_116 : decode prog_39_method_8_code 116 = .ok (.iconst 3, 1) := by decide +kernel
theorem d1_117 : decode prog_39_method_8_code 117 = .ok (.iadd, 1) := by decide +kernel
theorem d1_118 : decode prog_39_method_8_code 118 = .ok (.baload, 1) := by decide +kernel
theorem d1_119 : decode prog_39_method_8_code 119 = .ok (.bipush 63, 2) := by decide +kernel
theorem d1_121 : decode prog_39_method_8_code 121 = .ok (.iand, 1) := by decide +kernel
theorem d1_122 : decode prog_39_method_8_code 122 = .ok (.ior, 1) := by decide +kernel
theorem d1_123 : decode prog_39_method_8_code 123 = .ok (.istore 4, 2) := by decide +kernel
theorem d1_125 : decode prog_39_method_8_code 125 = .ok (.iload 4, 2) := by decide +kernel
theorem d1_127 : decode prog_39_method_8_code 127 = .ok (.ireturn, 1) := by decide +kernel
theorem pn_0 : plainName "org/bindloom/internal/Utf8" = true := by first | (simp [plainName, overriddenIn]; done) | decide +kernel
theorem pn_1 : plainName "org/bindloom/internal/Utf8CodePointAtPinLaw" = true := by first | (simp [plainName, overriddenIn]; done) | decide +kernel
theorem pd_1 : parseMethodDescriptor "([BII)I" = some ⟨[(.array .byte), .int, .int], (some .int)⟩ := by decide +kernel
theorem u_add (a y : Int32) (d : Int) (ha : a.toInt = d) (h1 : -2147483648 ≤ d + y.toInt) (h2 : d + y.toInt < 2147483648) : (a + y).toInt = d + y.toInt := by
  subst ha; exact Jvm.Kit.i32_add h1 h2
theorem u_dr (x y : Int32) (d : Int) (hy : y.toInt = d) (hd : y ≠ -1) (h : 0 ≤ x.toInt) : (x / y).toInt = x.toInt / d ∧ (x % y).toInt = x.toInt % d := ⟨(c_idiv x y d hy hd).1 h, (c_irem x y d hy).1 h⟩
theorem u_b (w : Int32) (h0 : 0 ≤ w.toInt) (h1 : w.toInt ≤ 255) : Int8.toInt32 (Int32.toInt8 w) &&& 255 = w := by
  have a := Jvm.Kit.i32_mask (Int8.toInt32 (Int32.toInt8 w)) 255 (k := 8) (by decide) (by decide)
  have b := c_i2b w
  apply Int32.toInt_inj.mp; rw [a]; omega
theorem u_b63 (w : Int32) : (Int8.toInt32 (Int32.toInt8 w) &&& 63).toInt = w.toInt % 64 := by
  have a := Jvm.Kit.i32_mask (Int8.toInt32 (Int32.toInt8 w)) 63 (k := 6) (by decide) (by decide)
  have b := c_i2b w
  rw [a]; omega
theorem u_b255 (w : Int32) : (Int8.toInt32 (Int32.toInt8 w) &&& 255).toInt = w.toInt % 256 := by
  have a := Jvm.Kit.i32_mask (Int8.toInt32 (Int32.toInt8 w)) 255 (k := 8) (by decide) (by decide)
  have b := c_i2b w
  rw [a]; omega
theorem u_shl (x q : Int32) (k : Nat) (P : Int) (hk : q.toBitVec.toNat % 32 = k) (hP : P = (2 ^ k : Nat)) (h0 : 0 ≤ x.toInt) (h1 : x.toInt * P < 2147483648) : (x <<< (q &&& 31)).toInt = x.toInt * P := by
  have a := c_ishl x q k hk
  rw [← hP] at a
  have b1 := Int32.toInt_lt (x <<< (q &&& 31)); have b2 := Int32.le_toInt (x <<< (q &&& 31))
  have : 0 ≤ x.toInt * P := Int.mul_nonneg h0 (by rw [hP]; exact Int.natCast_nonneg _)
  generalize x.toInt * P = z at *
  omega
theorem u_or (a b : Int32) (k : Nat) (P : Int) (hk : k ≤ 31) (hP : P = (2 ^ k : Nat)) (h1 : a.toInt % P = 0) (h2 : 0 ≤ b.toInt) (h3 : b.toInt < P) (h4 : 0 ≤ a.toInt) : (a ||| b).toInt = a.toInt + b.toInt := by
  have q := c_or a b k hk P hP h1 h2 h3
  have b1 := Int32.toInt_lt (a ||| b); have b2 := Int32.le_toInt (a ||| b)
  have b3 := (c_orS a b).1 h4 h2
  have b4 := Int32.toInt_lt a
  have b5 := Int32.toInt_lt b
  omega

def f_cp1 (v0 : Int32) : Int32 := v0 &&& 255
def f_cp2 (v0 v1 : Int32) : Int32 := (((v0 &&& 255) &&& 31) <<< ((6 : Int32) &&& 31)) ||| (v1 &&& 63)
def f_cp3 (v0 v1 v2 : Int32) : Int32 := ((((v0 &&& 255) &&& 15) <<< ((12 : Int32) &&& 31)) ||| ((v1 &&& 63) <<< ((6 : Int32) &&& 31))) ||| (v2 &&& 63)
def f_cp4 (v0 v1 v2 v3 : Int32) : Int32 := (((((v0 &&& 255) &&& 7) <<< ((18 : Int32) &&& 31)) ||| ((v1 &&& 63) <<< ((12 : Int32) &&& 31))) ||| ((v2 &&& 63) <<< ((6 : Int32) &&& 31))) ||| (v3 &&& 63)
theorem v_cp1 (cp : Int32) (h1 : 0 ≤ cp.toInt) (h2 : cp.toInt ≤ 127) : f_cp1 (Int8.toInt32 (Int32.toInt8 cp)) = cp := u_b cp h1 (by omega)
theorem v_cp2 (cp : Int32) (h1 : 128 ≤ cp.toInt) (h2 : cp.toInt ≤ 2047) : f_cp2 (Int8.toInt32 (Int32.toInt8 (192 + cp / 64))) (Int8.toInt32 (Int32.toInt8 (128 + cp % 64))) = cp := by
  obtain ⟨d1, r0⟩ := u_dr cp 64 64 rfl (by decide) (by omega)
  have s0 := u_add 192 (cp / 64) 192 rfl (by omega) (by omega)
  have s1 := u_add 128 (cp % 64) 128 rfl (by omega) (by omega)
  have b0 := u_b _ (show 0 ≤ (192 + cp / 64 : Int32).toInt by omega) (by omega)
  have b1 := u_b63 (128 + cp % 64)
  unfold f_cp2
  rw [b0]
  have m0 := Jvm.Kit.i32_mask (192 + cp / 64) 31 (k := 5) (by decide) (by decide)
  have t0 := u_shl ((192 + cp / 64) &&& 31) 6 6 64 (by decide) (by decide) (by omega) (by omega)
  have o0 := u_or (((192 + cp / 64) &&& 31) <<< ((6 : Int32) &&& 31)) (Int8.toInt32 (Int32.toInt8 (128 + cp % 64)) &&& 63) 6 64 (by decide) (by decide) (by omega) (by omega) (by omega) (by omega)
  apply Int32.toInt_inj.mp; omega
theorem v_cp3 (cp : Int32) (h1 : 2048 ≤ cp.toInt) (h2 : cp.toInt ≤ 65535) : f_cp3 (Int8.toInt32 (Int32.toInt8 (224 + cp / 4096))) (Int8.toInt32 (Int32.toInt8 (128 + (cp / 64) % 64))) (Int8.toInt32 (Int32.toInt8 (128 + cp % 64))) = cp := by
  obtain ⟨d2, -⟩ := u_dr cp 4096 4096 rfl (by decide) (by omega)
  obtain ⟨d1, r0⟩ := u_dr cp 64 64 rfl (by decide) (by omega)
  obtain ⟨-, r1⟩ := u_dr (cp / 64) 64 64 rfl (by decide) (by omega)
  have s0 := u_add 224 (cp / 4096) 224 rfl (by omega) (by omega)
  have s1 := u_add 128 ((cp / 64) % 64) 128 rfl (by omega) (by omega)
  have s2 := u_add 128 (cp % 64) 128 rfl (by omega) (by omega)
  have b0 := u_b _ (show 0 ≤ (224 + cp / 4096 : Int32).toInt by omega) (by omega)
  have b1 := u_b63 (128 + (cp / 64) % 64)
  have b2 := u_b63 (128 + cp % 64)
  unfold f_cp3
  rw [b0]
  have m0 := Jvm.Kit.i32_mask (224 + cp / 4096) 15 (k := 4) (by decide) (by decide)
  have t0 := u_shl ((224 + cp / 4096) &&& 15) 12 12 4096 (by decide) (by decide) (by omega) (by omega)
  have t1 := u_shl (Int8.toInt32 (Int32.toInt8 (128 + (cp / 64) % 64)) &&& 63) 6 6 64 (by decide) (by decide) (by omega) (by omega)
  have o0 := u_or (((224 + cp / 4096) &&& 15) <<< ((12 : Int32) &&& 31)) ((Int8.toInt32 (Int32.toInt8 (128 + (cp / 64) % 64)) &&& 63) <<< ((6 : Int32) &&& 31)) 12 4096 (by decide) (by decide) (by omega) (by omega) (by omega) (by omega)
  have o1 := u_or (((224 + cp / 4096) &&& 15) <<< ((12 : Int32) &&& 31) ||| (Int8.toInt32 (Int32.toInt8 (128 + (cp / 64) % 64)) &&& 63) <<< ((6 : Int32) &&& 31)) (Int8.toInt32 (Int32.toInt8 (128 + cp % 64)) &&& 63) 6 64 (by decide) (by decide) (by omega) (by omega) (by omega) (by omega)
  apply Int32.toInt_inj.mp; omega
theorem v_cp4 (cp : Int32) (h1 : 65536 ≤ cp.toInt) (h2 : cp.toInt ≤ 1114111) : f_cp4 (Int8.toInt32 (Int32.toInt8 (240 + cp / 262144))) (Int8.toInt32 (Int32.toInt8 (128 + (cp / 4096) % 64))) (Int8.toInt32 (Int32.toInt8 (128 + (cp / 64) % 64))) (Int8.toInt32 (Int32.toInt8 (128 + cp % 64))) = cp := by
  obtain ⟨d3, -⟩ := u_dr cp 262144 262144 rfl (by decide) (by omega)
  obtain ⟨d2, -⟩ := u_dr cp 4096 4096 rfl (by decide) (by omega)
  obtain ⟨d1, r0⟩ := u_dr cp 64 64 rfl (by decide) (by omega)
  obtain ⟨-, r1⟩ := u_dr (cp / 64) 64 64 rfl (by decide) (by omega)
  obtain ⟨-, r2⟩ := u_dr (cp / 4096) 64 64 rfl (by decide) (by omega)
  have s0 := u_add 240 (cp / 262144) 240 rfl (by omega) (by omega)
  have s1 := u_add 128 ((cp / 4096) % 64) 128 rfl (by omega) (by omega)
  have s2 := u_add 128 ((cp / 64) % 64) 128 rfl (by omega) (by omega)
  have s3 := u_add 128 (cp % 64) 128 rfl (by omega) (by omega)
  have b0 := u_b _ (show 0 ≤ (240 + cp / 262144 : Int32).toInt by omega) (by omega)
  have b1 := u_b63 (128 + (cp / 4096) % 64)
  have b2 := u_b63 (128 + (cp / 64) % 64)
  have b3 := u_b63 (128 + cp % 64)
  unfold f_cp4
  rw [b0]
  have m0 := Jvm.Kit.i32_mask (240 + cp / 262144) 7 (k := 3) (by decide) (by decide)
  have t0 := u_shl ((240 + cp / 262144) &&& 7) 18 18 262144 (by decide) (by decide) (by omega) (by omega)
  have t1 := u_shl (Int8.toInt32 (Int32.toInt8 (128 + (cp / 4096) % 64)) &&& 63) 12 12 4096 (by decide) (by decide) (by omega) (by omega)
  have t2 := u_shl (Int8.toInt32 (Int32.toInt8 (128 + (cp / 64) % 64)) &&& 63) 6 6 64 (by decide) (by decide) (by omega) (by omega)
  have o0 := u_or (((240 + cp / 262144) &&& 7) <<< ((18 : Int32) &&& 31)) ((Int8.toInt32 (Int32.toInt8 (128 + (cp / 4096) % 64)) &&& 63) <<< ((12 : Int32) &&& 31)) 18 262144 (by decide) (by decide) (by omega) (by omega) (by omega) (by omega)
  have o1 := u_or (((240 + cp / 262144) &&& 7) <<< ((18 : Int32) &&& 31) ||| (Int8.toInt32 (Int32.toInt8 (128 + (cp / 4096) % 64)) &&& 63) <<< ((12 : Int32) &&& 31)) ((Int8.toInt32 (Int32.toInt8 (128 + (cp / 64) % 64)) &&& 63) <<< ((6 : Int32) &&& 31)) 12 4096 (by decide) (by decide) (by omega) (by omega) (by omega) (by omega)
  have o2 := u_or ((((240 + cp / 262144) &&& 7) <<< ((18 : Int32) &&& 31) ||| (Int8.toInt32 (Int32.toInt8 (128 + (cp / 4096) % 64)) &&& 63) <<< ((12 : Int32) &&& 31)) ||| (Int8.toInt32 (Int32.toInt8 (128 + (cp / 64) % 64)) &&& 63) <<< ((6 : Int32) &&& 31)) (Int8.toInt32 (Int32.toInt8 (128 + cp % 64)) &&& 63) 6 64 (by decide) (by decide) (by omega) (by omega) (by omega) (by omega)
  apply Int32.toInt_inj.mp; omega
theorem v_len (x : Int32) : (x &&& 3) + 1 = 1 ∨ (x &&& 3) + 1 = 2 ∨ (x &&& 3) + 1 = 3 ∨ (x &&& 3) + 1 = 4 := by
  have h := Jvm.Kit.i32_mask x 3 (k := 2) (by decide) (by decide)
  have h2 := Jvm.Kit.i32_add (p := x &&& 3) (q := 1) (by rw [h, show (1 : Int32).toInt = 1 from rfl]; omega) (by rw [h, show (1 : Int32).toInt = 1 from rfl]; omega)
  simp only [← Int32.toInt_inj, Int32.reduceToInt] at *; omega
theorem v_ix (x : Int32) : x &&& 3 = 0 ∨ x &&& 3 = 1 ∨ x &&& 3 = 2 ∨ x &&& 3 = 3 := by
  have := Jvm.Kit.i32_mask x 3 (k := 2) (by decide) (by decide)
  simp only [← Int32.toInt_inj, Int32.reduceToInt]; omega
theorem v_u (x : Int32) : 0 ≤ (x &&& 2147483647).toInt := by have := Jvm.Kit.i32_mask x 2147483647 (k := 31) (by decide) (by decide); omega
theorem v_r1 (x : Int32) : 0 ≤ (x &&& 127).toInt ∧ (x &&& 127).toInt ≤ 127 := by have := Jvm.Kit.i32_mask x 127 (k := 7) (by decide) (by decide); omega
theorem v_r2 (x : Int32) : 128 ≤ (128 + (x &&& 2147483647) % 1920).toInt ∧ (128 + (x &&& 2147483647) % 1920).toInt ≤ 2047 := by
  obtain ⟨-, r⟩ := u_dr (x &&& 2147483647) 1920 1920 rfl (by decide) (v_u x)
  have := u_add 128 ((x &&& 2147483647) % 1920) 128 rfl (by omega) (by omega); omega
theorem v_r3 (x : Int32) : 2048 ≤ (2048 + (x &&& 2147483647) % 61440).toInt ∧ (2048 + (x &&& 2147483647) % 61440).toInt ≤ 63487 := by
  obtain ⟨-, r⟩ := u_dr (x &&& 2147483647) 61440 61440 rfl (by decide) (v_u x)
  have := u_add 2048 ((x &&& 2147483647) % 61440) 2048 rfl (by omega) (by omega); omega
theorem v_r3b (y : Int32) (h : 2048 ≤ y.toInt ∧ y.toInt ≤ 63487) : 2048 ≤ (y + 2048).toInt ∧ (y + 2048).toInt ≤ 65535 := by
  have := Jvm.Kit.i32_add (p := y) (q := 2048) (by rw [show (2048 : Int32).toInt = 2048 from rfl]; omega) (by rw [show (2048 : Int32).toInt = 2048 from rfl]; omega)
  rw [show (2048 : Int32).toInt = 2048 from rfl] at this; omega
theorem v_r4 (x : Int32) : 65536 ≤ (65536 + (x &&& 2147483647) % 1048576).toInt ∧ (65536 + (x &&& 2147483647) % 1048576).toInt ≤ 1114111 := by
  obtain ⟨-, r⟩ := u_dr (x &&& 2147483647) 1048576 1048576 rfl (by decide) (v_u x)
  have := u_add 65536 ((x &&& 2147483647) % 1048576) 65536 rfl (by omega) (by omega); omega
theorem v_i1 (xi : Int32) (i d : Nat) (dd : Int32) (hi : xi.toInt = i) (hb : i < 100) (hd : dd.toInt = d) (hd2 : d < 100) : (xi + dd).toInt = ((i + d : Nat) : Int) := by
  rw [Jvm.Kit.i32_add (by omega) (by omega)]; omega
set_option maxRecDepth 65536 in
set_option maxHeartbeats 40000000 in
theorem c_cp1 (l : Launch) (Z : State) (a0 : Array Value) (hw : ∀ d ∈ tables_1, d.before a0 Z = true) (ws : List Jvm.Cond) (n0 : Nat) (h0 : Heap) (hn0 : n0 ≤ h0.size) (xa : Addr) (xi : Int32) (vs : List Int32) (L' : List (Addr × (Cell → Prop))) (H0 : OL n0 h0 ((xa, OA Z .byte vs) :: L')) (i : Nat) (hi : xi.toInt = i) (hb : i < 100) (v0 : Int32) (hv0 : vs[i + 0]? = some v0) :
    OC l Z (⟨"org/bindloom/internal/Utf8", "codePointAt", "([BII)I"⟩ : MethodName) prog_39_method_8_code 5 (some .int) ws ({ frames := 0, cells := 0, slots := 0, locals := 0 } : Room) n0 #[(.ref xa), (.int xi), (.int (1 : Int32))] h0 (fun r h => r = some (.int (f_cp1 v0)) ∧ h0 = h) := by
  refine OC.of pn_0 hn0 #[.val (.ref xa), .val (.int xi), .val (.int (1 : Int32)), .unset, .unset] (fun m => by first | (simp [entryFrame, mkF, argsToLocals, Value.category, maxLocals]; done) | rfl) ?_
  intro p e s m below meth cd0 T0 X0 Q' hQ
  refine o_aloadN X0 d1_0 rfl rfl 1 rfl ?_
  refine o_iloadN X0 d1_1 rfl 2 rfl ?_
  refine o_baloadB X0 H0 0 rfl d1_2 i hi v0 hv0 3 rfl ?_
  refine o_sipush (v := (255 : Int32)) X0 d1_3 rfl 6 rfl ?_
  refine o_iand X0 d1_6 7 rfl ?_
  refine o_istoreN X0 d1_7 #[.val (.ref xa), .val (.int xi), .val (.int (1 : Int32)), .val (.int (v0 &&& (255 : Int32))), .unset] rfl 8 rfl ?_
  refine o_iloadN X0 d1_8 rfl 9 rfl ?_
  refine o_iconst (v := (1 : Int32)) X0 d1_9 rfl 10 rfl ?_
  refine o_icmpNe X0 d1_10 19 13 (by decide) (by decide) rfl (fun q => by exfalso; exact absurd q (by decide)) ?_
  intro hc10
  refine o_iloadN X0 d1_13 rfl 14 rfl ?_
  refine o_istore X0 d1_14 #[.val (.ref xa), .val (.int xi), .val (.int (1 : Int32)), .val (.int (v0 &&& (255 : Int32))), .val (.int (v0 &&& (255 : Int32)))] rfl 16 rfl ?_
  refine o_goto X0 d1_16 125 (by decide) (by decide) ?_
  refine o_iload X0 d1_125 rfl 127 rfl ?_
  exact o_retI X0 d1_127 (by decide) (by decide) (hQ _ _ ⟨rfl, rfl⟩)
set_option maxRecDepth 65536 in
set_option maxHeartbeats 40000000 in
theorem c_cp2 (l : Launch) (Z : State) (a0 : Array Value) (hw : ∀ d ∈ tables_1, d.before a0 Z = true) (ws : List Jvm.Cond) (n0 : Nat) (h0 : Heap) (hn0 : n0 ≤ h0.size) (xa : Addr) (xi : Int32) (vs : List Int32) (L' : List (Addr × (Cell → Prop))) (H0 : OL n0 h0 ((xa, OA Z .byte vs) :: L')) (i : Nat) (hi : xi.toInt = i) (hb : i < 100) (v0 v1 : Int32) (hv0 : vs[i + 0]? = some v0) (hv1 : vs[i + 1]? = some v1) :
    OC l Z (⟨"org/bindloom/internal/Utf8", "codePointAt", "([BII)I"⟩ : MethodName) prog_39_method_8_code 5 (some .int) ws ({ frames := 0, cells := 0, slots := 0, locals := 0 } : Room) n0 #[(.ref xa), (.int xi), (.int (2 : Int32))] h0 (fun r h => r = some (.int (f_cp2 v0 v1)) ∧ h0 = h) := by
  refine OC.of pn_0 hn0 #[.val (.ref xa), .val (.int xi), .val (.int (2 : Int32)), .unset, .unset] (fun m => by first | (simp [entryFrame, mkF, argsToLocals, Value.category, maxLocals]; done) | rfl) ?_
  intro p e s m below meth cd0 T0 X0 Q' hQ
  refine o_aloadN X0 d1_0 rfl rfl 1 rfl ?_
  refine o_iloadN X0 d1_1 rfl 2 rfl ?_
  refine o_baloadB X0 H0 0 rfl d1_2 i hi v0 hv0 3 rfl ?_
  refine o_sipush (v := (255 : Int32)) X0 d1_3 rfl 6 rfl ?_
  refine o_iand X0 d1_6 7 rfl ?_
  refine o_istoreN X0 d1_7 #[.val (.ref xa), .val (.int xi), .val (.int (2 : Int32)), .val (.int (v0 &&& (255 : Int32))), .unset] rfl 8 rfl ?_
  refine o_iloadN X0 d1_8 rfl 9 rfl ?_
  refine o_iconst (v := (1 : Int32)) X0 d1_9 rfl 10 rfl ?_
  refine o_icmpNe X0 d1_10 19 13 (by decide) (by decide) rfl ?_ (fun q => by exfalso; exact absurd q (by decide))
  intro hc10
  refine o_iloadN X0 d1_19 rfl 20 rfl ?_
  refine o_iconst (v := (2 : Int32)) X0 d1_20 rfl 21 rfl ?_
  refine o_icmpNe X0 d1_21 45 24 (by decide) (by decide) rfl (fun q => by exfalso; exact absurd q (by decide)) ?_
  intro hc21
  refine o_iloadN X0 d1_24 rfl 25 rfl ?_
  refine o_bipush (v := (31 : Int32)) X0 d1_25 rfl 27 rfl ?_
  refine o_iand X0 d1_27 28 rfl ?_
  refine o_bipush (v := (6 : Int32)) X0 d1_28 rfl 30 rfl ?_
  refine o_ishl X0 d1_30 31 rfl ?_
  refine o_aloadN X0 d1_31 rfl rfl 32 rfl ?_
  refine o_iloadN X0 d1_32 rfl 33 rfl ?_
  refine o_iconst (v := (1 : Int32)) X0 d1_33 rfl 34 rfl ?_
  refine o_iadd X0 d1_34 35 rfl ?_
  refine o_baloadB X0 H0 0 rfl d1_35 (i + 1) (v_i1 xi i 1 _ hi hb rfl (by decide)) v1 hv1 36 rfl ?_
  refine o_bipush (v := (63 : Int32)) X0 d1_36 rfl 38 rfl ?_
  refine o_iand X0 d1_38 39 rfl ?_
  refine o_ior X0 d1_39 40 rfl ?_
  refine o_istore X0 d1_40 #[.val (.ref xa), .val (.int xi), .val (.int (2 : Int32)), .val (.int (v0 &&& (255 : Int32))), .val (.int ((((v0 &&& (255 : Int32)) &&& (31 : Int32)) <<< ((6 : Int32) &&& 31)) ||| (v1 &&& (63 : Int32))))] rfl 42 rfl ?_
  refine o_goto X0 d1_42 125 (by decide) (by decide) ?_
  refine o_iload X0 d1_125 rfl 127 rfl ?_
  exact o_retI X0 d1_127 (by decide) (by decide) (hQ _ _ ⟨rfl, rfl⟩)
set_option maxRecDepth 65536 in
set_option maxHeartbeats 40000000 in
theorem c_cp3 (l : Launch) (Z : State) (a0 : Array Value) (hw : ∀ d ∈ tables_1, d.before a0 Z = true) (ws : List Jvm.Cond) (n0 : Nat) (h0 : Heap) (hn0 : n0 ≤ h0.size) (xa : Addr) (xi : Int32) (vs : List Int32) (L' : List (Addr × (Cell → Prop))) (H0 : OL n0 h0 ((xa, OA Z .byte vs) :: L')) (i : Nat) (hi : xi.toInt = i) (hb : i < 100) (v0 v1 v2 : Int32) (hv0 : vs[i + 0]? = some v0) (hv1 : vs[i + 1]? = some v1) (hv2 : vs[i + 2]? = some v2) :
    OC l Z (⟨"org/bindloom/internal/Utf8", "codePointAt", "([BII)I"⟩ : MethodName) prog_39_method_8_code 5 (some .int) ws ({ frames := 0, cells := 0, slots := 0, locals := 0 } : Room) n0 #[(.ref xa), (.int xi), (.int (3 : Int32))] h0 (fun r h => r = some (.int (f_cp3 v0 v1 v2)) ∧ h0 = h) := by
  refine OC.of pn_0 hn0 #[.val (.ref xa), .val (.int xi), .val (.int (3 : Int32)), .unset, .unset] (fun m => by first | (simp [entryFrame, mkF, argsToLocals, Value.category, maxLocals]; done) | rfl) ?_
  intro p e s m below meth cd0 T0 X0 Q' hQ
  refine o_aloadN X0 d1_0 rfl rfl 1 rfl ?_
  refine o_iloadN X0 d1_1 rfl 2 rfl ?_
  refine o_baloadB X0 H0 0 rfl d1_2 i hi v0 hv0 3 rfl ?_
  refine o_sipush (v := (255 : Int32)) X0 d1_3 rfl 6 rfl ?_
  refine o_iand X0 d1_6 7 rfl ?_
  refine o_istoreN X0 d1_7 #[.val (.ref xa), .val (.int xi), .val (.int (3 : Int32)), .val (.int (v0 &&& (255 : Int32))), .unset] rfl 8 rfl ?_
  refine o_iloadN X0 d1_8 rfl 9 rfl ?_
  refine o_iconst (v := (1 : Int32)) X0 d1_9 rfl 10 rfl ?_
  refine o_icmpNe X0 d1_10 19 13 (by decide) (by decide) rfl ?_ (fun q => by exfalso; exact absurd q (by decide))
  intro hc10
  refine o_iloadN X0 d1_19 rfl 20 rfl ?_
  refine o_iconst (v := (2 : Int32)) X0 d1_20 rfl 21 rfl ?_
  refine o_icmpNe X0 d1_21 45 24 (by decide) (by decide) rfl ?_ (fun q => by exfalso; exact absurd q (by decide))
  intro hc21
  refine o_iloadN X0 d1_45 rfl 46 rfl ?_
  refine o_iconst (v := (3 : Int32)) X0 d1_46 rfl 47 rfl ?_
  refine o_icmpNe X0 d1_47 83 50 (by decide) (by decide) rfl (fun q => by exfalso; exact absurd q (by decide)) ?_
  intro hc47
  refine o_iloadN X0 d1_50 rfl 51 rfl ?_
  refine o_bipush (v := (15 : Int32)) X0 d1_51 rfl 53 rfl ?_
  refine o_iand X0 d1_53 54 rfl ?_
  refine o_bipush (v := (12 : Int32)) X0 d1_54 rfl 56 rfl ?_
  refine o_ishl X0 d1_56 57 rfl ?_
  refine o_aloadN X0 d1_57 rfl rfl 58 rfl ?_
  refine o_iloadN X0 d1_58 rfl 59 rfl ?_
  refine o_iconst (v := (1 : Int32)) X0 d1_59 rfl 60 rfl ?_
  refine o_iadd X0 d1_60 61 rfl ?_
  refine o_baloadB X0 H0 0 rfl d1_61 (i + 1) (v_i1 xi i 1 _ hi hb rfl (by decide)) v1 hv1 62 rfl ?_
  refine o_bipush (v := (63 : Int32)) X0 d1_62 rfl 64 rfl ?_
  refine o_iand X0 d1_64 65 rfl ?_
  refine o_bipush (v := (6 : Int32)) X0 d1_65 rfl 67 rfl ?_
  refine o_ishl X0 d1_67 68 rfl ?_
  refine o_ior X0 d1_68 69 rfl ?_
  refine o_aloadN X0 d1_69 rfl rfl 70 rfl ?_
  refine o_iloadN X0 d1_70 rfl 71 rfl ?_
  refine o_iconst (v := (2 : Int32)) X0 d1_71 rfl 72 rfl ?_
  refine o_iadd X0 d1_72 73 rfl ?_
  refine o_baloadB X0 H0 0 rfl d1_73 (i + 2) (v_i1 xi i 2 _ hi hb rfl (by decide)) v2 hv2 74 rfl ?_
  refine o_bipush (v := (63 : Int32)) X0 d1_74 rfl 76 rfl ?_
  refine o_iand X0 d1_76 77 rfl ?_
  refine o_ior X0 d1_77 78 rfl ?_
  refine o_istore X0 d1_78 #[.val (.ref xa), .val (.int xi), .val (.int (3 : Int32)), .val (.int (v0 &&& (255 : Int32))), .val (.int (((((v0 &&& (255 : Int32)) &&& (15 : Int32)) <<< ((12 : Int32) &&& 31)) ||| ((v1 &&& (63 : Int32)) <<< ((6 : Int32) &&& 31))) ||| (v2 &&& (63 : Int32))))] rfl 80 rfl ?_
  refine o_goto X0 d1_80 125 (by decide) (by decide) ?_
  refine o_iload X0 d1_125 rfl 127 rfl ?_
  exact o_retI X0 d1_127 (by decide) (by decide) (hQ _ _ ⟨rfl, rfl⟩)
set_option maxRecDepth 65536 in
set_option maxHeartbeats 40000000 in
theorem c_cp4 (l : Launch) (Z : State) (a0 : Array Value) (hw : ∀ d ∈ tables_1, d.before a0 Z = true) (ws : List Jvm.Cond) (n0 : Nat) (h0 : Heap) (hn0 : n0 ≤ h0.size) (xa : Addr) (xi : Int32) (vs : List Int32) (L' : List (Addr × (Cell → Prop))) (H0 : OL n0 h0 ((xa, OA Z .byte vs) :: L')) (i : Nat) (hi : xi.toInt = i) (hb : i < 100) (v0 v1 v2 v3 : Int32) (hv0 : vs[i + 0]? = some v0) (hv1 : vs[i + 1]? = some v1) (hv2 : vs[i + 2]? = some v2) (hv3 : vs[i + 3]? = some v3) :
    OC l Z (⟨"org/bindloom/internal/Utf8", "codePointAt", "([BII)I"⟩ : MethodName) prog_39_method_8_code 5 (some .int) ws ({ frames := 0, cells := 0, slots := 0, locals := 0 } : Room) n0 #[(.ref xa), (.int xi), (.int (4 : Int32))] h0 (fun r h => r = some (.int (f_cp4 v0 v1 v2 v3)) ∧ h0 = h) := by
  refine OC.of pn_0 hn0 #[.val (.ref xa), .val (.int xi), .val (.int (4 : Int32)), .unset, .unset] (fun m => by first | (simp [entryFrame, mkF, argsToLocals, Value.category, maxLocals]; done) | rfl) ?_
  intro p e s m below meth cd0 T0 X0 Q' hQ
  refine o_aloadN X0 d1_0 rfl rfl 1 rfl ?_
  refine o_iloadN X0 d1_1 rfl 2 rfl ?_
  refine o_baloadB X0 H0 0 rfl d1_2 i hi v0 hv0 3 rfl ?_
  refine o_sipush (v := (255 : Int32)) X0 d1_3 rfl 6 rfl ?_
  refine o_iand X0 d1_6 7 rfl ?_
  refine o_istoreN X0 d1_7 #[.val (.ref xa), .val (.int xi), .val (.int (4 : Int32)), .val (.int (v0 &&& (255 : Int32))), .unset] rfl 8 rfl ?_
  refine o_iloadN X0 d1_8 rfl 9 rfl ?_
  refine o_iconst (v := (1 : Int32)) X0 d1_9 rfl 10 rfl ?_
  refine o_icmpNe X0 d1_10 19 13 (by decide) (by decide) rfl ?_ (fun q => by exfalso; exact absurd q (by decide))
  intro hc10
  refine o_iloadN X0 d1_19 rfl 20 rfl ?_
  refine o_iconst (v := (2 : Int32)) X0 d1_20 rfl 21 rfl ?_
  refine o_icmpNe X0 d1_21 45 24 (by decide) (by decide) rfl ?_ (fun q => by exfalso; exact absurd q (by decide))
  intro hc21
  refine o_iloadN X0 d1_45 rfl 46 rfl ?_
  refine o_iconst (v := (3 : Int32)) X0 d1_46 rfl 47 rfl ?_
  refine o_icmpNe X0 d1_47 83 50 (by decide) (by decide) rfl ?_ (fun q => by exfalso; exact absurd q (by decide))
  intro hc47
  refine o_iloadN X0 d1_83 rfl 84 rfl ?_
  refine o_bipush (v := (7 : Int32)) X0 d1_84 rfl 86 rfl ?_
  refine o_iand X0 d1_86 87 rfl ?_
  refine o_bipush (v := (18 : Int32)) X0 d1_87 rfl 89 rfl ?_
  refine o_ishl X0 d1_89 90 rfl ?_
  refine o_aloadN X0 d1_90 rfl rfl 91 rfl ?_
  refine o_iloadN X0 d1_91 rfl 92 rfl ?_
  refine o_iconst (v := (1 : Int32)) X0 d1_92 rfl 93 rfl ?_
  refine o_iadd X0 d1_93 94 rfl ?_
  refine o_baloadB X0 H0 0 rfl d1_94 (i + 1) (v_i1 xi i 1 _ hi hb rfl (by decide)) v1 hv1 95 rfl ?_
  refine o_bipush (v := (63 : Int32)) X0 d1_95 rfl 97 rfl ?_
  refine o_iand X0 d1_97 98 rfl ?_
  refine o_bipush (v := (12 : Int32)) X0 d1_98 rfl 100 rfl ?_
  refine o_ishl X0 d1_100 101 rfl ?_
  refine o_ior X0 d1_101 102 rfl ?_
  refine o_aloadN X0 d1_102 rfl rfl 103 rfl ?_
  refine o_iloadN X0 d1_103 rfl 104 rfl ?_
  refine o_iconst (v := (2 : Int32)) X0 d1_104 rfl 105 rfl ?_
  refine o_iadd X0 d1_105 106 rfl ?_
  refine o_baloadB X0 H0 0 rfl d1_106 (i + 2) (v_i1 xi i 2 _ hi hb rfl (by decide)) v2 hv2 107 rfl ?_
  refine o_bipush (v := (63 : Int32)) X0 d1_107 rfl 109 rfl ?_
  refine o_iand X0 d1_109 110 rfl ?_
  refine o_bipush (v := (6 : Int32)) X0 d1_110 rfl 112 rfl ?_
  refine o_ishl X0 d1_112 113 rfl ?_
  refine o_ior X0 d1_113 114 rfl ?_
  refine o_aloadN X0 d1_114 rfl rfl 115 rfl ?_
  refine o_iloadN X0 d1_115 rfl 116 rfl ?_
  refine o_iconst (v := (3 : Int32)) X0 d1_116 rfl 117 rfl ?_
  refine o_iadd X0 d1_117 118 rfl ?_
  refine o_baloadB X0 H0 0 rfl d1_118 (i + 3) (v_i1 xi i 3 _ hi hb rfl (by decide)) v3 hv3 119 rfl ?_
  refine o_bipush (v := (63 : Int32)) X0 d1_119 rfl 121 rfl ?_
  refine o_iand X0 d1_121 122 rfl ?_
  refine o_ior X0 d1_122 123 rfl ?_
  refine o_istore X0 d1_123 #[.val (.ref xa), .val (.int xi), .val (.int (4 : Int32)), .val (.int (v0 &&& (255 : Int32))), .val (.int ((((((v0 &&& (255 : Int32)) &&& (7 : Int32)) <<< ((18 : Int32) &&& 31)) ||| ((v1 &&& (63 : Int32)) <<< ((12 : Int32) &&& 31))) ||| ((v2 &&& (63 : Int32)) <<< ((6 : Int32) &&& 31))) ||| (v3 &&& (63 : Int32))))] rfl 125 rfl ?_
  refine o_iload X0 d1_125 rfl 127 rfl ?_
  exact o_retI X0 d1_127 (by decide) (by decide) (hQ _ _ ⟨rfl, rfl⟩)
set_option maxRecDepth 65536 in
set_option maxHeartbeats 40000000 in
theorem c_law (l : Launch) (Z : State) (a0 : Array Value) (hw : ∀ d ∈ tables_1, d.before a0 Z = true) (ws : List Jvm.Cond) (n0 : Nat) (h0 : Heap) (hn0 : n0 ≤ h0.size) (xk : Int32) (xc : Int32) (xg : Int64) :
    OC l Z x code maxLocals ret ws room_1 n0 #[(.int xk), (.int xc), (.long xg)] h0 (fun r h => r = some (.int 1)) := by
  refine OC.of pn_1 hn0 #[.val (.int xk), .val (.int xc), .val (.long xg), .second, .unset, .unset, .unset, .unset, .unset] (fun m => by first | (simp [entryFrame, mkF, argsToLocals, Value.category, maxLocals]; done) | rfl) ?_
  intro p e s m below meth cd0 T0 X0 Q' hQ
  have J186 : ∀ (T : State) (h : Heap) (xn xi xu xcp : Int32) (xb : Addr) (y0 y1 y2 y3 y4 y5 y6 y7 : Int32), OW p l e room_1 s m #[(.int xk), (.int xc), (.long xg)] below meth cd0 Z x code maxLocals ret n0 T h 1 8 → OL n0 h ((xb, OA Z .byte [y0, y1, y2, y3, y4, y5, y6, y7]) :: []) → ((xn = 1 ∧ 0 ≤ xcp.toInt ∧ xcp.toInt ≤ 127) ∨ (xn = 2 ∧ 128 ≤ xcp.toInt ∧ xcp.toInt ≤ 2047) ∨ (xn = 3 ∧ 2048 ≤ xcp.toInt ∧ xcp.toInt ≤ 65535) ∨ (xn = 4 ∧ 65536 ≤ xcp.toInt ∧ xcp.toInt ≤ 1114111)) → (xi = 0 ∨ xi = 1 ∨ xi = 2 ∨ xi = 3) → OE p e room_1 below s n0 Q' T (mkF m 186 #[.val (.int xk), .val (.int xc), .val (.long xg), .second, .val (.int xn), .val (.int xi), .val (.int xu), .val (.int xcp), .val (.ref xb)] []) := by
    intro T h xn xi xu xcp xb y0 y1 y2 y3 y4 y5 y6 y7 X_J186 H_J186 hD hI
    rcases hD with ⟨rfl, hlo, hhi⟩ | ⟨rfl, hlo, hhi⟩ | ⟨rfl, hlo, hhi⟩ | ⟨rfl, hlo, hhi⟩ <;> rcases hI with rfl | rfl | rfl | rfl
    · skip
      refine o_iload X_J186 at_186 rfl 188 rfl ?_
      refine o_iconst (v := (1 : Int32)) X_J186 at_188 rfl 189 rfl ?_
      refine o_icmpNe X_J186 at_189 203 192 (by decide) (by decide) rfl (fun q => by exfalso; exact absurd q (by decide)) ?_
      intro hc189
      refine o_aload X_J186 at_192 rfl rfl 194 rfl ?_
      refine o_iload X_J186 at_194 rfl 196 rfl ?_
      refine o_iload X_J186 at_196 rfl 198 rfl ?_
      refine o_i2b X_J186 at_198 199 rfl ?_
      refine o_bastoreB X_J186 H_J186 0 rfl at_199 0 rfl (by show 0 < 8; decide) (Int8.toInt32 (Int32.toInt8 xcp)) (o_b8 _) 200 rfl ?_
      intro T1 h1 X1 H1
      replace H1 : OL n0 h1 ((xb, OA Z .byte [(Int8.toInt32 (Int32.toInt8 xcp)), y1, y2, y3, y4, y5, y6, y7]) :: []) := H1
      refine o_goto X1 at_200 379 (by decide) (by decide) ?_
      refine o_aload X1 at_379 rfl rfl 381 rfl ?_
      refine o_iload X1 at_381 rfl 383 rfl ?_
      refine o_iload X1 at_383 rfl 385 rfl ?_
      refine o_callS X1 at_385 (rest := []) (c_cp1 l Z a0 hw [] n0 _ X1.size xb (0 : Int32) [(Int8.toInt32 (Int32.toInt8 xcp)), y1, y2, y3, y4, y5, y6, y7] [] H1 0 rfl (by decide) (Int8.toInt32 (Int32.toInt8 xcp)) rfl) (hw _ (List.mem_of_getElem? (i := 2) rfl)) (hw _ (List.mem_of_getElem? (i := 3) rfl)) (hw _ (List.mem_of_getElem? (i := 4) rfl)) (hw _ (List.mem_of_getElem? (i := 5) rfl)) (by decide) 0 (by decide) (by decide) rfl [(.ref xb), (.int (0 : Int32)), (.int (1 : Int32))] rfl pd_1 rfl rfl (Nat.le_of_eq rfl) 1 8 rfl rfl (by decide) (by decide) 388 rfl ?_
      rintro _ T2 _ X2 ⟨rfl, rfl⟩
      rw [show (f_cp1 (Int8.toInt32 (Int32.toInt8 xcp))) = xcp from v_cp1 xcp hlo hhi]
      show OE p e room_1 below s n0 Q' T2 (mkF m 388 #[.val (.int xk), .val (.int xc), .val (.long xg), .second, .val (.int (1 : Int32)), .val (.int (0 : Int32)), .val (.int xu), .val (.int xcp), .val (.ref xb)] [(.int xcp)])
      refine o_iload X2 at_388 rfl 390 rfl ?_
      refine o_icmpNe X2 at_390 397 393 (by decide) (by decide) rfl (fun q => by exfalso; exact q rfl) ?_
      intro hc390
      refine o_iconst (v := (1 : Int32)) X2 at_393 rfl 394 rfl ?_
      refine o_goto X2 at_394 398 (by decide) (by decide) ?_
      exact o_retZ X2 at_398 (by decide) (by decide) (hQ _ _ rfl)
    · skip
      refine o_iload X_J186 at_186 rfl 188 rfl ?_
      refine o_iconst (v := (1 : Int32)) X_J186 at_188 rfl 189 rfl ?_
      refine o_icmpNe X_J186 at_189 203 192 (by decide) (by decide) rfl (fun q => by exfalso; exact absurd q (by decide)) ?_
      intro hc189
      refine o_aload X_J186 at_192 rfl rfl 194 rfl ?_
      refine o_iload X_J186 at_194 rfl 196 rfl ?_
      refine o_iload X_J186 at_196 rfl 198 rfl ?_
      refine o_i2b X_J186 at_198 199 rfl ?_
      refine o_bastoreB X_J186 H_J186 0 rfl at_199 1 rfl (by show 1 < 8; decide) (Int8.toInt32 (Int32.toInt8 xcp)) (o_b8 _) 200 rfl ?_
      intro T3 h3 X3 H3
      replace H3 : OL n0 h3 ((xb, OA Z .byte [y0, (Int8.toInt32 (Int32.toInt8 xcp)), y2, y3, y4, y5, y6, y7]) :: []) := H3
      refine o_goto X3 at_200 379 (by decide) (by decide) ?_
      refine o_aload X3 at_379 rfl rfl 381 rfl ?_
      refine o_iload X3 at_381 rfl 383 rfl ?_
      refine o_iload X3 at_383 rfl 385 rfl ?_
      refine o_callS X3 at_385 (rest := []) (c_cp1 l Z a0 hw [] n0 _ X3.size xb (1 : Int32) [y0, (Int8.toInt32 (Int32.toInt8 xcp)), y2, y3, y4, y5, y6, y7] [] H3 1 rfl (by decide) (Int8.toInt32 (Int32.toInt8 xcp)) rfl) (hw _ (List.mem_of_getElem? (i := 2) rfl)) (hw _ (List.mem_of_getElem? (i := 3) rfl)) (hw _ (List.mem_of_getElem? (i := 4) rfl)) (hw _ (List.mem_of_getElem? (i := 5) rfl)) (by decide) 0 (by decide) (by decide) rfl [(.ref xb), (.int (1 : Int32)), (.int (1 : Int32))] rfl pd_1 rfl rfl (Nat.le_of_eq rfl) 1 8 rfl rfl (by decide) (by decide) 388 rfl ?_
      rintro _ T4 _ X4 ⟨rfl, rfl⟩
      rw [show (f_cp1 (Int8.toInt32 (Int32.toInt8 xcp))) = xcp from v_cp1 xcp hlo hhi]
      show OE p e room_1 below s n0 Q' T4 (mkF m 388 #[.val (.int xk), .val (.int xc), .val (.long xg), .second, .val (.int (1 : Int32)), .val (.int (1 : Int32)), .val (.int xu), .val (.int xcp), .val (.ref xb)] [(.int xcp)])
      refine o_iload X4 at_388 rfl 390 rfl ?_
      refine o_icmpNe X4 at_390 397 393 (by decide) (by decide) rfl (fun q => by exfalso; exact q rfl) ?_
      intro hc390
      refine o_iconst (v := (1 : Int32)) X4 at_393 rfl 394 rfl ?_
      refine o_goto X4 at_394 398 (by decide) (by decide) ?_
      exact o_retZ X4 at_398 (by decide) (by decide) (hQ _ _ rfl)
    · skip
      refine o_iload X_J186 at_186 rfl 188 rfl ?_
      refine o_iconst (v := (1 : Int32)) X_J186 at_188 rfl 189 rfl ?_
      refine o_icmpNe X_J186 at_189 203 192 (by decide) (by decide) rfl (fun q => by exfalso; exact absurd q (by decide)) ?_
      intro hc189
      refine o_aload X_J186 at_192 rfl rfl 194 rfl ?_
      refine o_iload X_J186 at_194 rfl 196 rfl ?_
      refine o_iload X_J186 at_196 rfl 198 rfl ?_
      refine o_i2b X_J186 at_198 199 rfl ?_
      refine o_bastoreB X_J186 H_J186 0 rfl at_199 2 rfl (by show 2 < 8; decide) (Int8.toInt32 (Int32.toInt8 xcp)) (o_b8 _) 200 rfl ?_
      intro T5 h5 X5 H5
      replace H5 : OL n0 h5 ((xb, OA Z .byte [y0, y1, (Int8.toInt32 (Int32.toInt8 xcp)), y3, y4, y5, y6, y7]) :: []) := H5
      refine o_goto X5 at_200 379 (by decide) (by decide) ?_
      refine o_aload X5 at_379 rfl rfl 381 rfl ?_
      refine o_iload X5 at_381 rfl 383 rfl ?_
      refine o_iload X5 at_383 rfl 385 rfl ?_
      refine o_callS X5 at_385 (rest := []) (c_cp1 l Z a0 hw [] n0 _ X5.size xb (2 : Int32) [y0, y1, (Int8.toInt32 (Int32.toInt8 xcp)), y3, y4, y5, y6, y7] [] H5 2 rfl (by decide) (Int8.toInt32 (Int32.toInt8 xcp)) rfl) (hw _ (List.mem_of_getElem? (i := 2) rfl)) (hw _ (List.mem_of_getElem? (i := 3) rfl)) (hw _ (List.mem_of_getElem? (i := 4) rfl)) (hw _ (List.mem_of_getElem? (i := 5) rfl)) (by decide) 0 (by decide) (by decide) rfl [(.ref xb), (.int (2 : Int32)), (.int (1 : Int32))] rfl pd_1 rfl rfl (Nat.le_of_eq rfl) 1 8 rfl rfl (by decide) (by decide) 388 rfl ?_
      rintro _ T6 _ X6 ⟨rfl, rfl⟩
      rw [show (f_cp1 (Int8.toInt32 (Int32.toInt8 xcp))) = xcp from v_cp1 xcp hlo hhi]
      show OE p e room_1 below s n0 Q' T6 (mkF m 388 #[.val (.int xk), .val (.int xc), .val (.long xg), .second, .val (.int (1 : Int32)), .val (.int (2 : Int32)), .val (.int xu), .val (.int xcp), .val (.ref xb)] [(.int xcp)])
      refine o_iload X6 at_388 rfl 390 rfl ?_
      refine o_icmpNe X6 at_390 397 393 (by decide) (by decide) rfl (fun q => by exfalso; exact q rfl) ?_
      intro hc390
      refine o_iconst (v := (1 : Int32)) X6 at_393 rfl 394 rfl ?_
      refine o_goto X6 at_394 398 (by decide) (by decide) ?_
      exact o_retZ X6 at_398 (by decide) (by decide) (hQ _ _ rfl)
    · skip
      refine o_iload X_J186 at_186 rfl 188 rfl ?_
      refine o_iconst (v := (1 : Int32)) X_J186 at_188 rfl 189 rfl ?_
      refine o_icmpNe X_J186 at_189 203 192 (by decide) (by decide) rfl (fun q => by exfalso; exact absurd q (by decide)) ?_
      intro hc189
      refine o_aload X_J186 at_192 rfl rfl 194 rfl ?_
      refine o_iload X_J186 at_194 rfl 196 rfl ?_
      refine o_iload X_J186 at_196 rfl 198 rfl ?_
      refine o_i2b X_J186 at_198 199 rfl ?_
      refine o_bastoreB X_J186 H_J186 0 rfl at_199 3 rfl (by show 3 < 8; decide) (Int8.toInt32 (Int32.toInt8 xcp)) (o_b8 _) 200 rfl ?_
      intro T7 h7 X7 H7
      replace H7 : OL n0 h7 ((xb, OA Z .byte [y0, y1, y2, (Int8.toInt32 (Int32.toInt8 xcp)), y4, y5, y6, y7]) :: []) := H7
      refine o_goto X7 at_200 379 (by decide) (by decide) ?_
      refine o_aload X7 at_379 rfl rfl 381 rfl ?_
      refine o_iload X7 at_381 rfl 383 rfl ?_
      refine o_iload X7 at_383 rfl 385 rfl ?_
      refine o_callS X7 at_385 (rest := []) (c_cp1 l Z a0 hw [] n0 _ X7.size xb (3 : Int32) [y0, y1, y2, (Int8.toInt32 (Int32.toInt8 xcp)), y4, y5, y6, y7] [] H7 3 rfl (by decide) (Int8.toInt32 (Int32.toInt8 xcp)) rfl) (hw _ (List.mem_of_getElem? (i := 2) rfl)) (hw _ (List.mem_of_getElem? (i := 3) rfl)) (hw _ (List.mem_of_getElem? (i := 4) rfl)) (hw _ (List.mem_of_getElem? (i := 5) rfl)) (by decide) 0 (by decide) (by decide) rfl [(.ref xb), (.int (3 : Int32)), (.int (1 : Int32))] rfl pd_1 rfl rfl (Nat.le_of_eq rfl) 1 8 rfl rfl (by decide) (by decide) 388 rfl ?_
      rintro _ T8 _ X8 ⟨rfl, rfl⟩
      rw [show (f_cp1 (Int8.toInt32 (Int32.toInt8 xcp))) = xcp from v_cp1 xcp hlo hhi]
      show OE p e room_1 below s n0 Q' T8 (mkF m 388 #[.val (.int xk), .val (.int xc), .val (.long xg), .second, .val (.int (1 : Int32)), .val (.int (3 : Int32)), .val (.int xu), .val (.int xcp), .val (.ref xb)] [(.int xcp)])
      refine o_iload X8 at_388 rfl 390 rfl ?_
      refine o_icmpNe X8 at_390 397 393 (by decide) (by decide) rfl (fun q => by exfalso; exact q rfl) ?_
      intro hc390
      refine o_iconst (v := (1 : Int32)) X8 at_393 rfl 394 rfl ?_
      refine o_goto X8 at_394 398 (by decide) (by decide) ?_
      exact o_retZ X8 at_398 (by decide) (by decide) (hQ _ _ rfl)
    · skip
      refine o_iload X_J186 at_186 rfl 188 rfl ?_
      refine o_iconst (v := (1 : Int32)) X_J186 at_188 rfl 189 rfl ?_
      refine o_icmpNe X_J186 at_189 203 192 (by decide) (by decide) rfl ?_ (fun q => by exfalso; exact absurd q (by decide))
      intro hc189
      refine o_iload X_J186 at_203 rfl 205 rfl ?_
      refine o_iconst (v := (2 : Int32)) X_J186 at_205 rfl 206 rfl ?_
      refine o_icmpNe X_J186 at_206 244 209 (by decide) (by decide) rfl (fun q => by exfalso; exact absurd q (by decide)) ?_
      intro hc206
      refine o_aload X_J186 at_209 rfl rfl 211 rfl ?_
      refine o_iload X_J186 at_211 rfl 213 rfl ?_
      refine o_sipush (v := (192 : Int32)) X_J186 at_213 rfl 216 rfl ?_
      refine o_iload X_J186 at_216 rfl 218 rfl ?_
      refine o_bipush (v := (64 : Int32)) X_J186 at_218 rfl 220 rfl ?_
      refine o_idiv X_J186 at_220 (by decide) 221 rfl ?_
      refine o_iadd X_J186 at_221 222 rfl ?_
      refine o_i2b X_J186 at_222 223 rfl ?_
      refine o_bastoreB X_J186 H_J186 0 rfl at_223 0 rfl (by show 0 < 8; decide) (Int8.toInt32 (Int32.toInt8 ((192 : Int32) + (xcp / (64 : Int32))))) (o_b8 _) 224 rfl ?_
      intro T9 h9 X9 H9
      replace H9 : OL n0 h9 ((xb, OA Z .byte [(Int8.toInt32 (Int32.toInt8 ((192 : Int32) + (xcp / (64 : Int32))))), y1, y2, y3, y4, y5, y6, y7]) :: []) := H9
      refine o_aload X9 at_224 rfl rfl 226 rfl ?_
      refine o_iload X9 at_226 rfl 228 rfl ?_
      refine o_iconst (v := (1 : Int32)) X9 at_228 rfl 229 rfl ?_
      refine o_iadd X9 at_229 230 rfl ?_
      refine o_sipush (v := (128 : Int32)) X9 at_230 rfl 233 rfl ?_
      refine o_iload X9 at_233 rfl 235 rfl ?_
      refine o_bipush (v := (64 : Int32)) X9 at_235 rfl 237 rfl ?_
      refine o_irem X9 at_237 (by decide) 238 rfl ?_
      refine o_iadd X9 at_238 239 rfl ?_
      refine o_i2b X9 at_239 240 rfl ?_
      refine o_bastoreB X9 H9 0 rfl at_240 1 rfl (by show 1 < 8; decide) (Int8.toInt32 (Int32.toInt8 ((128 : Int32) + (xcp % (64 : Int32))))) (o_b8 _) 241 rfl ?_
      intro T10 h10 X10 H10
      replace H10 : OL n0 h10 ((xb, OA Z .byte [(Int8.toInt32 (Int32.toInt8 ((192 : Int32) + (xcp / (64 : Int32))))), (Int8.toInt32 (Int32.toInt8 ((128 : Int32) + (xcp % (64 : Int32))))), y2, y3, y4, y5, y6, y7]) :: []) := H10
      refine o_goto X10 at_241 379 (by decide) (by decide) ?_
      refine o_aload X10 at_379 rfl rfl 381 rfl ?_
      refine o_iload X10 at_381 rfl 383 rfl ?_
      refine o_iload X10 at_383 rfl 385 rfl ?_
      refine o_callS X10 at_385 (rest := []) (c_cp2 l Z a0 hw [] n0 _ X10.size xb (0 : Int32) [(Int8.toInt32 (Int32.toInt8 ((192 : Int32) + (xcp / (64 : Int32))))), (Int8.toInt32 (Int32.toInt8 ((128 : Int32) + (xcp % (64 : Int32))))), y2, y3, y4, y5, y6, y7] [] H10 0 rfl (by decide) (Int8.toInt32 (Int32.toInt8 ((192 : Int32) + (xcp / (64 : Int32))))) (Int8.toInt32 (Int32.toInt8 ((128 : Int32) + (xcp % (64 : Int32))))) rfl rfl) (hw _ (List.mem_of_getElem? (i := 2) rfl)) (hw _ (List.mem_of_getElem? (i := 3) rfl)) (hw _ (List.mem_of_getElem? (i := 4) rfl)) (hw _ (List.mem_of_getElem? (i := 5) rfl)) (by decide) 0 (by decide) (by decide) rfl [(.ref xb), (.int (0 : Int32)), (.int (2 : Int32))] rfl pd_1 rfl rfl (Nat.le_of_eq rfl) 1 8 rfl rfl (by decide) (by decide) 388 rfl ?_
      rintro _ T11 _ X11 ⟨rfl, rfl⟩
      rw [show (f_cp2 (Int8.toInt32 (Int32.toInt8 ((192 : Int32) + (xcp / (64 : Int32))))) (Int8.toInt32 (Int32.toInt8 ((128 : Int32) + (xcp % (64 : Int32)))))) = xcp from v_cp2 xcp hlo hhi]
      show OE p e room_1 below s n0 Q' T11 (mkF m 388 #[.val (.int xk), .val (.int xc), .val (.long xg), .second, .val (.int (2 : Int32)), .val (.int (0 : Int32)), .val (.int xu), .val (.int xcp), .val (.ref xb)] [(.int xcp)])
      refine o_iload X11 at_388 rfl 390 rfl ?_
      refine o_icmpNe X11 at_390 397 393 (by decide) (by decide) rfl (fun q => by exfalso; exact q rfl) ?_
      intro hc390
      refine o_iconst (v := (1 : Int32)) X11 at_393 rfl 394 rfl ?_
      refine o_goto X11 at_394 398 (by decide) (by decide) ?_
      exact o_retZ X11 at_398 (by decide) (by decide) (hQ _ _ rfl)
    · skip
      refine o_iload X_J186 at_186 rfl 188 rfl ?_
      refine o_iconst (v := (1 : Int32)) X_J186 at_188 rfl 189 rfl ?_
      refine o_icmpNe X_J186 at_189 203 192 (by decide) (by decide) rfl ?_ (fun q => by exfalso; exact absurd q (by decide))
      intro hc189
      refine o_iload X_J186 at_203 rfl 205 rfl ?_
      refine o_iconst (v := (2 : Int32)) X_J186 at_205 rfl 206 rfl ?_
      refine o_icmpNe X_J186 at_206 244 209 (by decide) (by decide) rfl (fun q => by exfalso; exact absurd q (by decide)) ?_
      intro hc206
      refine o_aload X_J186 at_209 rfl rfl 211 rfl ?_
      refine o_iload X_J186 at_211 rfl 213 rfl ?_
      refine o_sipush (v := (192 : Int32)) X_J186 at_213 rfl 216 rfl ?_
      refine o_iload X_J186 at_216 rfl 218 rfl ?_
      refine o_bipush (v := (64 : Int32)) X_J186 at_218 rfl 220 rfl ?_
      refine o_idiv X_J186 at_220 (by decide) 221 rfl ?_
      refine o_iadd X_J186 at_221 222 rfl ?_
      refine o_i2b X_J186 at_222 223 rfl ?_
      refine o_bastoreB X_J186 H_J186 0 rfl at_223 1 rfl (by show 1 < 8; decide) (Int8.toInt32 (Int32.toInt8 ((192 : Int32) + (xcp / (64 : Int32))))) (o_b8 _) 224 rfl ?_
      intro T12 h12 X12 H12
      replace H12 : OL n0 h12 ((xb, OA Z .byte [y0, (Int8.toInt32 (Int32.toInt8 ((192 : Int32) + (xcp / (64 : Int32))))), y2, y3, y4, y5, y6, y7]) :: []) := H12
      refine o_aload X12 at_224 rfl rfl 226 rfl ?_
      refine o_iload X12 at_226 rfl 228 rfl ?_
      refine o_iconst (v := (1 : Int32)) X12 at_228 rfl 229 rfl ?_
      refine o_iadd X12 at_229 230 rfl ?_
      refine o_sipush (v := (128 : Int32)) X12 at_230 rfl 233 rfl ?_
      refine o_iload X12 at_233 rfl 235 rfl ?_
      refine o_bipush (v := (64 : Int32)) X12 at_235 rfl 237 rfl ?_
      refine o_irem X12 at_237 (by decide) 238 rfl ?_
      refine o_iadd X12 at_238 239 rfl ?_
      refine o_i2b X12 at_239 240 rfl ?_
      refine o_bastoreB X12 H12 0 rfl at_240 2 rfl (by show 2 < 8; decide) (Int8.toInt32 (Int32.toInt8 ((128 : Int32) + (xcp % (64 : Int32))))) (o_b8 _) 241 rfl ?_
      intro T13 h13 X13 H13
      replace H13 : OL n0 h13 ((xb, OA Z .byte [y0, (Int8.toInt32 (Int32.toInt8 ((192 : Int32) + (xcp / (64 : Int32))))), (Int8.toInt32 (Int32.toInt8 ((128 : Int32) + (xcp % (64 : Int32))))), y3, y4, y5, y6, y7]) :: []) := H13
      refine o_goto X13 at_241 379 (by decide) (by decide) ?_
      refine o_aload X13 at_379 rfl rfl 381 rfl ?_
      refine o_iload X13 at_381 rfl 383 rfl ?_
      refine o_iload X13 at_383 rfl 385 rfl ?_
      refine o_callS X13 at_385 (rest := []) (c_cp2 l Z a0 hw [] n0 _ X13.size xb (1 : Int32) [y0, (Int8.toInt32 (Int32.toInt8 ((192 : Int32) + (xcp / (64 : Int32))))), (Int8.toInt32 (Int32.toInt8 ((128 : Int32) + (xcp % (64 : Int32))))), y3, y4, y5, y6, y7] [] H13 1 rfl (by decide) (Int8.toInt32 (Int32.toInt8 ((192 : Int32) + (xcp / (64 : Int32))))) (Int8.toInt32 (Int32.toInt8 ((128 : Int32) + (xcp % (64 : Int32))))) rfl rfl) (hw _ (List.mem_of_getElem? (i := 2) rfl)) (hw _ (List.mem_of_getElem? (i := 3) rfl)) (hw _ (List.mem_of_getElem? (i := 4) rfl)) (hw _ (List.mem_of_getElem? (i := 5) rfl)) (by decide) 0 (by decide) (by decide) rfl [(.ref xb), (.int (1 : Int32)), (.int (2 : Int32))] rfl pd_1 rfl rfl (Nat.le_of_eq rfl) 1 8 rfl rfl (by decide) (by decide) 388 rfl ?_
      rintro _ T14 _ X14 ⟨rfl, rfl⟩
      rw [show (f_cp2 (Int8.toInt32 (Int32.toInt8 ((192 : Int32) + (xcp / (64 : Int32))))) (Int8.toInt32 (Int32.toInt8 ((128 : Int32) + (xcp % (64 : Int32)))))) = xcp from v_cp2 xcp hlo hhi]
      show OE p e room_1 below s n0 Q' T14 (mkF m 388 #[.val (.int xk), .val (.int xc), .val (.long xg), .second, .val (.int (2 : Int32)), .val (.int (1 : Int32)), .val (.int xu), .val (.int xcp), .val (.ref xb)] [(.int xcp)])
      refine o_iload X14 at_388 rfl 390 rfl ?_
      refine o_icmpNe X14 at_390 397 393 (by decide) (by decide) rfl (fun q => by exfalso; exact q rfl) ?_
      intro hc390
      refine o_iconst (v := (1 : Int32)) X14 at_393 rfl 394 rfl ?_
      refine o_goto X14 at_394 398 (by decide) (by decide) ?_
      exact o_retZ X14 at_398 (by decide) (by decide) (hQ _ _ rfl)
    · skip
      refine o_iload X_J186 at_186 rfl 188 rfl ?_
      refine o_iconst (v := (1 : Int32)) X_J186 at_188 rfl 189 rfl ?_
      refine o_icmpNe X_J186 at_189 203 192 (by decide) (by decide) rfl ?_ (fun q => by exfalso; exact absurd q (by decide))
      intro hc189
      refine o_iload X_J186 at_203 rfl 205 rfl ?_
      refine o_iconst (v := (2 : Int32)) X_J186 at_205 rfl 206 rfl ?_
      refine o_icmpNe X_J186 at_206 244 209 (by decide) (by decide) rfl (fun q => by exfalso; exact absurd q (by decide)) ?_
      intro hc206
      refine o_aload X_J186 at_209 rfl rfl 211 rfl ?_
      refine o_iload X_J186 at_211 rfl 213 rfl ?_
      refine o_sipush (v := (192 : Int32)) X_J186 at_213 rfl 216 rfl ?_
      refine o_iload X_J186 at_216 rfl 218 rfl ?_
      refine o_bipush (v := (64 : Int32)) X_J186 at_218 rfl 220 rfl ?_
      refine o_idiv X_J186 at_220 (by decide) 221 rfl ?_
      refine o_iadd X_J186 at_221 222 rfl ?_
      refine o_i2b X_J186 at_222 223 rfl ?_
      refine o_bastoreB X_J186 H_J186 0 rfl at_223 2 rfl (by show 2 < 8; decide) (Int8.toInt32 (Int32.toInt8 ((192 : Int32) + (xcp / (64 : Int32))))) (o_b8 _) 224 rfl ?_
      intro T15 h15 X15 H15
      replace H15 : OL n0 h15 ((xb, OA Z .byte [y0, y1, (Int8.toInt32 (Int32.toInt8 ((192 : Int32) + (xcp / (64 : Int32))))), y3, y4, y5, y6, y7]) :: []) := H15
      refine o_aload X15 at_224 rfl rfl 226 rfl ?_
      refine o_iload X15 at_226 rfl 228 rfl ?_
      refine o_iconst (v := (1 : Int32)) X15 at_228 rfl 229 rfl ?_
      refine o_iadd X15 at_229 230 rfl ?_
      refine o_sipush (v := (128 : Int32)) X15 at_230 rfl 233 rfl ?_
      refine o_iload X15 at_233 rfl 235 rfl ?_
      refine o_bipush (v := (64 : Int32)) X15 at_235 rfl 237 rfl ?_
      refine o_irem X15 at_237 (by decide) 238 rfl ?_
      refine o_iadd X15 at_238 239 rfl ?_
      refine o_i2b X15 at_239 240 rfl ?_
      refine o_bastoreB X15 H15 0 rfl at_240 3 rfl (by show 3 < 8; decide) (Int8.toInt32 (Int32.toInt8 ((128 : Int32) + (xcp % (64 : Int32))))) (o_b8 _) 241 rfl ?_
      intro T16 h16 X16 H16
      replace H16 : OL n0 h16 ((xb, OA Z .byte [y0, y1, (Int8.toInt32 (Int32.toInt8 ((192 : Int32) + (xcp / (64 : Int32))))), (Int8.toInt32 (Int32.toInt8 ((128 : Int32) + (xcp % (64 : Int32))))), y4, y5, y6, y7]) :: []) := H16
      refine o_goto X16 at_241 379 (by decide) (by decide) ?_
      refine o_aload X16 at_379 rfl rfl 381 rfl ?_
      refine o_iload X16 at_381 rfl 383 rfl ?_
      refine o_iload X16 at_383 rfl 385 rfl ?_
      refine o_callS X16 at_385 (rest := []) (c_cp2 l Z a0 hw [] n0 _ X16.size xb (2 : Int32) [y0, y1, (Int8.toInt32 (Int32.toInt8 ((192 : Int32) + (xcp / (64 : Int32))))), (Int8.toInt32 (Int32.toInt8 ((128 : Int32) + (xcp % (64 : Int32))))), y4, y5, y6, y7] [] H16 2 rfl (by decide) (Int8.toInt32 (Int32.toInt8 ((192 : Int32) + (xcp / (64 : Int32))))) (Int8.toInt32 (Int32.toInt8 ((128 : Int32) + (xcp % (64 : Int32))))) rfl rfl) (hw _ (List.mem_of_getElem? (i := 2) rfl)) (hw _ (List.mem_of_getElem? (i := 3) rfl)) (hw _ (List.mem_of_getElem? (i := 4) rfl)) (hw _ (List.mem_of_getElem? (i := 5) rfl)) (by decide) 0 (by decide) (by decide) rfl [(.ref xb), (.int (2 : Int32)), (.int (2 : Int32))] rfl pd_1 rfl rfl (Nat.le_of_eq rfl) 1 8 rfl rfl (by decide) (by decide) 388 rfl ?_
      rintro _ T17 _ X17 ⟨rfl, rfl⟩
      rw [show (f_cp2 (Int8.toInt32 (Int32.toInt8 ((192 : Int32) + (xcp / (64 : Int32))))) (Int8.toInt32 (Int32.toInt8 ((128 : Int32) + (xcp % (64 : Int32)))))) = xcp from v_cp2 xcp hlo hhi]
      show OE p e room_1 below s n0 Q' T17 (mkF m 388 #[.val (.int xk), .val (.int xc), .val (.long xg), .second, .val (.int (2 : Int32)), .val (.int (2 : Int32)), .val (.int xu), .val (.int xcp), .val (.ref xb)] [(.int xcp)])
      refine o_iload X17 at_388 rfl 390 rfl ?_
      refine o_icmpNe X17 at_390 397 393 (by decide) (by decide) rfl (fun q => by exfalso; exact q rfl) ?_
      intro hc390
      refine o_iconst (v := (1 : Int32)) X17 at_393 rfl 394 rfl ?_
      refine o_goto X17 at_394 398 (by decide) (by decide) ?_
      exact o_retZ X17 at_398 (by decide) (by decide) (hQ _ _ rfl)
    · skip
      refine o_iload X_J186 at_186 rfl 188 rfl ?_
      refine o_iconst (v := (1 : Int32)) X_J186 at_188 rfl 189 rfl ?_
      refine o_icmpNe X_J186 at_189 203 192 (by decide) (by decide) rfl ?_ (fun q => by exfalso; exact absurd q (by decide))
      intro hc189
      refine o_iload X_J186 at_203 rfl 205 rfl ?_
      refine o_iconst (v := (2 : Int32)) X_J186 at_205 rfl 206 rfl ?_
      refine o_icmpNe X_J186 at_206 244 209 (by decide) (by decide) rfl (fun q => by exfalso; exact absurd q (by decide)) ?_
      intro hc206
      refine o_aload X_J186 at_209 rfl rfl 211 rfl ?_
      refine o_iload X_J186 at_211 rfl 213 rfl ?_
      refine o_sipush (v := (192 : Int32)) X_J186 at_213 rfl 216 rfl ?_
      refine o_iload X_J186 at_216 rfl 218 rfl ?_
      refine o_bipush (v := (64 : Int32)) X_J186 at_218 rfl 220 rfl ?_
      refine o_idiv X_J186 at_220 (by decide) 221 rfl ?_
      refine o_iadd X_J186 at_221 222 rfl ?_
      refine o_i2b X_J186 at_222 223 rfl ?_
      refine o_bastoreB X_J186 H_J186 0 rfl at_223 3 rfl (by show 3 < 8; decide) (Int8.toInt32 (Int32.toInt8 ((192 : Int32) + (xcp / (64 : Int32))))) (o_b8 _) 224 rfl ?_
      intro T18 h18 X18 H18
      replace H18 : OL n0 h18 ((xb, OA Z .byte [y0, y1, y2, (Int8.toInt32 (Int32.toInt8 ((192 : Int32) + (xcp / (64 : Int32))))), y4, y5, y6, y7]) :: []) := H18
      refine o_aload X18 at_224 rfl rfl 226 rfl ?_
      refine o_iload X18 at_226 rfl 228 rfl ?_
      refine o_iconst (v := (1 : Int32)) X18 at_228 rfl 229 rfl ?_
      refine o_iadd X18 at_229 230 rfl ?_
      refine o_sipush (v := (128 : Int32)) X18 at_230 rfl 233 rfl ?_
      refine o_iload X18 at_233 rfl 235 rfl ?_
      refine o_bipush (v := (64 : Int32)) X18 at_235 rfl 237 rfl ?_
      refine o_irem X18 at_237 (by decide) 238 rfl ?_
      refine o_iadd X18 at_238 239 rfl ?_
      refine o_i2b X18 at_239 240 rfl ?_
      refine o_bastoreB X18 H18 0 rfl at_240 4 rfl (by show 4 < 8; decide) (Int8.toInt32 (Int32.toInt8 ((128 : Int32) + (xcp % (64 : Int32))))) (o_b8 _) 241 rfl ?_
      intro T19 h19 X19 H19
      replace H19 : OL n0 h19 ((xb, OA Z .byte [y0, y1, y2, (Int8.toInt32 (Int32.toInt8 ((192 : Int32) + (xcp / (64 : Int32))))), (Int8.toInt32 (Int32.toInt8 ((128 : Int32) + (xcp % (64 : Int32))))), y5, y6, y7]) :: []) := H19
      refine o_goto X19 at_241 379 (by decide) (by decide) ?_
      refine o_aload X19 at_379 rfl rfl 381 rfl ?_
      refine o_iload X19 at_381 rfl 383 rfl ?_
      refine o_iload X19 at_383 rfl 385 rfl ?_
      refine o_callS X19 at_385 (rest := []) (c_cp2 l Z a0 hw [] n0 _ X19.size xb (3 : Int32) [y0, y1, y2, (Int8.toInt32 (Int32.toInt8 ((192 : Int32) + (xcp / (64 : Int32))))), (Int8.toInt32 (Int32.toInt8 ((128 : Int32) + (xcp % (64 : Int32))))), y5, y6, y7] [] H19 3 rfl (by decide) (Int8.toInt32 (Int32.toInt8 ((192 : Int32) + (xcp / (64 : Int32))))) (Int8.toInt32 (Int32.toInt8 ((128 : Int32) + (xcp % (64 : Int32))))) rfl rfl) (hw _ (List.mem_of_getElem? (i := 2) rfl)) (hw _ (List.mem_of_getElem? (i := 3) rfl)) (hw _ (List.mem_of_getElem? (i := 4) rfl)) (hw _ (List.mem_of_getElem? (i := 5) rfl)) (by decide) 0 (by decide) (by decide) rfl [(.ref xb), (.int (3 : Int32)), (.int (2 : Int32))] rfl pd_1 rfl rfl (Nat.le_of_eq rfl) 1 8 rfl rfl (by decide) (by decide) 388 rfl ?_
      rintro _ T20 _ X20 ⟨rfl, rfl⟩
      rw [show (f_cp2 (Int8.toInt32 (Int32.toInt8 ((192 : Int32) + (xcp / (64 : Int32))))) (Int8.toInt32 (Int32.toInt8 ((128 : Int32) + (xcp % (64 : Int32)))))) = xcp from v_cp2 xcp hlo hhi]
      show OE p e room_1 below s n0 Q' T20 (mkF m 388 #[.val (.int xk), .val (.int xc), .val (.long xg), .second, .val (.int (2 : Int32)), .val (.int (3 : Int32)), .val (.int xu), .val (.int xcp), .val (.ref xb)] [(.int xcp)])
      refine o_iload X20 at_388 rfl 390 rfl ?_
      refine o_icmpNe X20 at_390 397 393 (by decide) (by decide) rfl (fun q => by exfalso; exact q rfl) ?_
      intro hc390
      refine o_iconst (v := (1 : Int32)) X20 at_393 rfl 394 rfl ?_
      refine o_goto X20 at_394 398 (by decide) (by decide) ?_
      exact o_retZ X20 at_398 (by decide) (by decide) (hQ _ _ rfl)
    · skip
      refine o_iload X_J186 at_186 rfl 188 rfl ?_
      refine o_iconst (v := (1 : Int32)) X_J186 at_188 rfl 189 rfl ?_
      refine o_icmpNe X_J186 at_189 203 192 (by decide) (by decide) rfl ?_ (fun q => by exfalso; exact absurd q (by decide))
      intro hc189
      refine o_iload X_J186 at_203 rfl 205 rfl ?_
      refine o_iconst (v := (2 : Int32)) X_J186 at_205 rfl 206 rfl ?_
      refine o_icmpNe X_J186 at_206 244 209 (by decide) (by decide) rfl ?_ (fun q => by exfalso; exact absurd q (by decide))
      intro hc206
      refine o_iload X_J186 at_244 rfl 246 rfl ?_
      refine o_iconst (v := (3 : Int32)) X_J186 at_246 rfl 247 rfl ?_
      refine o_icmpNe X_J186 at_247 306 250 (by decide) (by decide) rfl (fun q => by exfalso; exact absurd q (by decide)) ?_
      intro hc247
      refine o_aload X_J186 at_250 rfl rfl 252 rfl ?_
      refine o_iload X_J186 at_252 rfl 254 rfl ?_
      refine o_sipush (v := (224 : Int32)) X_J186 at_254 rfl 257 rfl ?_
      refine o_iload X_J186 at_257 rfl 259 rfl ?_
      refine o_sipush (v := (4096 : Int32)) X_J186 at_259 rfl 262 rfl ?_
      refine o_idiv X_J186 at_262 (by decide) 263 rfl ?_
      refine o_iadd X_J186 at_263 264 rfl ?_
      refine o_i2b X_J186 at_264 265 rfl ?_
      refine o_bastoreB X_J186 H_J186 0 rfl at_265 0 rfl (by show 0 < 8; decide) (Int8.toInt32 (Int32.toInt8 ((224 : Int32) + (xcp / (4096 : Int32))))) (o_b8 _) 266 rfl ?_
      intro T21 h21 X21 H21
      replace H21 : OL n0 h21 ((xb, OA Z .byte [(Int8.toInt32 (Int32.toInt8 ((224 : Int32) + (xcp / (4096 : Int32))))), y1, y2, y3, y4, y5, y6, y7]) :: []) := H21
      refine o_aload X21 at_266 rfl rfl 268 rfl ?_
      refine o_iload X21 at_268 rfl 270 rfl ?_
      refine o_iconst (v := (1 : Int32)) X21 at_270 rfl 271 rfl ?_
      refine o_iadd X21 at_271 272 rfl ?_
      refine o_sipush (v := (128 : Int32)) X21 at_272 rfl 275 rfl ?_
      refine o_iload X21 at_275 rfl 277 rfl ?_
      refine o_bipush (v := (64 : Int32)) X21 at_277 rfl 279 rfl ?_
      refine o_idiv X21 at_279 (by decide) 280 rfl ?_
      refine o_bipush (v := (64 : Int32)) X21 at_280 rfl 282 rfl ?_
      refine o_irem X21 at_282 (by decide) 283 rfl ?_
      refine o_iadd X21 at_283 284 rfl ?_
      refine o_i2b X21 at_284 285 rfl ?_
      refine o_bastoreB X21 H21 0 rfl at_285 1 rfl (by show 1 < 8; decide) (Int8.toInt32 (Int32.toInt8 ((128 : Int32) + ((xcp / (64 : Int32)) % (64 : Int32))))) (o_b8 _) 286 rfl ?_
      intro T22 h22 X22 H22
      replace H22 : OL n0 h22 ((xb, OA Z .byte [(Int8.toInt32 (Int32.toInt8 ((224 : Int32) + (xcp / (4096 : Int32))))), (Int8.toInt32 (Int32.toInt8 ((128 : Int32) + ((xcp / (64 : Int32)) % (64 : Int32))))), y2, y3, y4, y5, y6, y7]) :: []) := H22
      refine o_aload X22 at_286 rfl rfl 288 rfl ?_
      refine o_iload X22 at_288 rfl 290 rfl ?_
      refine o_iconst (v := (2 : Int32)) X22 at_290 rfl 291 rfl ?_
      refine o_iadd X22 at_291 292 rfl ?_
      refine o_sipush (v := (128 : Int32)) X22 at_292 rfl 295 rfl ?_
      refine o_iload X22 at_295 rfl 297 rfl ?_
      refine o_bipush (v := (64 : Int32)) X22 at_297 rfl 299 rfl ?_
      refine o_irem X22 at_299 (by decide) 300 rfl ?_
      refine o_iadd X22 at_300 301 rfl ?_
      refine o_i2b X22 at_301 302 rfl ?_
      refine o_bastoreB X22 H22 0 rfl at_302 2 rfl (by show 2 < 8; decide) (Int8.toInt32 (Int32.toInt8 ((128 : Int32) + (xcp % (64 : Int32))))) (o_b8 _) 303 rfl ?_
      intro T23 h23 X23 H23
      replace H23 : OL n0 h23 ((xb, OA Z .byte [(Int8.toInt32 (Int32.toInt8 ((224 : Int32) + (xcp / (4096 : Int32))))), (Int8.toInt32 (Int32.toInt8 ((128 : Int32) + ((xcp / (64 : Int32)) % (64 : Int32))))), (Int8.toInt32 (Int32.toInt8 ((128 : Int32) + (xcp % (64 : Int32))))), y3, y4, y5, y6, y7]) :: []) := H23
      refine o_goto X23 at_303 379 (by decide) (by decide) ?_
      refine o_aload X23 at_379 rfl rfl 381 rfl ?_
      refine o_iload X23 at_381 rfl 383 rfl ?_
      refine o_iload X23 at_383 rfl 385 rfl ?_
      refine o_callS X23 at_385 (rest := []) (c_cp3 l Z a0 hw [] n0 _ X23.size xb (0 : Int32) [(Int8.toInt32 (Int32.toInt8 ((224 : Int32) + (xcp / (4096 : Int32))))), (Int8.toInt32 (Int32.toInt8 ((128 : Int32) + ((xcp / (64 : Int32)) % (64 : Int32))))), (Int8.toInt32 (Int32.toInt8 ((128 : Int32) + (xcp % (64 : Int32))))), y3, y4, y5, y6, y7] [] H23 0 rfl (by decide) (Int8.toInt32 (Int32.toInt8 ((224 : Int32) + (xcp / (4096 : Int32))))) (Int8.toInt32 (Int32.toInt8 ((128 : Int32) + ((xcp / (64 : Int32)) % (64 : Int32))))) (Int8.toInt32 (Int32.toInt8 ((128 : Int32) + (xcp % (64 : Int32))))) rfl rfl rfl) (hw _ (List.mem_of_getElem? (i := 2) rfl)) (hw _ (List.mem_of_getElem? (i := 3) rfl)) (hw _ (List.mem_of_getElem? (i := 4) rfl)) (hw _ (List.mem_of_getElem? (i := 5) rfl)) (by decide) 0 (by decide) (by decide) rfl [(.ref xb), (.int (0 : Int32)), (.int (3 : Int32))] rfl pd_1 rfl rfl (Nat.le_of_eq rfl) 1 8 rfl rfl (by decide) (by decide) 388 rfl ?_
      rintro _ T24 _ X24 ⟨rfl, rfl⟩
      rw [show (f_cp3 (Int8.toInt32 (Int32.toInt8 ((224 : Int32) + (xcp / (4096 : Int32))))) (Int8.toInt32 (Int32.toInt8 ((128 : Int32) + ((xcp / (64 : Int32)) % (64 : Int32))))) (Int8.toInt32 (Int32.toInt8 ((128 : Int32) + (xcp % (64 : Int32)))))) = xcp from v_cp3 xcp hlo hhi]
      show OE p e room_1 below s n0 Q' T24 (mkF m 388 #[.val (.int xk), .val (.int xc), .val (.long xg), .second, .val (.int (3 : Int32)), .val (.int (0 : Int32)), .val (.int xu), .val (.int xcp), .val (.ref xb)] [(.int xcp)])
      refine o_iload X24 at_388 rfl 390 rfl ?_
      refine o_icmpNe X24 at_390 397 393 (by decide) (by decide) rfl (fun q => by exfalso; exact q rfl) ?_
      intro hc390
      refine o_iconst (v := (1 : Int32)) X24 at_393 rfl 394 rfl ?_
      refine o_goto X24 at_394 398 (by decide) (by decide) ?_
      exact o_retZ X24 at_398 (by decide) (by decide) (hQ _ _ rfl)
    · skip
      refine o_iload X_J186 at_186 rfl 188 rfl ?_
      refine o_iconst (v := (1 : Int32)) X_J186 at_188 rfl 189 rfl ?_
      refine o_icmpNe X_J186 at_189 203 192 (by decide) (by decide) rfl ?_ (fun q => by exfalso; exact absurd q (by decide))
      intro hc189
      refine o_iload X_J186 at_203 rfl 205 rfl ?_
      refine o_iconst (v := (2 : Int32)) X_J186 at_205 rfl 206 rfl ?_
      refine o_icmpNe X_J186 at_206 244 209 (by decide) (by decide) rfl ?_ (fun q => by exfalso; exact absurd q (by decide))
      intro hc206
      refine o_iload X_J186 at_244 rfl 246 rfl ?_
      refine o_iconst (v := (3 : Int32)) X_J186 at_246 rfl 247 rfl ?_
      refine o_icmpNe X_J186 at_247 306 250 (by decide) (by decide) rfl (fun q => by exfalso; exact absurd q (by decide)) ?_
      intro hc247
      refine o_aload X_J186 at_250 rfl rfl 252 rfl ?_
      refine o_iload X_J186 at_252 rfl 254 rfl ?_
      refine o_sipush (v := (224 : Int32)) X_J186 at_254 rfl 257 rfl ?_
      refine o_iload X_J186 at_257 rfl 259 rfl ?_
      refine o_sipush (v := (4096 : Int32)) X_J186 at_259 rfl 262 rfl ?_
      refine o_idiv X_J186 at_262 (by decide) 263 rfl ?_
      refine o_iadd X_J186 at_263 264 rfl ?_
      refine o_i2b X_J186 at_264 265 rfl ?_
      refine o_bastoreB X_J186 H_J186 0 rfl at_265 1 rfl (by show 1 < 8; decide) (Int8.toInt32 (Int32.toInt8 ((224 : Int32) + (xcp / (4096 : Int32))))) (o_b8 _) 266 rfl ?_
      intro T25 h25 X25 H25
      replace H25 : OL n0 h25 ((xb, OA Z .byte [y0, (Int8.toInt32 (Int32.toInt8 ((224 : Int32) + (xcp / (4096 : Int32))))), y2, y3, y4, y5, y6, y7]) :: []) := H25
      refine o_aload X25 at_266 rfl rfl 268 rfl ?_
      refine o_iload X25 at_268 rfl 270 rfl ?_
      refine o_iconst (v := (1 : Int32)) X25 at_270 rfl 271 rfl ?_
      refine o_iadd X25 at_271 272 rfl ?_
      refine o_sipush (v := (128 : Int32)) X25 at_272 rfl 275 rfl ?_
      refine o_iload X25 at_275 rfl 277 rfl ?_
      refine o_bipush (v := (64 : Int32)) X25 at_277 rfl 279 rfl ?_
      refine o_idiv X25 at_279 (by decide) 280 rfl ?_
      refine o_bipush (v := (64 : Int32)) X25 at_280 rfl 282 rfl ?_
      refine o_irem X25 at_282 (by decide) 283 rfl ?_
      refine o_iadd X25 at_283 284 rfl ?_
      refine o_i2b X25 at_284 285 rfl ?_
      refine o_bastoreB X25 H25 0 rfl at_285 2 rfl (by show 2 < 8; decide) (Int8.toInt32 (Int32.toInt8 ((128 : Int32) + ((xcp / (64 : Int32)) % (64 : Int32))))) (o_b8 _) 286 rfl ?_
      intro T26 h26 X26 H26
      replace H26 : OL n0 h26 ((xb, OA Z .byte [y0, (Int8.toInt32 (Int32.toInt8 ((224 : Int32) + (xcp / (4096 : Int32))))), (Int8.toInt32 (Int32.toInt8 ((128 : Int32) + ((xcp / (64 : Int32)) % (64 : Int32))))), y3, y4, y5, y6, y7]) :: []) := H26
      refine o_aload X26 at_286 rfl rfl 288 rfl ?_
      refine o_iload X26 at_288 rfl 290 rfl ?_
      refine o_iconst (v := (2 : Int32)) X26 at_290 rfl 291 rfl ?_
      refine o_iadd X26 at_291 292 rfl ?_
      refine o_sipush (v := (128 : Int32)) X26 at_292 rfl 295 rfl ?_
      refine o_iload X26 at_295 rfl 297 rfl ?_
      refine o_bipush (v := (64 : Int32)) X26 at_297 rfl 299 rfl ?_
      refine o_irem X26 at_299 (by decide) 300 rfl ?_
      refine o_iadd X26 at_300 301 rfl ?_
      refine o_i2b X26 at_301 302 rfl ?_
      refine o_bastoreB X26 H26 0 rfl at_302 3 rfl (by show 3 < 8; decide) (Int8.toInt32 (Int32.toInt8 ((128 : Int32) + (xcp % (64 : Int32))))) (o_b8 _) 303 rfl ?_
      intro T27 h27 X27 H27
      replace H27 : OL n0 h27 ((xb, OA Z .byte [y0, (Int8.toInt32 (Int32.toInt8 ((224 : Int32) + (xcp / (4096 : Int32))))), (Int8.toInt32 (Int32.toInt8 ((128 : Int32) + ((xcp / (64 : Int32)) % (64 : Int32))))), (Int8.toInt32 (Int32.toInt8 ((128 : Int32) + (xcp % (64 : Int32))))), y4, y5, y6, y7]) :: []) := H27
      refine o_goto X27 at_303 379 (by decide) (by decide) ?_
      refine o_aload X27 at_379 rfl rfl 381 rfl ?_
      refine o_iload X27 at_381 rfl 383 rfl ?_
      refine o_iload X27 at_383 rfl 385 rfl ?_
      refine o_callS X27 at_385 (rest := []) (c_cp3 l Z a0 hw [] n0 _ X27.size xb (1 : Int32) [y0, (Int8.toInt32 (Int32.toInt8 ((224 : Int32) + (xcp / (4096 : Int32))))), (Int8.toInt32 (Int32.toInt8 ((128 : Int32) + ((xcp / (64 : Int32)) % (64 : Int32))))), (Int8.toInt32 (Int32.toInt8 ((128 : Int32) + (xcp % (64 : Int32))))), y4, y5, y6, y7] [] H27 1 rfl (by decide) (Int8.toInt32 (Int32.toInt8 ((224 : Int32) + (xcp / (4096 : Int32))))) (Int8.toInt32 (Int32.toInt8 ((128 : Int32) + ((xcp / (64 : Int32)) % (64 : Int32))))) (Int8.toInt32 (Int32.toInt8 ((128 : Int32) + (xcp % (64 : Int32))))) rfl rfl rfl) (hw _ (List.mem_of_getElem? (i := 2) rfl)) (hw _ (List.mem_of_getElem? (i := 3) rfl)) (hw _ (List.mem_of_getElem? (i := 4) rfl)) (hw _ (List.mem_of_getElem? (i := 5) rfl)) (by decide) 0 (by decide) (by decide) rfl [(.ref xb), (.int (1 : Int32)), (.int (3 : Int32))] rfl pd_1 rfl rfl (Nat.le_of_eq rfl) 1 8 rfl rfl (by decide) (by decide) 388 rfl ?_
      rintro _ T28 _ X28 ⟨rfl, rfl⟩
      rw [show (f_cp3 (Int8.toInt32 (Int32.toInt8 ((224 : Int32) + (xcp / (4096 : Int32))))) (Int8.toInt32 (Int32.toInt8 ((128 : Int32) + ((xcp / (64 : Int32)) % (64 : Int32))))) (Int8.toInt32 (Int32.toInt8 ((128 : Int32) + (xcp % (64 : Int32)))))) = xcp from v_cp3 xcp hlo hhi]
      show OE p e room_1 below s n0 Q' T28 (mkF m 388 #[.val (.int xk), .val (.int xc), .val (.long xg), .second, .val (.int (3 : Int32)), .val (.int (1 : Int32)), .val (.int xu), .val (.int xcp), .val (.ref xb)] [(.int xcp)])
      refine o_iload X28 at_388 rfl 390 rfl ?_
      refine o_icmpNe X28 at_390 397 393 (by decide) (by decide) rfl (fun q => by exfalso; exact q rfl) ?_
      intro hc390
      refine o_iconst (v := (1 : Int32)) X28 at_393 rfl 394 rfl ?_
      refine o_goto X28 at_394 398 (by decide) (by decide) ?_
      exact o_retZ X28 at_398 (by decide) (by decide) (hQ _ _ rfl)
    · skip
      refine o_iload X_J186 at_186 rfl 188 rfl ?_
      refine o_iconst (v := (1 : Int32)) X_J186 at_188 rfl 189 rfl ?_
      refine o_icmpNe X_J186 at_189 203 192 (by decide) (by decide) rfl ?_ (fun q => by exfalso; exact absurd q (by decide))
      intro hc189
      refine o_iload X_J186 at_203 rfl 205 rfl ?_
      refine o_iconst (v := (2 : Int32)) X_J186 at_205 rfl 206 rfl ?_
      refine o_icmpNe X_J186 at_206 244 209 (by decide) (by decide) rfl ?_ (fun q => by exfalso; exact absurd q (by decide))
      intro hc206
      refine o_iload X_J186 at_244 rfl 246 rfl ?_
      refine o_iconst (v := (3 : Int32)) X_J186 at_246 rfl 247 rfl ?_
      refine o_icmpNe X_J186 at_247 306 250 (by decide) (by decide) rfl (fun q => by exfalso; exact absurd q (by decide)) ?_
      intro hc247
      refine o_aload X_J186 at_250 rfl rfl 252 rfl ?_
      refine o_iload X_J186 at_252 rfl 254 rfl ?_
      refine o_sipush (v := (224 : Int32)) X_J186 at_254 rfl 257 rfl ?_
      refine o_iload X_J186 at_257 rfl 259 rfl ?_
      refine o_sipush (v := (4096 : Int32)) X_J186 at_259 rfl 262 rfl ?_
      refine o_idiv X_J186 at_262 (by decide) 263 rfl ?_
      refine o_iadd X_J186 at_263 264 rfl ?_
      refine o_i2b X_J186 at_264 265 rfl ?_
      refine o_bastoreB X_J186 H_J186 0 rfl at_265 2 rfl (by show 2 < 8; decide) (Int8.toInt32 (Int32.toInt8 ((224 : Int32) + (xcp / (4096 : Int32))))) (o_b8 _) 266 rfl ?_
      intro T29 h29 X29 H29
      replace H29 : OL n0 h29 ((xb, OA Z .byte [y0, y1, (Int8.toInt32 (Int32.toInt8 ((224 : Int32) + (xcp / (4096 : Int32))))), y3, y4, y5, y6, y7]) :: []) := H29
      refine o_aload X29 at_266 rfl rfl 268 rfl ?_
      refine o_iload X29 at_268 rfl 270 rfl ?_
      refine o_iconst (v := (1 : Int32)) X29 at_270 rfl 271 rfl ?_
      refine o_iadd X29 at_271 272 rfl ?_
      refine o_sipush (v := (128 : Int32)) X29 at_272 rfl 275 rfl ?_
      refine o_iload X29 at_275 rfl 277 rfl ?_
      refine o_bipush (v := (64 : Int32)) X29 at_277 rfl 279 rfl ?_
      refine o_idiv X29 at_279 (by decide) 280 rfl ?_
      refine o_bipush (v := (64 : Int32)) X29 at_280 rfl 282 rfl ?_
      refine o_irem X29 at_282 (by decide) 283 rfl ?_
      refine o_iadd X29 at_283 284 rfl ?_
      refine o_i2b X29 at_284 285 rfl ?_
      refine o_bastoreB X29 H29 0 rfl at_285 3 rfl (by show 3 < 8; decide) (Int8.toInt32 (Int32.toInt8 ((128 : Int32) + ((xcp / (64 : Int32)) % (64 : Int32))))) (o_b8 _) 286 rfl ?_
      intro T30 h30 X30 H30
      replace H30 : OL n0 h30 ((xb, OA Z .byte [y0, y1, (Int8.toInt32 (Int32.toInt8 ((224 : Int32) + (xcp / (4096 : Int32))))), (Int8.toInt32 (Int32.toInt8 ((128 : Int32) + ((xcp / (64 : Int32)) % (64 : Int32))))), y4, y5, y6, y7]) :: []) := H30
      refine o_aload X30 at_286 rfl rfl 288 rfl ?_
      refine o_iload X30 at_288 rfl 290 rfl ?_
      refine o_iconst (v := (2 : Int32)) X30 at_290 rfl 291 rfl ?_
      refine o_iadd X30 at_291 292 rfl ?_
      refine o_sipush (v := (128 : Int32)) X30 at_292 rfl 295 rfl ?_
      refine o_iload X30 at_295 rfl 297 rfl ?_
      refine o_bipush (v := (64 : Int32)) X30 at_297 rfl 299 rfl ?_
      refine o_irem X30 at_299 (by decide) 300 rfl ?_
      refine o_iadd X30 at_300 301 rfl ?_
      refine o_i2b X30 at_301 302 rfl ?_
      refine o_bastoreB X30 H30 0 rfl at_302 4 rfl (by show 4 < 8; decide) (Int8.toInt32 (Int32.toInt8 ((128 : Int32) + (xcp % (64 : Int32))))) (o_b8 _) 303 rfl ?_
      intro T31 h31 X31 H31
      replace H31 : OL n0 h31 ((xb, OA Z .byte [y0, y1, (Int8.toInt32 (Int32.toInt8 ((224 : Int32) + (xcp / (4096 : Int32))))), (Int8.toInt32 (Int32.toInt8 ((128 : Int32) + ((xcp / (64 : Int32)) % (64 : Int32))))), (Int8.toInt32 (Int32.toInt8 ((128 : Int32) + (xcp % (64 : Int32))))), y5, y6, y7]) :: []) := H31
      refine o_goto X31 at_303 379 (by decide) (by decide) ?_
      refine o_aload X31 at_379 rfl rfl 381 rfl ?_
      refine o_iload X31 at_381 rfl 383 rfl ?_
      refine o_iload X31 at_383 rfl 385 rfl ?_
      refine o_callS X31 at_385 (rest := []) (c_cp3 l Z a0 hw [] n0 _ X31.size xb (2 : Int32) [y0, y1, (Int8.toInt32 (Int32.toInt8 ((224 : Int32) + (xcp / (4096 : Int32))))), (Int8.toInt32 (Int32.toInt8 ((128 : Int32) + ((xcp / (64 : Int32)) % (64 : Int32))))), (Int8.toInt32 (Int32.toInt8 ((128 : Int32) + (xcp % (64 : Int32))))), y5, y6, y7] [] H31 2 rfl (by decide) (Int8.toInt32 (Int32.toInt8 ((224 : Int32) + (xcp / (4096 : Int32))))) (Int8.toInt32 (Int32.toInt8 ((128 : Int32) + ((xcp / (64 : Int32)) % (64 : Int32))))) (Int8.toInt32 (Int32.toInt8 ((128 : Int32) + (xcp % (64 : Int32))))) rfl rfl rfl) (hw _ (List.mem_of_getElem? (i := 2) rfl)) (hw _ (List.mem_of_getElem? (i := 3) rfl)) (hw _ (List.mem_of_getElem? (i := 4) rfl)) (hw _ (List.mem_of_getElem? (i := 5) rfl)) (by decide) 0 (by decide) (by decide) rfl [(.ref xb), (.int (2 : Int32)), (.int (3 : Int32))] rfl pd_1 rfl rfl (Nat.le_of_eq rfl) 1 8 rfl rfl (by decide) (by decide) 388 rfl ?_
      rintro _ T32 _ X32 ⟨rfl, rfl⟩
      rw [show (f_cp3 (Int8.toInt32 (Int32.toInt8 ((224 : Int32) + (xcp / (4096 : Int32))))) (Int8.toInt32 (Int32.toInt8 ((128 : Int32) + ((xcp / (64 : Int32)) % (64 : Int32))))) (Int8.toInt32 (Int32.toInt8 ((128 : Int32) + (xcp % (64 : Int32)))))) = xcp from v_cp3 xcp hlo hhi]
      show OE p e room_1 below s n0 Q' T32 (mkF m 388 #[.val (.int xk), .val (.int xc), .val (.long xg), .second, .val (.int (3 : Int32)), .val (.int (2 : Int32)), .val (.int xu), .val (.int xcp), .val (.ref xb)] [(.int xcp)])
      refine o_iload X32 at_388 rfl 390 rfl ?_
      refine o_icmpNe X32 at_390 397 393 (by decide) (by decide) rfl (fun q => by exfalso; exact q rfl) ?_
      intro hc390
      refine o_iconst (v := (1 : Int32)) X32 at_393 rfl 394 rfl ?_
      refine o_goto X32 at_394 398 (by decide) (by decide) ?_
      exact o_retZ X32 at_398 (by decide) (by decide) (hQ _ _ rfl)
    · skip
      refine o_iload X_J186 at_186 rfl 188 rfl ?_
      refine o_iconst (v := (1 : Int32)) X_J186 at_188 rfl 189 rfl ?_
      refine o_icmpNe X_J186 at_189 203 192 (by decide) (by decide) rfl ?_ (fun q => by exfalso; exact absurd q (by decide))
      intro hc189
      refine o_iload X_J186 at_203 rfl 205 rfl ?_
      refine o_iconst (v := (2 : Int32)) X_J186 at_205 rfl 206 rfl ?_
      refine o_icmpNe X_J186 at_206 244 209 (by decide) (by decide) rfl ?_ (fun q => by exfalso; exact absurd q (by decide))
      intro hc206
      refine o_iload X_J186 at_244 rfl 246 rfl ?_
      refine o_iconst (v := (3 : Int32)) X_J186 at_246 rfl 247 rfl ?_
      refine o_icmpNe X_J186 at_247 306 250 (by decide) (by decide) rfl (fun q => by exfalso; exact absurd q (by decide)) ?_
      intro hc247
      refine o_aload X_J186 at_250 rfl rfl 252 rfl ?_
      refine o_iload X_J186 at_252 rfl 254 rfl ?_
      refine o_sipush (v := (224 : Int32)) X_J186 at_254 rfl 257 rfl ?_
      refine o_iload X_J186 at_257 rfl 259 rfl ?_
      refine o_sipush (v := (4096 : Int32)) X_J186 at_259 rfl 262 rfl ?_
      refine o_idiv X_J186 at_262 (by decide) 263 rfl ?_
      refine o_iadd X_J186 at_263 264 rfl ?_
      refine o_i2b X_J186 at_264 265 rfl ?_
      refine o_bastoreB X_J186 H_J186 0 rfl at_265 3 rfl (by show 3 < 8; decide) (Int8.toInt32 (Int32.toInt8 ((224 : Int32) + (xcp / (4096 : Int32))))) (o_b8 _) 266 rfl ?_
      intro T33 h33 X33 H33
      replace H33 : OL n0 h33 ((xb, OA Z .byte [y0, y1, y2, (Int8.toInt32 (Int32.toInt8 ((224 : Int32) + (xcp / (4096 : Int32))))), y4, y5, y6, y7]) :: []) := H33
      refine o_aload X33 at_266 rfl rfl 268 rfl ?_
      refine o_iload X33 at_268 rfl 270 rfl ?_
      refine o_iconst (v := (1 : Int32)) X33 at_270 rfl 271 rfl ?_
      refine o_iadd X33 at_271 272 rfl ?_
      refine o_sipush (v := (128 : Int32)) X33 at_272 rfl 275 rfl ?_
      refine o_iload X33 at_275 rfl 277 rfl ?_
      refine o_bipush (v := (64 : Int32)) X33 at_277 rfl 279 rfl ?_
      refine o_idiv X33 at_279 (by decide) 280 rfl ?_
      refine o_bipush (v := (64 : Int32)) X33 at_280 rfl 282 rfl ?_
      refine o_irem X33 at_282 (by decide) 283 rfl ?_
      refine o_iadd X33 at_283 284 rfl ?_
      refine o_i2b X33 at_284 285 rfl ?_
      refine o_bastoreB X33 H33 0 rfl at_285 4 rfl (by show 4 < 8; decide) (Int8.toInt32 (Int32.toInt8 ((128 : Int32) + ((xcp / (64 : Int32)) % (64 : Int32))))) (o_b8 _) 286 rfl ?_
      intro T34 h34 X34 H34
      replace H34 : OL n0 h34 ((xb, OA Z .byte [y0, y1, y2, (Int8.toInt32 (Int32.toInt8 ((224 : Int32) + (xcp / (4096 : Int32))))), (Int8.toInt32 (Int32.toInt8 ((128 : Int32) + ((xcp / (64 : Int32)) % (64 : Int32))))), y5, y6, y7]) :: []) := H34
      refine o_aload X34 at_286 rfl rfl 288 rfl ?_
      refine o_iload X34 at_288 rfl 290 rfl ?_
      refine o_iconst (v := (2 : Int32)) X34 at_290 rfl 291 rfl ?_
      refine o_iadd X34 at_291 292 rfl ?_
      refine o_sipush (v := (128 : Int32)) X34 at_292 rfl 295 rfl ?_
      refine o_iload X34 at_295 rfl 297 rfl ?_
      refine o_bipush (v := (64 : Int32)) X34 at_297 rfl 299 rfl ?_
      refine o_irem X34 at_299 (by decide) 300 rfl ?_
      refine o_iadd X34 at_300 301 rfl ?_
      refine o_i2b X34 at_301 302 rfl ?_
      refine o_bastoreB X34 H34 0 rfl at_302 5 rfl (by show 5 < 8; decide) (Int8.toInt32 (Int32.toInt8 ((128 : Int32) + (xcp % (64 : Int32))))) (o_b8 _) 303 rfl ?_
      intro T35 h35 X35 H35
      replace H35 : OL n0 h35 ((xb, OA Z .byte [y0, y1, y2, (Int8.toInt32 (Int32.toInt8 ((224 : Int32) + (xcp / (4096 : Int32))))), (Int8.toInt32 (Int32.toInt8 ((128 : Int32) + ((xcp / (64 : Int32)) % (64 : Int32))))), (Int8.toInt32 (Int32.toInt8 ((128 : Int32) + (xcp % (64 : Int32))))), y6, y7]) :: []) := H35
      refine o_goto X35 at_303 379 (by decide) (by decide) ?_
      refine o_aload X35 at_379 rfl rfl 381 rfl ?_
      refine o_iload X35 at_381 rfl 383 rfl ?_
      refine o_iload X35 at_383 rfl 385 rfl ?_
      refine o_callS X35 at_385 (rest := []) (c_cp3 l Z a0 hw [] n0 _ X35.size xb (3 : Int32) [y0, y1, y2, (Int8.toInt32 (Int32.toInt8 ((224 : Int32) + (xcp / (4096 : Int32))))), (Int8.toInt32 (Int32.toInt8 ((128 : Int32) + ((xcp / (64 : Int32)) % (64 : Int32))))), (Int8.toInt32 (Int32.toInt8 ((128 : Int32) + (xcp % (64 : Int32))))), y6, y7] [] H35 3 rfl (by decide) (Int8.toInt32 (Int32.toInt8 ((224 : Int32) + (xcp / (4096 : Int32))))) (Int8.toInt32 (Int32.toInt8 ((128 : Int32) + ((xcp / (64 : Int32)) % (64 : Int32))))) (Int8.toInt32 (Int32.toInt8 ((128 : Int32) + (xcp % (64 : Int32))))) rfl rfl rfl) (hw _ (List.mem_of_getElem? (i := 2) rfl)) (hw _ (List.mem_of_getElem? (i := 3) rfl)) (hw _ (List.mem_of_getElem? (i := 4) rfl)) (hw _ (List.mem_of_getElem? (i := 5) rfl)) (by decide) 0 (by decide) (by decide) rfl [(.ref xb), (.int (3 : Int32)), (.int (3 : Int32))] rfl pd_1 rfl rfl (Nat.le_of_eq rfl) 1 8 rfl rfl (by decide) (by decide) 388 rfl ?_
      rintro _ T36 _ X36 ⟨rfl, rfl⟩
      rw [show (f_cp3 (Int8.toInt32 (Int32.toInt8 ((224 : Int32) + (xcp / (4096 : Int32))))) (Int8.toInt32 (Int32.toInt8 ((128 : Int32) + ((xcp / (64 : Int32)) % (64 : Int32))))) (Int8.toInt32 (Int32.toInt8 ((128 : Int32) + (xcp % (64 : Int32)))))) = xcp from v_cp3 xcp hlo hhi]
      show OE p e room_1 below s n0 Q' T36 (mkF m 388 #[.val (.int xk), .val (.int xc), .val (.long xg), .second, .val (.int (3 : Int32)), .val (.int (3 : Int32)), .val (.int xu), .val (.int xcp), .val (.ref xb)] [(.int xcp)])
      refine o_iload X36 at_388 rfl 390 rfl ?_
      refine o_icmpNe X36 at_390 397 393 (by decide) (by decide) rfl (fun q => by exfalso; exact q rfl) ?_
      intro hc390
      refine o_iconst (v := (1 : Int32)) X36 at_393 rfl 394 rfl ?_
      refine o_goto X36 at_394 398 (by decide) (by decide) ?_
      exact o_retZ X36 at_398 (by decide) (by decide) (hQ _ _ rfl)
    · skip
      refine o_iload X_J186 at_186 rfl 188 rfl ?_
      refine o_iconst (v := (1 : Int32)) X_J186 at_188 rfl 189 rfl ?_
      refine o_icmpNe X_J186 at_189 203 192 (by decide) (by decide) rfl ?_ (fun q => by exfalso; exact absurd q (by decide))
      intro hc189
      refine o_iload X_J186 at_203 rfl 205 rfl ?_
      refine o_iconst (v := (2 : Int32)) X_J186 at_205 rfl 206 rfl ?_
      refine o_icmpNe X_J186 at_206 244 209 (by decide) (by decide) rfl ?_ (fun q => by exfalso; exact absurd q (by decide))
      intro hc206
      refine o_iload X_J186 at_244 rfl 246 rfl ?_
      refine o_iconst (v := (3 : Int32)) X_J186 at_246 rfl 247 rfl ?_
      refine o_icmpNe X_J186 at_247 306 250 (by decide) (by decide) rfl ?_ (fun q => by exfalso; exact absurd q (by decide))
      intro hc247
      refine o_aload X_J186 at_306 rfl rfl 308 rfl ?_
      refine o_iload X_J186 at_308 rfl 310 rfl ?_
      refine o_sipush (v := (240 : Int32)) X_J186 at_310 rfl 313 rfl ?_
      refine o_iload X_J186 at_313 rfl 315 rfl ?_
      refine o_ldc (v := (262144 : Int32)) X_J186 at_315 (hw _ (List.mem_of_getElem? (i := 8) rfl)) 317 rfl ?_
      refine o_idiv X_J186 at_317 (by decide) 318 rfl ?_
      refine o_iadd X_J186 at_318 319 rfl ?_
      refine o_i2b X_J186 at_319 320 rfl ?_
      refine o_bastoreB X_J186 H_J186 0 rfl at_320 0 rfl (by show 0 < 8; decide) (Int8.toInt32 (Int32.toInt8 ((240 : Int32) + (xcp / (262144 : Int32))))) (o_b8 _) 321 rfl ?_
      intro T37 h37 X37 H37
      replace H37 : OL n0 h37 ((xb, OA Z .byte [(Int8.toInt32 (Int32.toInt8 ((240 : Int32) + (xcp / (262144 : Int32))))), y1, y2, y3, y4, y5, y6, y7]) :: []) := H37
      refine o_aload X37 at_321 rfl rfl 323 rfl ?_
      refine o_iload X37 at_323 rfl 325 rfl ?_
      refine o_iconst (v := (1 : Int32)) X37 at_325 rfl 326 rfl ?_
      refine o_iadd X37 at_326 327 rfl ?_
      refine o_sipush (v := (128 : Int32)) X37 at_327 rfl 330 rfl ?_
      refine o_iload X37 at_330 rfl 332 rfl ?_
      refine o_sipush (v := (4096 : Int32)) X37 at_332 rfl 335 rfl ?_
      refine o_idiv X37 at_335 (by decide) 336 rfl ?_
      refine o_bipush (v := (64 : Int32)) X37 at_336 rfl 338 rfl ?_
      refine o_irem X37 at_338 (by decide) 339 rfl ?_
      refine o_iadd X37 at_339 340 rfl ?_
      refine o_i2b X37 at_340 341 rfl ?_
      refine o_bastoreB X37 H37 0 rfl at_341 1 rfl (by show 1 < 8; decide) (Int8.toInt32 (Int32.toInt8 ((128 : Int32) + ((xcp / (4096 : Int32)) % (64 : Int32))))) (o_b8 _) 342 rfl ?_
      intro T38 h38 X38 H38
      replace H38 : OL n0 h38 ((xb, OA Z .byte [(Int8.toInt32 (Int32.toInt8 ((240 : Int32) + (xcp / (262144 : Int32))))), (Int8.toInt32 (Int32.toInt8 ((128 : Int32) + ((xcp / (4096 : Int32)) % (64 : Int32))))), y2, y3, y4, y5, y6, y7]) :: []) := H38
      refine o_aload X38 at_342 rfl rfl 344 rfl ?_
      refine o_iload X38 at_344 rfl 346 rfl ?_
      refine o_iconst (v := (2 : Int32)) X38 at_346 rfl 347 rfl ?_
      refine o_iadd X38 at_347 348 rfl ?_
      refine o_sipush (v := (128 : Int32)) X38 at_348 rfl 351 rfl ?_
      refine o_iload X38 at_351 rfl 353 rfl ?_
      refine o_bipush (v := (64 : Int32)) X38 at_353 rfl 355 rfl ?_
      refine o_idiv X38 at_355 (by decide) 356 rfl ?_
      refine o_bipush (v := (64 : Int32)) X38 at_356 rfl 358 rfl ?_
      refine o_irem X38 at_358 (by decide) 359 rfl ?_
      refine o_iadd X38 at_359 360 rfl ?_
      refine o_i2b X38 at_360 361 rfl ?_
      refine o_bastoreB X38 H38 0 rfl at_361 2 rfl (by show 2 < 8; decide) (Int8.toInt32 (Int32.toInt8 ((128 : Int32) + ((xcp / (64 : Int32)) % (64 : Int32))))) (o_b8 _) 362 rfl ?_
      intro T39 h39 X39 H39
      replace H39 : OL n0 h39 ((xb, OA Z .byte [(Int8.toInt32 (Int32.toInt8 ((240 : Int32) + (xcp / (262144 : Int32))))), (Int8.toInt32 (Int32.toInt8 ((128 : Int32) + ((xcp / (4096 : Int32)) % (64 : Int32))))), (Int8.toInt32 (Int32.toInt8 ((128 : Int32) + ((xcp / (64 : Int32)) % (64 : Int32))))), y3, y4, y5, y6, y7]) :: []) := H39
      refine o_aload X39 at_362 rfl rfl 364 rfl ?_
      refine o_iload X39 at_364 rfl 366 rfl ?_
      refine o_iconst (v := (3 : Int32)) X39 at_366 rfl 367 rfl ?_
      refine o_iadd X39 at_367 368 rfl ?_
      refine o_sipush (v := (128 : Int32)) X39 at_368 rfl 371 rfl ?_
      refine o_iload X39 at_371 rfl 373 rfl ?_
      refine o_bipush (v := (64 : Int32)) X39 at_373 rfl 375 rfl ?_
      refine o_irem X39 at_375 (by decide) 376 rfl ?_
      refine o_iadd X39 at_376 377 rfl ?_
      refine o_i2b X39 at_377 378 rfl ?_
      refine o_bastoreB X39 H39 0 rfl at_378 3 rfl (by show 3 < 8; decide) (Int8.toInt32 (Int32.toInt8 ((128 : Int32) + (xcp % (64 : Int32))))) (o_b8 _) 379 rfl ?_
      intro T40 h40 X40 H40
      replace H40 : OL n0 h40 ((xb, OA Z .byte [(Int8.toInt32 (Int32.toInt8 ((240 : Int32) + (xcp / (262144 : Int32))))), (Int8.toInt32 (Int32.toInt8 ((128 : Int32) + ((xcp / (4096 : Int32)) % (64 : Int32))))), (Int8.toInt32 (Int32.toInt8 ((128 : Int32) + ((xcp / (64 : Int32)) % (64 : Int32))))), (Int8.toInt32 (Int32.toInt8 ((128 : Int32) + (xcp % (64 : Int32))))), y4, y5, y6, y7]) :: []) := H40
      refine o_aload X40 at_379 rfl rfl 381 rfl ?_
      refine o_iload X40 at_381 rfl 383 rfl ?_
      refine o_iload X40 at_383 rfl 385 rfl ?_
      refine o_callS X40 at_385 (rest := []) (c_cp4 l Z a0 hw [] n0 _ X40.size xb (0 : Int32) [(Int8.toInt32 (Int32.toInt8 ((240 : Int32) + (xcp / (262144 : Int32))))), (Int8.toInt32 (Int32.toInt8 ((128 : Int32) + ((xcp / (4096 : Int32)) % (64 : Int32))))), (Int8.toInt32 (Int32.toInt8 ((128 : Int32) + ((xcp / (64 : Int32)) % (64 : Int32))))), (Int8.toInt32 (Int32.toInt8 ((128 : Int32) + (xcp % (64 : Int32))))), y4, y5, y6, y7] [] H40 0 rfl (by decide) (Int8.toInt32 (Int32.toInt8 ((240 : Int32) + (xcp / (262144 : Int32))))) (Int8.toInt32 (Int32.toInt8 ((128 : Int32) + ((xcp / (4096 : Int32)) % (64 : Int32))))) (Int8.toInt32 (Int32.toInt8 ((128 : Int32) + ((xcp / (64 : Int32)) % (64 : Int32))))) (Int8.toInt32 (Int32.toInt8 ((128 : Int32) + (xcp % (64 : Int32))))) rfl rfl rfl rfl) (hw _ (List.mem_of_getElem? (i := 2) rfl)) (hw _ (List.mem_of_getElem? (i := 3) rfl)) (hw _ (List.mem_of_getElem? (i := 4) rfl)) (hw _ (List.mem_of_getElem? (i := 5) rfl)) (by decide) 0 (by decide) (by decide) rfl [(.ref xb), (.int (0 : Int32)), (.int (4 : Int32))] rfl pd_1 rfl rfl (Nat.le_of_eq rfl) 1 8 rfl rfl (by decide) (by decide) 388 rfl ?_
      rintro _ T41 _ X41 ⟨rfl, rfl⟩
      rw [show (f_cp4 (Int8.toInt32 (Int32.toInt8 ((240 : Int32) + (xcp / (262144 : Int32))))) (Int8.toInt32 (Int32.toInt8 ((128 : Int32) + ((xcp / (4096 : Int32)) % (64 : Int32))))) (Int8.toInt32 (Int32.toInt8 ((128 : Int32) + ((xcp / (64 : Int32)) % (64 : Int32))))) (Int8.toInt32 (Int32.toInt8 ((128 : Int32) + (xcp % (64 : Int32)))))) = xcp from v_cp4 xcp hlo hhi]
      show OE p e room_1 below s n0 Q' T41 (mkF m 388 #[.val (.int xk), .val (.int xc), .val (.long xg), .second, .val (.int (4 : Int32)), .val (.int (0 : Int32)), .val (.int xu), .val (.int xcp), .val (.ref xb)] [(.int xcp)])
      refine o_iload X41 at_388 rfl 390 rfl ?_
      refine o_icmpNe X41 at_390 397 393 (by decide) (by decide) rfl (fun q => by exfalso; exact q rfl) ?_
      intro hc390
      refine o_iconst (v := (1 : Int32)) X41 at_393 rfl 394 rfl ?_
      refine o_goto X41 at_394 398 (by decide) (by decide) ?_
      exact o_retZ X41 at_398 (by decide) (by decide) (hQ _ _ rfl)
    · skip
      refine o_iload X_J186 at_186 rfl 188 rfl ?_
      refine o_iconst (v := (1 : Int32)) X_J186 at_188 rfl 189 rfl ?_
      refine o_icmpNe X_J186 at_189 203 192 (by decide) (by decide) rfl ?_ (fun q => by exfalso; exact absurd q (by decide))
      intro hc189
      refine o_iload X_J186 at_203 rfl 205 rfl ?_
      refine o_iconst (v := (2 : Int32)) X_J186 at_205 rfl 206 rfl ?_
      refine o_icmpNe X_J186 at_206 244 209 (by decide) (by decide) rfl ?_ (fun q => by exfalso; exact absurd q (by decide))
      intro hc206
      refine o_iload X_J186 at_244 rfl 246 rfl ?_
      refine o_iconst (v := (3 : Int32)) X_J186 at_246 rfl 247 rfl ?_
      refine o_icmpNe X_J186 at_247 306 250 (by decide) (by decide) rfl ?_ (fun q => by exfalso; exact absurd q (by decide))
      intro hc247
      refine o_aload X_J186 at_306 rfl rfl 308 rfl ?_
      refine o_iload X_J186 at_308 rfl 310 rfl ?_
      refine o_sipush (v := (240 : Int32)) X_J186 at_310 rfl 313 rfl ?_
      refine o_iload X_J186 at_313 rfl 315 rfl ?_
      refine o_ldc (v := (262144 : Int32)) X_J186 at_315 (hw _ (List.mem_of_getElem? (i := 8) rfl)) 317 rfl ?_
      refine o_idiv X_J186 at_317 (by decide) 318 rfl ?_
      refine o_iadd X_J186 at_318 319 rfl ?_
      refine o_i2b X_J186 at_319 320 rfl ?_
      refine o_bastoreB X_J186 H_J186 0 rfl at_320 1 rfl (by show 1 < 8; decide) (Int8.toInt32 (Int32.toInt8 ((240 : Int32) + (xcp / (262144 : Int32))))) (o_b8 _) 321 rfl ?_
      intro T42 h42 X42 H42
      replace H42 : OL n0 h42 ((xb, OA Z .byte [y0, (Int8.toInt32 (Int32.toInt8 ((240 : Int32) + (xcp / (262144 : Int32))))), y2, y3, y4, y5, y6, y7]) :: []) := H42
      refine o_aload X42 at_321 rfl rfl 323 rfl ?_
      refine o_iload X42 at_323 rfl 325 rfl ?_
      refine o_iconst (v := (1 : Int32)) X42 at_325 rfl 326 rfl ?_
      refine o_iadd X42 at_326 327 rfl ?_
      refine o_sipush (v := (128 : Int32)) X42 at_327 rfl 330 rfl ?_
      refine o_iload X42 at_330 rfl 332 rfl ?_
      refine o_sipush (v := (4096 : Int32)) X42 at_332 rfl 335 rfl ?_
      refine o_idiv X42 at_335 (by decide) 336 rfl ?_
      refine o_bipush (v := (64 : Int32)) X42 at_336 rfl 338 rfl ?_
      refine o_irem X42 at_338 (by decide) 339 rfl ?_
      refine o_iadd X42 at_339 340 rfl ?_
      refine o_i2b X42 at_340 341 rfl ?_
      refine o_bastoreB X42 H42 0 rfl at_341 2 rfl (by show 2 < 8; decide) (Int8.toInt32 (Int32.toInt8 ((128 : Int32) + ((xcp / (4096 : Int32)) % (64 : Int32))))) (o_b8 _) 342 rfl ?_
      intro T43 h43 X43 H43
      replace H43 : OL n0 h43 ((xb, OA Z .byte [y0, (Int8.toInt32 (Int32.toInt8 ((240 : Int32) + (xcp / (262144 : Int32))))), (Int8.toInt32 (Int32.toInt8 ((128 : Int32) + ((xcp / (4096 : Int32)) % (64 : Int32))))), y3, y4, y5, y6, y7]) :: []) := H43
      refine o_aload X43 at_342 rfl rfl 344 rfl ?_
      refine o_iload X43 at_344 rfl 346 rfl ?_
      refine o_iconst (v := (2 : Int32)) X43 at_346 rfl 347 rfl ?_
      refine o_iadd X43 at_347 348 rfl ?_
      refine o_sipush (v := (128 : Int32)) X43 at_348 rfl 351 rfl ?_
      refine o_iload X43 at_351 rfl 353 rfl ?_
      refine o_bipush (v := (64 : Int32)) X43 at_353 rfl 355 rfl ?_
      refine o_idiv X43 at_355 (by decide) 356 rfl ?_
      refine o_bipush (v := (64 : Int32)) X43 at_356 rfl 358 rfl ?_
      refine o_irem X43 at_358 (by decide) 359 rfl ?_
      refine o_iadd X43 at_359 360 rfl ?_
      refine o_i2b X43 at_360 361 rfl ?_
      refine o_bastoreB X43 H43 0 rfl at_361 3 rfl (by show 3 < 8; decide) (Int8.toInt32 (Int32.toInt8 ((128 : Int32) + ((xcp / (64 : Int32)) % (64 : Int32))))) (o_b8 _) 362 rfl ?_
      intro T44 h44 X44 H44
      replace H44 : OL n0 h44 ((xb, OA Z .byte [y0, (Int8.toInt32 (Int32.toInt8 ((240 : Int32) + (xcp / (262144 : Int32))))), (Int8.toInt32 (Int32.toInt8 ((128 : Int32) + ((xcp / (4096 : Int32)) % (64 : Int32))))), (Int8.toInt32 (Int32.toInt8 ((128 : Int32) + ((xcp / (64 : Int32)) % (64 : Int32))))), y4, y5, y6, y7]) :: []) := H44
      refine o_aload X44 at_362 rfl rfl 364 rfl ?_
      refine o_iload X44 at_364 rfl 366 rfl ?_
      refine o_iconst (v := (3 : Int32)) X44 at_366 rfl 367 rfl ?_
      refine o_iadd X44 at_367 368 rfl ?_
      refine o_sipush (v := (128 : Int32)) X44 at_368 rfl 371 rfl ?_
      refine o_iload X44 at_371 rfl 373 rfl ?_
      refine o_bipush (v := (64 : Int32)) X44 at_373 rfl 375 rfl ?_
      refine o_irem X44 at_375 (by decide) 376 rfl ?_
      refine o_iadd X44 at_376 377 rfl ?_
      refine o_i2b X44 at_377 378 rfl ?_
      refine o_bastoreB X44 H44 0 rfl at_378 4 rfl (by show 4 < 8; decide) (Int8.toInt32 (Int32.toInt8 ((128 : Int32) + (xcp % (64 : Int32))))) (o_b8 _) 379 rfl ?_
      intro T45 h45 X45 H45
      replace H45 : OL n0 h45 ((xb, OA Z .byte [y0, (Int8.toInt32 (Int32.toInt8 ((240 : Int32) + (xcp / (262144 : Int32))))), (Int8.toInt32 (Int32.toInt8 ((128 : Int32) + ((xcp / (4096 : Int32)) % (64 : Int32))))), (Int8.toInt32 (Int32.toInt8 ((128 : Int32) + ((xcp / (64 : Int32)) % (64 : Int32))))), (Int8.toInt32 (Int32.toInt8 ((128 : Int32) + (xcp % (64 : Int32))))), y5, y6, y7]) :: []) := H45
      refine o_aload X45 at_379 rfl rfl 381 rfl ?_
      refine o_iload X45 at_381 rfl 383 rfl ?_
      refine o_iload X45 at_383 rfl 385 rfl ?_
      refine o_callS X45 at_385 (rest := []) (c_cp4 l Z a0 hw [] n0 _ X45.size xb (1 : Int32) [y0, (Int8.toInt32 (Int32.toInt8 ((240 : Int32) + (xcp / (262144 : Int32))))), (Int8.toInt32 (Int32.toInt8 ((128 : Int32) + ((xcp / (4096 : Int32)) % (64 : Int32))))), (Int8.toInt32 (Int32.toInt8 ((128 : Int32) + ((xcp / (64 : Int32)) % (64 : Int32))))), (Int8.toInt32 (Int32.toInt8 ((128 : Int32) + (xcp % (64 : Int32))))), y5, y6, y7] [] H45 1 rfl (by decide) (Int8.toInt32 (Int32.toInt8 ((240 : Int32) + (xcp / (262144 : Int32))))) (Int8.toInt32 (Int32.toInt8 ((128 : Int32) + ((xcp / (4096 : Int32)) % (64 : Int32))))) (Int8.toInt32 (Int32.toInt8 ((128 : Int32) + ((xcp / (64 : Int32)) % (64 : Int32))))) (Int8.toInt32 (Int32.toInt8 ((128 : Int32) + (xcp % (64 : Int32))))) rfl rfl rfl rfl) (hw _ (List.mem_of_getElem? (i := 2) rfl)) (hw _ (List.mem_of_getElem? (i := 3) rfl)) (hw _ (List.mem_of_getElem? (i := 4) rfl)) (hw _ (List.mem_of_getElem? (i := 5) rfl)) (by decide) 0 (by decide) (by decide) rfl [(.ref xb), (.int (1 : Int32)), (.int (4 : Int32))] rfl pd_1 rfl rfl (Nat.le_of_eq rfl) 1 8 rfl rfl (by decide) (by decide) 388 rfl ?_
      rintro _ T46 _ X46 ⟨rfl, rfl⟩
      rw [show (f_cp4 (Int8.toInt32 (Int32.toInt8 ((240 : Int32) + (xcp / (262144 : Int32))))) (Int8.toInt32 (Int32.toInt8 ((128 : Int32) + ((xcp / (4096 : Int32)) % (64 : Int32))))) (Int8.toInt32 (Int32.toInt8 ((128 : Int32) + ((xcp / (64 : Int32)) % (64 : Int32))))) (Int8.toInt32 (Int32.toInt8 ((128 : Int32) + (xcp % (64 : Int32)))))) = xcp from v_cp4 xcp hlo hhi]
      show OE p e room_1 below s n0 Q' T46 (mkF m 388 #[.val (.int xk), .val (.int xc), .val (.long xg), .second, .val (.int (4 : Int32)), .val (.int (1 : Int32)), .val (.int xu), .val (.int xcp), .val (.ref xb)] [(.int xcp)])
      refine o_iload X46 at_388 rfl 390 rfl ?_
      refine o_icmpNe X46 at_390 397 393 (by decide) (by decide) rfl (fun q => by exfalso; exact q rfl) ?_
      intro hc390
      refine o_iconst (v := (1 : Int32)) X46 at_393 rfl 394 rfl ?_
      refine o_goto X46 at_394 398 (by decide) (by decide) ?_
      exact o_retZ X46 at_398 (by decide) (by decide) (hQ _ _ rfl)
    · skip
      refine o_iload X_J186 at_186 rfl 188 rfl ?_
      refine o_iconst (v := (1 : Int32)) X_J186 at_188 rfl 189 rfl ?_
      refine o_icmpNe X_J186 at_189 203 192 (by decide) (by decide) rfl ?_ (fun q => by exfalso; exact absurd q (by decide))
      intro hc189
      refine o_iload X_J186 at_203 rfl 205 rfl ?_
      refine o_iconst (v := (2 : Int32)) X_J186 at_205 rfl 206 rfl ?_
      refine o_icmpNe X_J186 at_206 244 209 (by decide) (by decide) rfl ?_ (fun q => by exfalso; exact absurd q (by decide))
      intro hc206
      refine o_iload X_J186 at_244 rfl 246 rfl ?_
      refine o_iconst (v := (3 : Int32)) X_J186 at_246 rfl 247 rfl ?_
      refine o_icmpNe X_J186 at_247 306 250 (by decide) (by decide) rfl ?_ (fun q => by exfalso; exact absurd q (by decide))
      intro hc247
      refine o_aload X_J186 at_306 rfl rfl 308 rfl ?_
      refine o_iload X_J186 at_308 rfl 310 rfl ?_
      refine o_sipush (v := (240 : Int32)) X_J186 at_310 rfl 313 rfl ?_
      refine o_iload X_J186 at_313 rfl 315 rfl ?_
      refine o_ldc (v := (262144 : Int32)) X_J186 at_315 (hw _ (List.mem_of_getElem? (i := 8) rfl)) 317 rfl ?_
      refine o_idiv X_J186 at_317 (by decide) 318 rfl ?_
      refine o_iadd X_J186 at_318 319 rfl ?_
      refine o_i2b X_J186 at_319 320 rfl ?_
      refine o_bastoreB X_J186 H_J186 0 rfl at_320 2 rfl (by show 2 < 8; decide) (Int8.toInt32 (Int32.toInt8 ((240 : Int32) + (xcp / (262144 : Int32))))) (o_b8 _) 321 rfl ?_
      intro T47 h47 X47 H47
      replace H47 : OL n0 h47 ((xb, OA Z .byte [y0, y1, (Int8.toInt32 (Int32.toInt8 ((240 : Int32) + (xcp / (262144 : Int32))))), y3, y4, y5, y6, y7]) :: []) := H47
      refine o_aload X47 at_321 rfl rfl 323 rfl ?_
      refine o_iload X47 at_323 rfl 325 rfl ?_
      refine o_iconst (v := (1 : Int32)) X47 at_325 rfl 326 rfl ?_
      refine o_iadd X47 at_326 327 rfl ?_
      refine o_sipush (v := (128 : Int32)) X47 at_327 rfl 330 rfl ?_
      refine o_iload X47 at_330 rfl 332 rfl ?_
      refine o_sipush (v := (4096 : Int32)) X47 at_332 rfl 335 rfl ?_
      refine o_idiv X47 at_335 (by decide) 336 rfl ?_
      refine o_bipush (v := (64 : Int32)) X47 at_336 rfl 338 rfl ?_
      refine o_irem X47 at_338 (by decide) 339 rfl ?_
      refine o_iadd X47 at_339 340 rfl ?_
      refine o_i2b X47 at_340 341 rfl ?_
      refine o_bastoreB X47 H47 0 rfl at_341 3 rfl (by show 3 < 8; decide) (Int8.toInt32 (Int32.toInt8 ((128 : Int32) + ((xcp / (4096 : Int32)) % (64 : Int32))))) (o_b8 _) 342 rfl ?_
      intro T48 h48 X48 H48
      replace H48 : OL n0 h48 ((xb, OA Z .byte [y0, y1, (Int8.toInt32 (Int32.toInt8 ((240 : Int32) + (xcp / (262144 : Int32))))), (Int8.toInt32 (Int32.toInt8 ((128 : Int32) + ((xcp / (4096 : Int32)) % (64 : Int32))))), y4, y5, y6, y7]) :: []) := H48
      refine o_aload X48 at_342 rfl rfl 344 rfl ?_
      refine o_iload X48 at_344 rfl 346 rfl ?_
      refine o_iconst (v := (2 : Int32)) X48 at_346 rfl 347 rfl ?_
      refine o_iadd X48 at_347 348 rfl ?_
      refine o_sipush (v := (128 : Int32)) X48 at_348 rfl 351 rfl ?_
      refine o_iload X48 at_351 rfl 353 rfl ?_
      refine o_bipush (v := (64 : Int32)) X48 at_353 rfl 355 rfl ?_
      refine o_idiv X48 at_355 (by decide) 356 rfl ?_
      refine o_bipush (v := (64 : Int32)) X48 at_356 rfl 358 rfl ?_
      refine o_irem X48 at_358 (by decide) 359 rfl ?_
      refine o_iadd X48 at_359 360 rfl ?_
      refine o_i2b X48 at_360 361 rfl ?_
      refine o_bastoreB X48 H48 0 rfl at_361 4 rfl (by show 4 < 8; decide) (Int8.toInt32 (Int32.toInt8 ((128 : Int32) + ((xcp / (64 : Int32)) % (64 : Int32))))) (o_b8 _) 362 rfl ?_
      intro T49 h49 X49 H49
      replace H49 : OL n0 h49 ((xb, OA Z .byte [y0, y1, (Int8.toInt32 (Int32.toInt8 ((240 : Int32) + (xcp / (262144 : Int32))))), (Int8.toInt32 (Int32.toInt8 ((128 : Int32) + ((xcp / (4096 : Int32)) % (64 : Int32))))), (Int8.toInt32 (Int32.toInt8 ((128 : Int32) + ((xcp / (64 : Int32)) % (64 : Int32))))), y5, y6, y7]) :: []) := H49
      refine o_aload X49 at_362 rfl rfl 364 rfl ?_
      refine o_iload X49 at_364 rfl 366 rfl ?_
      refine o_iconst (v := (3 : Int32)) X49 at_366 rfl 367 rfl ?_
      refine o_iadd X49 at_367 368 rfl ?_
      refine o_sipush (v := (128 : Int32)) X49 at_368 rfl 371 rfl ?_
      refine o_iload X49 at_371 rfl 373 rfl ?_
      refine o_bipush (v := (64 : Int32)) X49 at_373 rfl 375 rfl ?_
      refine o_irem X49 at_375 (by decide) 376 rfl ?_
      refine o_iadd X49 at_376 377 rfl ?_
      refine o_i2b X49 at_377 378 rfl ?_
      refine o_bastoreB X49 H49 0 rfl at_378 5 rfl (by show 5 < 8; decide) (Int8.toInt32 (Int32.toInt8 ((128 : Int32) + (xcp % (64 : Int32))))) (o_b8 _) 379 rfl ?_
      intro T50 h50 X50 H50
      replace H50 : OL n0 h50 ((xb, OA Z .byte [y0, y1, (Int8.toInt32 (Int32.toInt8 ((240 : Int32) + (xcp / (262144 : Int32))))), (Int8.toInt32 (Int32.toInt8 ((128 : Int32) + ((xcp / (4096 : Int32)) % (64 : Int32))))), (Int8.toInt32 (Int32.toInt8 ((128 : Int32) + ((xcp / (64 : Int32)) % (64 : Int32))))), (Int8.toInt32 (Int32.toInt8 ((128 : Int32) + (xcp % (64 : Int32))))), y6, y7]) :: []) := H50
      refine o_aload X50 at_379 rfl rfl 381 rfl ?_
      refine o_iload X50 at_381 rfl 383 rfl ?_
      refine o_iload X50 at_383 rfl 385 rfl ?_
      refine o_callS X50 at_385 (rest := []) (c_cp4 l Z a0 hw [] n0 _ X50.size xb (2 : Int32) [y0, y1, (Int8.toInt32 (Int32.toInt8 ((240 : Int32) + (xcp / (262144 : Int32))))), (Int8.toInt32 (Int32.toInt8 ((128 : Int32) + ((xcp / (4096 : Int32)) % (64 : Int32))))), (Int8.toInt32 (Int32.toInt8 ((128 : Int32) + ((xcp / (64 : Int32)) % (64 : Int32))))), (Int8.toInt32 (Int32.toInt8 ((128 : Int32) + (xcp % (64 : Int32))))), y6, y7] [] H50 2 rfl (by decide) (Int8.toInt32 (Int32.toInt8 ((240 : Int32) + (xcp / (262144 : Int32))))) (Int8.toInt32 (Int32.toInt8 ((128 : Int32) + ((xcp / (4096 : Int32)) % (64 : Int32))))) (Int8.toInt32 (Int32.toInt8 ((128 : Int32) + ((xcp / (64 : Int32)) % (64 : Int32))))) (Int8.toInt32 (Int32.toInt8 ((128 : Int32) + (xcp % (64 : Int32))))) rfl rfl rfl rfl) (hw _ (List.mem_of_getElem? (i := 2) rfl)) (hw _ (List.mem_of_getElem? (i := 3) rfl)) (hw _ (List.mem_of_getElem? (i := 4) rfl)) (hw _ (List.mem_of_getElem? (i := 5) rfl)) (by decide) 0 (by decide) (by decide) rfl [(.ref xb), (.int (2 : Int32)), (.int (4 : Int32))] rfl pd_1 rfl rfl (Nat.le_of_eq rfl) 1 8 rfl rfl (by decide) (by decide) 388 rfl ?_
      rintro _ T51 _ X51 ⟨rfl, rfl⟩
      rw [show (f_cp4 (Int8.toInt32 (Int32.toInt8 ((240 : Int32) + (xcp / (262144 : Int32))))) (Int8.toInt32 (Int32.toInt8 ((128 : Int32) + ((xcp / (4096 : Int32)) % (64 : Int32))))) (Int8.toInt32 (Int32.toInt8 ((128 : Int32) + ((xcp / (64 : Int32)) % (64 : Int32))))) (Int8.toInt32 (Int32.toInt8 ((128 : Int32) + (xcp % (64 : Int32)))))) = xcp from v_cp4 xcp hlo hhi]
      show OE p e room_1 below s n0 Q' T51 (mkF m 388 #[.val (.int xk), .val (.int xc), .val (.long xg), .second, .val (.int (4 : Int32)), .val (.int (2 : Int32)), .val (.int xu), .val (.int xcp), .val (.ref xb)] [(.int xcp)])
      refine o_iload X51 at_388 rfl 390 rfl ?_
      refine o_icmpNe X51 at_390 397 393 (by decide) (by decide) rfl (fun q => by exfalso; exact q rfl) ?_
      intro hc390
      refine o_iconst (v := (1 : Int32)) X51 at_393 rfl 394 rfl ?_
      refine o_goto X51 at_394 398 (by decide) (by decide) ?_
      exact o_retZ X51 at_398 (by decide) (by decide) (hQ _ _ rfl)
    · skip
      refine o_iload X_J186 at_186 rfl 188 rfl ?_
      refine o_iconst (v := (1 : Int32)) X_J186 at_188 rfl 189 rfl ?_
      refine o_icmpNe X_J186 at_189 203 192 (by decide) (by decide) rfl ?_ (fun q => by exfalso; exact absurd q (by decide))
      intro hc189
      refine o_iload X_J186 at_203 rfl 205 rfl ?_
      refine o_iconst (v := (2 : Int32)) X_J186 at_205 rfl 206 rfl ?_
      refine o_icmpNe X_J186 at_206 244 209 (by decide) (by decide) rfl ?_ (fun q => by exfalso; exact absurd q (by decide))
      intro hc206
      refine o_iload X_J186 at_244 rfl 246 rfl ?_
      refine o_iconst (v := (3 : Int32)) X_J186 at_246 rfl 247 rfl ?_
      refine o_icmpNe X_J186 at_247 306 250 (by decide) (by decide) rfl ?_ (fun q => by exfalso; exact absurd q (by decide))
      intro hc247
      refine o_aload X_J186 at_306 rfl rfl 308 rfl ?_
      refine o_iload X_J186 at_308 rfl 310 rfl ?_
      refine o_sipush (v := (240 : Int32)) X_J186 at_310 rfl 313 rfl ?_
      refine o_iload X_J186 at_313 rfl 315 rfl ?_
      refine o_ldc (v := (262144 : Int32)) X_J186 at_315 (hw _ (List.mem_of_getElem? (i := 8) rfl)) 317 rfl ?_
      refine o_idiv X_J186 at_317 (by decide) 318 rfl ?_
      refine o_iadd X_J186 at_318 319 rfl ?_
      refine o_i2b X_J186 at_319 320 rfl ?_
      refine o_bastoreB X_J186 H_J186 0 rfl at_320 3 rfl (by show 3 < 8; decide) (Int8.toInt32 (Int32.toInt8 ((240 : Int32) + (xcp / (262144 : Int32))))) (o_b8 _) 321 rfl ?_
      intro T52 h52 X52 H52
      replace H52 : OL n0 h52 ((xb, OA Z .byte [y0, y1, y2, (Int8.toInt32 (Int32.toInt8 ((240 : Int32) + (xcp / (262144 : Int32))))), y4, y5, y6, y7]) :: []) := H52
      refine o_aload X52 at_321 rfl rfl 323 rfl ?_
      refine o_iload X52 at_323 rfl 325 rfl ?_
      refine o_iconst (v := (1 : Int32)) X52 at_325 rfl 326 rfl ?_
      refine o_iadd X52 at_326 327 rfl ?_
      refine o_sipush (v := (128 : Int32)) X52 at_327 rfl 330 rfl ?_
      refine o_iload X52 at_330 rfl 332 rfl ?_
      refine o_sipush (v := (4096 : Int32)) X52 at_332 rfl 335 rfl ?_
      refine o_idiv X52 at_335 (by decide) 336 rfl ?_
      refine o_bipush (v := (64 : Int32)) X52 at_336 rfl 338 rfl ?_
      refine o_irem X52 at_338 (by decide) 339 rfl ?_
      refine o_iadd X52 at_339 340 rfl ?_
      refine o_i2b X52 at_340 341 rfl ?_
      refine o_bastoreB X52 H52 0 rfl at_341 4 rfl (by show 4 < 8; decide) (Int8.toInt32 (Int32.toInt8 ((128 : Int32) + ((xcp / (4096 : Int32)) % (64 : Int32))))) (o_b8 _) 342 rfl ?_
      intro T53 h53 X53 H53
      replace H53 : OL n0 h53 ((xb, OA Z .byte [y0, y1, y2, (Int8.toInt32 (Int32.toInt8 ((240 : Int32) + (xcp / (262144 : Int32))))), (Int8.toInt32 (Int32.toInt8 ((128 : Int32) + ((xcp / (4096 : Int32)) % (64 : Int32))))), y5, y6, y7]) :: []) := H53
      refine o_aload X53 at_342 rfl rfl 344 rfl ?_
      refine o_iload X53 at_344 rfl 346 rfl ?_
      refine o_iconst (v := (2 : Int32)) X53 at_346 rfl 347 rfl ?_
      refine o_iadd X53 at_347 348 rfl ?_
      refine o_sipush (v := (128 : Int32)) X53 at_348 rfl 351 rfl ?_
      refine o_iload X53 at_351 rfl 353 rfl ?_
      refine o_bipush (v := (64 : Int32)) X53 at_353 rfl 355 rfl ?_
      refine o_idiv X53 at_355 (by decide) 356 rfl ?_
      refine o_bipush (v := (64 : Int32)) X53 at_356 rfl 358 rfl ?_
      refine o_irem X53 at_358 (by decide) 359 rfl ?_
      refine o_iadd X53 at_359 360 rfl ?_
      refine o_i2b X53 at_360 361 rfl ?_
      refine o_bastoreB X53 H53 0 rfl at_361 5 rfl (by show 5 < 8; decide) (Int8.toInt32 (Int32.toInt8 ((128 : Int32) + ((xcp / (64 : Int32)) % (64 : Int32))))) (o_b8 _) 362 rfl ?_
      intro T54 h54 X54 H54
      replace H54 : OL n0 h54 ((xb, OA Z .byte [y0, y1, y2, (Int8.toInt32 (Int32.toInt8 ((240 : Int32) + (xcp / (262144 : Int32))))), (Int8.toInt32 (Int32.toInt8 ((128 : Int32) + ((xcp / (4096 : Int32)) % (64 : Int32))))), (Int8.toInt32 (Int32.toInt8 ((128 : Int32) + ((xcp / (64 : Int32)) % (64 : Int32))))), y6, y7]) :: []) := H54
      refine o_aload X54 at_362 rfl rfl 364 rfl ?_
      refine o_iload X54 at_364 rfl 366 rfl ?_
      refine o_iconst (v := (3 : Int32)) X54 at_366 rfl 367 rfl ?_
      refine o_iadd X54 at_367 368 rfl ?_
      refine o_sipush (v := (128 : Int32)) X54 at_368 rfl 371 rfl ?_
      refine o_iload X54 at_371 rfl 373 rfl ?_
      refine o_bipush (v := (64 : Int32)) X54 at_373 rfl 375 rfl ?_
      refine o_irem X54 at_375 (by decide) 376 rfl ?_
      refine o_iadd X54 at_376 377 rfl ?_
      refine o_i2b X54 at_377 378 rfl ?_
      refine o_bastoreB X54 H54 0 rfl at_378 6 rfl (by show 6 < 8; decide) (Int8.toInt32 (Int32.toInt8 ((128 : Int32) + (xcp % (64 : Int32))))) (o_b8 _) 379 rfl ?_
      intro T55 h55 X55 H55
      replace H55 : OL n0 h55 ((xb, OA Z .byte [y0, y1, y2, (Int8.toInt32 (Int32.toInt8 ((240 : Int32) + (xcp / (262144 : Int32))))), (Int8.toInt32 (Int32.toInt8 ((128 : Int32) + ((xcp / (4096 : Int32)) % (64 : Int32))))), (Int8.toInt32 (Int32.toInt8 ((128 : Int32) + ((xcp / (64 : Int32)) % (64 : Int32))))), (Int8.toInt32 (Int32.toInt8 ((128 : Int32) + (xcp % (64 : Int32))))), y7]) :: []) := H55
      refine o_aload X55 at_379 rfl rfl 381 rfl ?_
      refine o_iload X55 at_381 rfl 383 rfl ?_
      refine o_iload X55 at_383 rfl 385 rfl ?_
      refine o_callS X55 at_385 (rest := []) (c_cp4 l Z a0 hw [] n0 _ X55.size xb (3 : Int32) [y0, y1, y2, (Int8.toInt32 (Int32.toInt8 ((240 : Int32) + (xcp / (262144 : Int32))))), (Int8.toInt32 (Int32.toInt8 ((128 : Int32) + ((xcp / (4096 : Int32)) % (64 : Int32))))), (Int8.toInt32 (Int32.toInt8 ((128 : Int32) + ((xcp / (64 : Int32)) % (64 : Int32))))), (Int8.toInt32 (Int32.toInt8 ((128 : Int32) + (xcp % (64 : Int32))))), y7] [] H55 3 rfl (by decide) (Int8.toInt32 (Int32.toInt8 ((240 : Int32) + (xcp / (262144 : Int32))))) (Int8.toInt32 (Int32.toInt8 ((128 : Int32) + ((xcp / (4096 : Int32)) % (64 : Int32))))) (Int8.toInt32 (Int32.toInt8 ((128 : Int32) + ((xcp / (64 : Int32)) % (64 : Int32))))) (Int8.toInt32 (Int32.toInt8 ((128 : Int32) + (xcp % (64 : Int32))))) rfl rfl rfl rfl) (hw _ (List.mem_of_getElem? (i := 2) rfl)) (hw _ (List.mem_of_getElem? (i := 3) rfl)) (hw _ (List.mem_of_getElem? (i := 4) rfl)) (hw _ (List.mem_of_getElem? (i := 5) rfl)) (by decide) 0 (by decide) (by decide) rfl [(.ref xb), (.int (3 : Int32)), (.int (4 : Int32))] rfl pd_1 rfl rfl (Nat.le_of_eq rfl) 1 8 rfl rfl (by decide) (by decide) 388 rfl ?_
      rintro _ T56 _ X56 ⟨rfl, rfl⟩
      rw [show (f_cp4 (Int8.toInt32 (Int32.toInt8 ((240 : Int32) + (xcp / (262144 : Int32))))) (Int8.toInt32 (Int32.toInt8 ((128 : Int32) + ((xcp / (4096 : Int32)) % (64 : Int32))))) (Int8.toInt32 (Int32.toInt8 ((128 : Int32) + ((xcp / (64 : Int32)) % (64 : Int32))))) (Int8.toInt32 (Int32.toInt8 ((128 : Int32) + (xcp % (64 : Int32)))))) = xcp from v_cp4 xcp hlo hhi]
      show OE p e room_1 below s n0 Q' T56 (mkF m 388 #[.val (.int xk), .val (.int xc), .val (.long xg), .second, .val (.int (4 : Int32)), .val (.int (3 : Int32)), .val (.int xu), .val (.int xcp), .val (.ref xb)] [(.int xcp)])
      refine o_iload X56 at_388 rfl 390 rfl ?_
      refine o_icmpNe X56 at_390 397 393 (by decide) (by decide) rfl (fun q => by exfalso; exact q rfl) ?_
      intro hc390
      refine o_iconst (v := (1 : Int32)) X56 at_393 rfl 394 rfl ?_
      refine o_goto X56 at_394 398 (by decide) (by decide) ?_
      exact o_retZ X56 at_398 (by decide) (by decide) (hQ _ _ rfl)
  have J101 : ∀ (T : State) (h : Heap) (xn xi xu xcp : Int32), OW p l e room_1 s m #[(.int xk), (.int xc), (.long xg)] below meth cd0 Z x code maxLocals ret n0 T h 0 0 → ((xn = 1 ∧ 0 ≤ xcp.toInt ∧ xcp.toInt ≤ 127) ∨ (xn = 2 ∧ 128 ≤ xcp.toInt ∧ xcp.toInt ≤ 2047) ∨ (xn = 3 ∧ 2048 ≤ xcp.toInt ∧ xcp.toInt ≤ 65535) ∨ (xn = 4 ∧ 65536 ≤ xcp.toInt ∧ xcp.toInt ≤ 1114111)) → (xi = 0 ∨ xi = 1 ∨ xi = 2 ∨ xi = 3) → OE p e room_1 below s n0 Q' T (mkF m 101 #[.val (.int xk), .val (.int xc), .val (.long xg), .second, .val (.int xn), .val (.int xi), .val (.int xu), .val (.int xcp), .unset] []) := by
    intro T h xn xi xu xcp X_J101 hD hI
    refine o_bipush (v := (8 : Int32)) X_J101 at_101 rfl 103 rfl ?_
    refine o_newarray (L := []) X_J101 OL.nil at_103 (hw _ (List.mem_of_getElem? (i := 1) rfl)) rfl rfl 8 8 rfl (by decide) (by decide) 1 8 rfl rfl (by decide) (by decide) 105 rfl ?_
    intro T57 h57 b57 X57 H57
    replace H57 : OL n0 h57 ((b57, OA Z .byte [(0 : Int32), (0 : Int32), (0 : Int32), (0 : Int32), (0 : Int32), (0 : Int32), (0 : Int32), (0 : Int32)]) :: []) := H57
    refine o_astore X57 at_105 rfl #[.val (.int xk), .val (.int xc), .val (.long xg), .second, .val (.int xn), .val (.int xi), .val (.int xu), .val (.int xcp), .val (.ref b57)] rfl 107 rfl ?_
    refine o_aload X57 at_107 rfl rfl 109 rfl ?_
    refine o_iconst (v := (0 : Int32)) X57 at_109 rfl 110 rfl ?_
    refine o_lloadN X57 at_110 rfl 111 rfl ?_
    refine o_l2i X57 at_111 112 rfl ?_
    refine o_i2b X57 at_112 113 rfl ?_
    refine o_bastoreB X57 H57 0 rfl at_113 0 rfl (by show 0 < 8; decide) (Int8.toInt32 (Int32.toInt8 (Int64.toInt32 xg))) (o_b8 _) 114 rfl ?_
    intro T58 h58 X58 H58
    replace H58 : OL n0 h58 ((b57, OA Z .byte [(Int8.toInt32 (Int32.toInt8 (Int64.toInt32 xg))), (0 : Int32), (0 : Int32), (0 : Int32), (0 : Int32), (0 : Int32), (0 : Int32), (0 : Int32)]) :: []) := H58
    refine o_aload X58 at_114 rfl rfl 116 rfl ?_
    refine o_iconst (v := (1 : Int32)) X58 at_116 rfl 117 rfl ?_
    refine o_lloadN X58 at_117 rfl 118 rfl ?_
    refine o_bipush (v := (8 : Int32)) X58 at_118 rfl 120 rfl ?_
    refine o_lushr X58 at_120 121 rfl ?_
    refine o_l2i X58 at_121 122 rfl ?_
    refine o_i2b X58 at_122 123 rfl ?_
    refine o_bastoreB X58 H58 0 rfl at_123 1 rfl (by show 1 < 8; decide) (Int8.toInt32 (Int32.toInt8 (Int64.toInt32 (XT.ushrL xg (8 : Int32))))) (o_b8 _) 124 rfl ?_
    intro T59 h59 X59 H59
    replace H59 : OL n0 h59 ((b57, OA Z .byte [(Int8.toInt32 (Int32.toInt8 (Int64.toInt32 xg))), (Int8.toInt32 (Int32.toInt8 (Int64.toInt32 (XT.ushrL xg (8 : Int32))))), (0 : Int32), (0 : Int32), (0 : Int32), (0 : Int32), (0 : Int32), (0 : Int32)]) :: []) := H59
    refine o_aload X59 at_124 rfl rfl 126 rfl ?_
    refine o_iconst (v := (2 : Int32)) X59 at_126 rfl 127 rfl ?_
    refine o_lloadN X59 at_127 rfl 128 rfl ?_
    refine o_bipush (v := (16 : Int32)) X59 at_128 rfl 130 rfl ?_
    refine o_lushr X59 at_130 131 rfl ?_
    refine o_l2i X59 at_131 132 rfl ?_
    refine o_i2b X59 at_132 133 rfl ?_
    refine o_bastoreB X59 H59 0 rfl at_133 2 rfl (by show 2 < 8; decide) (Int8.toInt32 (Int32.toInt8 (Int64.toInt32 (XT.ushrL xg (16 : Int32))))) (o_b8 _) 134 rfl ?_
    intro T60 h60 X60 H60
    replace H60 : OL n0 h60 ((b57, OA Z .byte [(Int8.toInt32 (Int32.toInt8 (Int64.toInt32 xg))), (Int8.toInt32 (Int32.toInt8 (Int64.toInt32 (XT.ushrL xg (8 : Int32))))), (Int8.toInt32 (Int32.toInt8 (Int64.toInt32 (XT.ushrL xg (16 : Int32))))), (0 : Int32), (0 : Int32), (0 : Int32), (0 : Int32), (0 : Int32)]) :: []) := H60
    refine o_aload X60 at_134 rfl rfl 136 rfl ?_
    refine o_iconst (v := (3 : Int32)) X60 at_136 rfl 137 rfl ?_
    refine o_lloadN X60 at_137 rfl 138 rfl ?_
    refine o_bipush (v := (24 : Int32)) X60 at_138 rfl 140 rfl ?_
    refine o_lushr X60 at_140 141 rfl ?_
    refine o_l2i X60 at_141 142 rfl ?_
    refine o_i2b X60 at_142 143 rfl ?_
    refine o_bastoreB X60 H60 0 rfl at_143 3 rfl (by show 3 < 8; decide) (Int8.toInt32 (Int32.toInt8 (Int64.toInt32 (XT.ushrL xg (24 : Int32))))) (o_b8 _) 144 rfl ?_
    intro T61 h61 X61 H61
    replace H61 : OL n0 h61 ((b57, OA Z .byte [(Int8.toInt32 (Int32.toInt8 (Int64.toInt32 xg))), (Int8.toInt32 (Int32.toInt8 (Int64.toInt32 (XT.ushrL xg (8 : Int32))))), (Int8.toInt32 (Int32.toInt8 (Int64.toInt32 (XT.ushrL xg (16 : Int32))))), (Int8.toInt32 (Int32.toInt8 (Int64.toInt32 (XT.ushrL xg (24 : Int32))))), (0 : Int32), (0 : Int32), (0 : Int32), (0 : Int32)]) :: []) := H61
    refine o_aload X61 at_144 rfl rfl 146 rfl ?_
    refine o_iconst (v := (4 : Int32)) X61 at_146 rfl 147 rfl ?_
    refine o_lloadN X61 at_147 rfl 148 rfl ?_
    refine o_bipush (v := (32 : Int32)) X61 at_148 rfl 150 rfl ?_
    refine o_lushr X61 at_150 151 rfl ?_
    refine o_l2i X61 at_151 152 rfl ?_
    refine o_i2b X61 at_152 153 rfl ?_
    refine o_bastoreB X61 H61 0 rfl at_153 4 rfl (by show 4 < 8; decide) (Int8.toInt32 (Int32.toInt8 (Int64.toInt32 (XT.ushrL xg (32 : Int32))))) (o_b8 _) 154 rfl ?_
    intro T62 h62 X62 H62
    replace H62 : OL n0 h62 ((b57, OA Z .byte [(Int8.toInt32 (Int32.toInt8 (Int64.toInt32 xg))), (Int8.toInt32 (Int32.toInt8 (Int64.toInt32 (XT.ushrL xg (8 : Int32))))), (Int8.toInt32 (Int32.toInt8 (Int64.toInt32 (XT.ushrL xg (16 : Int32))))), (Int8.toInt32 (Int32.toInt8 (Int64.toInt32 (XT.ushrL xg (24 : Int32))))), (Int8.toInt32 (Int32.toInt8 (Int64.toInt32 (XT.ushrL xg (32 : Int32))))), (0 : Int32), (0 : Int32), (0 : Int32)]) :: []) := H62
    refine o_aload X62 at_154 rfl rfl 156 rfl ?_
    refine o_iconst (v := (5 : Int32)) X62 at_156 rfl 157 rfl ?_
    refine o_lloadN X62 at_157 rfl 158 rfl ?_
    refine o_bipush (v := (40 : Int32)) X62 at_158 rfl 160 rfl ?_
    refine o_lushr X62 at_160 161 rfl ?_
    refine o_l2i X62 at_161 162 rfl ?_
    refine o_i2b X62 at_162 163 rfl ?_
    refine o_bastoreB X62 H62 0 rfl at_163 5 rfl (by show 5 < 8; decide) (Int8.toInt32 (Int32.toInt8 (Int64.toInt32 (XT.ushrL xg (40 : Int32))))) (o_b8 _) 164 rfl ?_
    intro T63 h63 X63 H63
    replace H63 : OL n0 h63 ((b57, OA Z .byte [(Int8.toInt32 (Int32.toInt8 (Int64.toInt32 xg))), (Int8.toInt32 (Int32.toInt8 (Int64.toInt32 (XT.ushrL xg (8 : Int32))))), (Int8.toInt32 (Int32.toInt8 (Int64.toInt32 (XT.ushrL xg (16 : Int32))))), (Int8.toInt32 (Int32.toInt8 (Int64.toInt32 (XT.ushrL xg (24 : Int32))))), (Int8.toInt32 (Int32.toInt8 (Int64.toInt32 (XT.ushrL xg (32 : Int32))))), (Int8.toInt32 (Int32.toInt8 (Int64.toInt32 (XT.ushrL xg (40 : Int32))))), (0 : Int32), (0 : Int32)]) :: []) := H63
    refine o_aload X63 at_164 rfl rfl 166 rfl ?_
    refine o_bipush (v := (6 : Int32)) X63 at_166 rfl 168 rfl ?_
    refine o_lloadN X63 at_168 rfl 169 rfl ?_
    refine o_bipush (v := (48 : Int32)) X63 at_169 rfl 171 rfl ?_
    refine o_lushr X63 at_171 172 rfl ?_
    refine o_l2i X63 at_172 173 rfl ?_
    refine o_i2b X63 at_173 174 rfl ?_
    refine o_bastoreB X63 H63 0 rfl at_174 6 rfl (by show 6 < 8; decide) (Int8.toInt32 (Int32.toInt8 (Int64.toInt32 (XT.ushrL xg (48 : Int32))))) (o_b8 _) 175 rfl ?_
    intro T64 h64 X64 H64
    replace H64 : OL n0 h64 ((b57, OA Z .byte [(Int8.toInt32 (Int32.toInt8 (Int64.toInt32 xg))), (Int8.toInt32 (Int32.toInt8 (Int64.toInt32 (XT.ushrL xg (8 : Int32))))), (Int8.toInt32 (Int32.toInt8 (Int64.toInt32 (XT.ushrL xg (16 : Int32))))), (Int8.toInt32 (Int32.toInt8 (Int64.toInt32 (XT.ushrL xg (24 : Int32))))), (Int8.toInt32 (Int32.toInt8 (Int64.toInt32 (XT.ushrL xg (32 : Int32))))), (Int8.toInt32 (Int32.toInt8 (Int64.toInt32 (XT.ushrL xg (40 : Int32))))), (Int8.toInt32 (Int32.toInt8 (Int64.toInt32 (XT.ushrL xg (48 : Int32))))), (0 : Int32)]) :: []) := H64
    refine o_aload X64 at_175 rfl rfl 177 rfl ?_
    refine o_bipush (v := (7 : Int32)) X64 at_177 rfl 179 rfl ?_
    refine o_lloadN X64 at_179 rfl 180 rfl ?_
    refine o_bipush (v := (56 : Int32)) X64 at_180 rfl 182 rfl ?_
    refine o_lushr X64 at_182 183 rfl ?_
    refine o_l2i X64 at_183 184 rfl ?_
    refine o_i2b X64 at_184 185 rfl ?_
    refine o_bastoreB X64 H64 0 rfl at_185 7 rfl (by show 7 < 8; decide) (Int8.toInt32 (Int32.toInt8 (Int64.toInt32 (XT.ushrL xg (56 : Int32))))) (o_b8 _) 186 rfl ?_
    intro T65 h65 X65 H65
    replace H65 : OL n0 h65 ((b57, OA Z .byte [(Int8.toInt32 (Int32.toInt8 (Int64.toInt32 xg))), (Int8.toInt32 (Int32.toInt8 (Int64.toInt32 (XT.ushrL xg (8 : Int32))))), (Int8.toInt32 (Int32.toInt8 (Int64.toInt32 (XT.ushrL xg (16 : Int32))))), (Int8.toInt32 (Int32.toInt8 (Int64.toInt32 (XT.ushrL xg (24 : Int32))))), (Int8.toInt32 (Int32.toInt8 (Int64.toInt32 (XT.ushrL xg (32 : Int32))))), (Int8.toInt32 (Int32.toInt8 (Int64.toInt32 (XT.ushrL xg (40 : Int32))))), (Int8.toInt32 (Int32.toInt8 (Int64.toInt32 (XT.ushrL xg (48 : Int32))))), (Int8.toInt32 (Int32.toInt8 (Int64.toInt32 (XT.ushrL xg (56 : Int32)))))]) :: []) := H65
    exact J186 _ _ _ _ _ _ _ _ _ _ _ _ _ _ _ X65 H65 hD hI
  refine o_iloadN X0 at_0 rfl 1 rfl ?_
  refine o_iconst (v := (3 : Int32)) X0 at_1 rfl 2 rfl ?_
  refine o_iand X0 at_2 3 rfl ?_
  refine o_iconst (v := (1 : Int32)) X0 at_3 rfl 4 rfl ?_
  refine o_iadd X0 at_4 5 rfl ?_
  refine o_istore X0 at_5 #[.val (.int xk), .val (.int xc), .val (.long xg), .second, .val (.int ((xk &&& (3 : Int32)) + (1 : Int32))), .unset, .unset, .unset, .unset] rfl 7 rfl ?_
  rcases v_len xk with hv | hv | hv | hv
  · rw [hv]
    refine o_iloadN X0 at_7 rfl 8 rfl ?_
    refine o_iconst (v := (2 : Int32)) X0 at_8 rfl 9 rfl ?_
    refine o_iushr X0 at_9 10 rfl ?_
    refine o_iconst (v := (3 : Int32)) X0 at_10 rfl 11 rfl ?_
    refine o_iand X0 at_11 12 rfl ?_
    refine o_istore X0 at_12 #[.val (.int xk), .val (.int xc), .val (.long xg), .second, .val (.int (1 : Int32)), .val (.int ((XT.ushr xk (2 : Int32)) &&& (3 : Int32))), .unset, .unset, .unset] rfl 14 rfl ?_
    refine o_iloadN X0 at_14 rfl 15 rfl ?_
    refine o_ldc (v := (2147483647 : Int32)) X0 at_15 (hw _ (List.mem_of_getElem? (i := 0) rfl)) 17 rfl ?_
    refine o_iand X0 at_17 18 rfl ?_
    refine o_istore X0 at_18 #[.val (.int xk), .val (.int xc), .val (.long xg), .second, .val (.int (1 : Int32)), .val (.int ((XT.ushr xk (2 : Int32)) &&& (3 : Int32))), .val (.int (xc &&& (2147483647 : Int32))), .unset, .unset] rfl 20 rfl ?_
    refine o_iload X0 at_20 rfl 22 rfl ?_
    refine o_iconst (v := (1 : Int32)) X0 at_22 rfl 23 rfl ?_
    refine o_icmpNe X0 at_23 35 26 (by decide) (by decide) rfl (fun q => by exfalso; exact absurd q (by decide)) ?_
    intro hc23
    refine o_iloadN X0 at_26 rfl 27 rfl ?_
    refine o_bipush (v := (127 : Int32)) X0 at_27 rfl 29 rfl ?_
    refine o_iand X0 at_29 30 rfl ?_
    refine o_istore X0 at_30 #[.val (.int xk), .val (.int xc), .val (.long xg), .second, .val (.int (1 : Int32)), .val (.int ((XT.ushr xk (2 : Int32)) &&& (3 : Int32))), .val (.int (xc &&& (2147483647 : Int32))), .val (.int (xc &&& (127 : Int32))), .unset] rfl 32 rfl ?_
    refine o_goto X0 at_32 101 (by decide) (by decide) ?_
    exact J101 _ _ _ _ _ _ X0 (Or.inl ⟨rfl, v_r1 _⟩) (v_ix _)
  · rw [hv]
    refine o_iloadN X0 at_7 rfl 8 rfl ?_
    refine o_iconst (v := (2 : Int32)) X0 at_8 rfl 9 rfl ?_
    refine o_iushr X0 at_9 10 rfl ?_
    refine o_iconst (v := (3 : Int32)) X0 at_10 rfl 11 rfl ?_
    refine o_iand X0 at_11 12 rfl ?_
    refine o_istore X0 at_12 #[.val (.int xk), .val (.int xc), .val (.long xg), .second, .val (.int (2 : Int32)), .val (.int ((XT.ushr xk (2 : Int32)) &&& (3 : Int32))), .unset, .unset, .unset] rfl 14 rfl ?_
    refine o_iloadN X0 at_14 rfl 15 rfl ?_
    refine o_ldc (v := (2147483647 : Int32)) X0 at_15 (hw _ (List.mem_of_getElem? (i := 0) rfl)) 17 rfl ?_
    refine o_iand X0 at_17 18 rfl ?_
    refine o_istore X0 at_18 #[.val (.int xk), .val (.int xc), .val (.long xg), .second, .val (.int (2 : Int32)), .val (.int ((XT.ushr xk (2 : Int32)) &&& (3 : Int32))), .val (.int (xc &&& (2147483647 : Int32))), .unset, .unset] rfl 20 rfl ?_
    refine o_iload X0 at_20 rfl 22 rfl ?_
    refine o_iconst (v := (1 : Int32)) X0 at_22 rfl 23 rfl ?_
    refine o_icmpNe X0 at_23 35 26 (by decide) (by decide) rfl ?_ (fun q => by exfalso; exact absurd q (by decide))
    intro hc23
    refine o_iload X0 at_35 rfl 37 rfl ?_
    refine o_iconst (v := (2 : Int32)) X0 at_37 rfl 38 rfl ?_
    refine o_icmpNe X0 at_38 56 41 (by decide) (by decide) rfl (fun q => by exfalso; exact absurd q (by decide)) ?_
    intro hc38
    refine o_sipush (v := (128 : Int32)) X0 at_41 rfl 44 rfl ?_
    refine o_iload X0 at_44 rfl 46 rfl ?_
    refine o_sipush (v := (1920 : Int32)) X0 at_46 rfl 49 rfl ?_
    refine o_irem X0 at_49 (by decide) 50 rfl ?_
    refine o_iadd X0 at_50 51 rfl ?_
    refine o_istore X0 at_51 #[.val (.int xk), .val (.int xc), .val (.long xg), .second, .val (.int (2 : Int32)), .val (.int ((XT.ushr xk (2 : Int32)) &&& (3 : Int32))), .val (.int (xc &&& (2147483647 : Int32))), .val (.int ((128 : Int32) + ((xc &&& (2147483647 : Int32)) % (1920 : Int32)))), .unset] rfl 53 rfl ?_
    refine o_goto X0 at_53 101 (by decide) (by decide) ?_
    exact J101 _ _ _ _ _ _ X0 (Or.inr (Or.inl ⟨rfl, v_r2 _⟩)) (v_ix _)
  · rw [hv]
    refine o_iloadN X0 at_7 rfl 8 rfl ?_
    refine o_iconst (v := (2 : Int32)) X0 at_8 rfl 9 rfl ?_
    refine o_iushr X0 at_9 10 rfl ?_
    refine o_iconst (v := (3 : Int32)) X0 at_10 rfl 11 rfl ?_
    refine o_iand X0 at_11 12 rfl ?_
    refine o_istore X0 at_12 #[.val (.int xk), .val (.int xc), .val (.long xg), .second, .val (.int (3 : Int32)), .val (.int ((XT.ushr xk (2 : Int32)) &&& (3 : Int32))), .unset, .unset, .unset] rfl 14 rfl ?_
    refine o_iloadN X0 at_14 rfl 15 rfl ?_
    refine o_ldc (v := (2147483647 : Int32)) X0 at_15 (hw _ (List.mem_of_getElem? (i := 0) rfl)) 17 rfl ?_
    refine o_iand X0 at_17 18 rfl ?_
    refine o_istore X0 at_18 #[.val (.int xk), .val (.int xc), .val (.long xg), .second, .val (.int (3 : Int32)), .val (.int ((XT.ushr xk (2 : Int32)) &&& (3 : Int32))), .val (.int (xc &&& (2147483647 : Int32))), .unset, .unset] rfl 20 rfl ?_
    refine o_iload X0 at_20 rfl 22 rfl ?_
    refine o_iconst (v := (1 : Int32)) X0 at_22 rfl 23 rfl ?_
    refine o_icmpNe X0 at_23 35 26 (by decide) (by decide) rfl ?_ (fun q => by exfalso; exact absurd q (by decide))
    intro hc23
    refine o_iload X0 at_35 rfl 37 rfl ?_
    refine o_iconst (v := (2 : Int32)) X0 at_37 rfl 38 rfl ?_
    refine o_icmpNe X0 at_38 56 41 (by decide) (by decide) rfl ?_ (fun q => by exfalso; exact absurd q (by decide))
    intro hc38
    refine o_iload X0 at_56 rfl 58 rfl ?_
    refine o_iconst (v := (3 : Int32)) X0 at_58 rfl 59 rfl ?_
    refine o_icmpNe X0 at_59 91 62 (by decide) (by decide) rfl (fun q => by exfalso; exact absurd q (by decide)) ?_
    intro hc59
    refine o_sipush (v := (2048 : Int32)) X0 at_62 rfl 65 rfl ?_
    refine o_iload X0 at_65 rfl 67 rfl ?_
    refine o_ldc (v := (61440 : Int32)) X0 at_67 (hw _ (List.mem_of_getElem? (i := 9) rfl)) 69 rfl ?_
    refine o_irem X0 at_69 (by decide) 70 rfl ?_
    refine o_iadd X0 at_70 71 rfl ?_
    refine o_istore X0 at_71 #[.val (.int xk), .val (.int xc), .val (.long xg), .second, .val (.int (3 : Int32)), .val (.int ((XT.ushr xk (2 : Int32)) &&& (3 : Int32))), .val (.int (xc &&& (2147483647 : Int32))), .val (.int ((2048 : Int32) + ((xc &&& (2147483647 : Int32)) % (61440 : Int32)))), .unset] rfl 73 rfl ?_
    refine o_iload X0 at_73 rfl 75 rfl ?_
    refine o_ldc (v := (55296 : Int32)) X0 at_75 (hw _ (List.mem_of_getElem? (i := 10) rfl)) 77 rfl ?_
    refine o_icmpLt X0 at_77 101 80 (by decide) (by decide) rfl ?_ ?_
    · intro hc77
      exact J101 _ _ _ _ _ _ X0 (Or.inr (Or.inr (Or.inl ⟨rfl, (v_r3 _).1, Int.le_trans (v_r3 _).2 (by decide)⟩))) (v_ix _)
    · intro hc77
      refine o_iload X0 at_80 rfl 82 rfl ?_
      refine o_sipush (v := (2048 : Int32)) X0 at_82 rfl 85 rfl ?_
      refine o_iadd X0 at_85 86 rfl ?_
      refine o_istore X0 at_86 #[.val (.int xk), .val (.int xc), .val (.long xg), .second, .val (.int (3 : Int32)), .val (.int ((XT.ushr xk (2 : Int32)) &&& (3 : Int32))), .val (.int (xc &&& (2147483647 : Int32))), .val (.int (((2048 : Int32) + ((xc &&& (2147483647 : Int32)) % (61440 : Int32))) + (2048 : Int32))), .unset] rfl 88 rfl ?_
      refine o_goto X0 at_88 101 (by decide) (by decide) ?_
      exact J101 _ _ _ _ _ _ X0 (Or.inr (Or.inr (Or.inl ⟨rfl, v_r3b _ (v_r3 _)⟩))) (v_ix _)
  · rw [hv]
    refine o_iloadN X0 at_7 rfl 8 rfl ?_
    refine o_iconst (v := (2 : Int32)) X0 at_8 rfl 9 rfl ?_
    refine o_iushr X0 at_9 10 rfl ?_
    refine o_iconst (v := (3 : Int32)) X0 at_10 rfl 11 rfl ?_
    refine o_iand X0 at_11 12 rfl ?_
    refine o_istore X0 at_12 #[.val (.int xk), .val (.int xc), .val (.long xg), .second, .val (.int (4 : Int32)), .val (.int ((XT.ushr xk (2 : Int32)) &&& (3 : Int32))), .unset, .unset, .unset] rfl 14 rfl ?_
    refine o_iloadN X0 at_14 rfl 15 rfl ?_
    refine o_ldc (v := (2147483647 : Int32)) X0 at_15 (hw _ (List.mem_of_getElem? (i := 0) rfl)) 17 rfl ?_
    refine o_iand X0 at_17 18 rfl ?_
    refine o_istore X0 at_18 #[.val (.int xk), .val (.int xc), .val (.long xg), .second, .val (.int (4 : Int32)), .val (.int ((XT.ushr xk (2 : Int32)) &&& (3 : Int32))), .val (.int (xc &&& (2147483647 : Int32))), .unset, .unset] rfl 20 rfl ?_
    refine o_iload X0 at_20 rfl 22 rfl ?_
    refine o_iconst (v := (1 : Int32)) X0 at_22 rfl 23 rfl ?_
    refine o_icmpNe X0 at_23 35 26 (by decide) (by decide) rfl ?_ (fun q => by exfalso; exact absurd q (by decide))
    intro hc23
    refine o_iload X0 at_35 rfl 37 rfl ?_
    refine o_iconst (v := (2 : Int32)) X0 at_37 rfl 38 rfl ?_
    refine o_icmpNe X0 at_38 56 41 (by decide) (by decide) rfl ?_ (fun q => by exfalso; exact absurd q (by decide))
    intro hc38
    refine o_iload X0 at_56 rfl 58 rfl ?_
    refine o_iconst (v := (3 : Int32)) X0 at_58 rfl 59 rfl ?_
    refine o_icmpNe X0 at_59 91 62 (by decide) (by decide) rfl ?_ (fun q => by exfalso; exact absurd q (by decide))
    intro hc59
    refine o_ldc (v := (65536 : Int32)) X0 at_91 (hw _ (List.mem_of_getElem? (i := 6) rfl)) 93 rfl ?_
    refine o_iload X0 at_93 rfl 95 rfl ?_
    refine o_ldc (v := (1048576 : Int32)) X0 at_95 (hw _ (List.mem_of_getElem? (i := 7) rfl)) 97 rfl ?_
    refine o_irem X0 at_97 (by decide) 98 rfl ?_
    refine o_iadd X0 at_98 99 rfl ?_
    refine o_istore X0 at_99 #[.val (.int xk), .val (.int xc), .val (.long xg), .second, .val (.int (4 : Int32)), .val (.int ((XT.ushr xk (2 : Int32)) &&& (3 : Int32))), .val (.int (xc &&& (2147483647 : Int32))), .val (.int ((65536 : Int32) + ((xc &&& (2147483647 : Int32)) % (1048576 : Int32)))), .unset] rfl 101 rfl ?_
    exact J101 _ _ _ _ _ _ X0 (Or.inr (Or.inr (Or.inr ⟨rfl, v_r4 _⟩))) (v_ix _)
set_option maxRecDepth 65536 in
set_option maxHeartbeats 40000000 in
theorem comes_1 {Post : Tables → Env → Array Value → State → Outcome → State → Prop} (hpost : ∀ tb e args s v u, (limb_1_1.after args s (.returned v) u = true ∧ limb_1_2.after args s (.returned v) u = true ∧ True) → FrameEnd s (.returned v) u (Jvm.fieldLocs frame_1_writes args s ++ Jvm.arrayLocs frame_1_arrays args s ++ Jvm.staticLocs frame_1_statics s) 16 128 → Post tb e args s (.returned v) u) :
    ArmFor flags0 classFile x code maxLocals ret World_1 tables_1 room_1 Calls_1 rest_1 Pre_1 Post := by
  intro l hfl _ _ p e ha hc hk s m args below hf hA hF happ hP
  obtain ⟨hcalls, hrest, hpre⟩ := hP
  obtain ⟨-, -, -, hnamed, -, -, -, hat⟩ := (Spec.applies_iff hf).mp happ
  obtain ⟨hg, hn⟩ := and_e (Cond.before_iff.mp (show (Jvm.Cond.and given_1 narrow_1).before args s = true from hpre))
  obtain ⟨hcnt, hg0⟩ := and_e hg
  obtain ⟨ha0, hg1⟩ := and_e hg0
  obtain ⟨ha1, hg2⟩ := and_e hg1
  have ha2 := hg2
  obtain ⟨w0, w1, w2, rfl⟩ : ∃ w0 w1 w2 : Value, args = #[w0, w1, w2] := by
    have hs : args.size = 3 := by simpa [Cond.value, given_1] using hcnt
    obtain ⟨L⟩ := args
    match L, hs with
    | [w0, w1, w2], _ => exact ⟨w0, w1, w2, rfl⟩
  have hw := fun d (hd : d ∈ tables_1) => atoms_spec (ws := Jvm.Cond.code x code maxLocals ret :: tables_1) hat d (List.mem_cons_of_mem _ hd)
  obtain ⟨i0, ei0⟩ := is_v ha0
  obtain rfl : w0 = (.int i0) := Option.some.inj ei0
  obtain ⟨i1, ei1⟩ := is_v ha1
  obtain rfl : w1 = (.int i1) := Option.some.inj ei1
  obtain ⟨i2, ei2⟩ := isL_v ha2
  obtain rfl : w2 = (.long i2) := Option.some.inj ei2
  obtain ⟨n, o, h1, h2, h3, _, L, rfl, ⟨rfl, N⟩, hq⟩ := c_law l s _ hw tables_1 s.heap.size s.heap (Nat.le_refl _) i0 i1 i2 p e ha hc hk s m _ below hf ((Spec.applies_iff_loose hf).mp happ).1 ⟨rfl, State.Warmed39.refl s, rfl⟩ trivial
  refine ⟨n, _, h1, h2, h3, hpost _ _ _ _ _ _ ⟨Cond.after_iff.mpr rfl, Cond.after_iff.mpr (eq_i res_at (Term.int_eval (1)) rfl), trivial⟩ ⟨hq.1, hq.2.1, (hq.2.2.sift fun y hy => Or.inr (N y hy)).mono (by decide) (by decide)⟩⟩
theorem main_1_1 : Claimed_1_1 := comes_1 fun _ _ _ _ _ _ h hF => ⟨h.1, hF⟩
theorem main_1_2 : Claimed_1_2 := comes_1 fun _ _ _ _ _ _ h hF => ⟨h.2.1, hF⟩
end Jvm.Pilot.@@N@@
namespace Jvm.Pilot.@@N@@
open Jvm Jvm.ClassFile Sem Op Lib Jvm.Free Jvm.Stand Jvm.Pilot.@@N@@.Jvm.D
/-! MADE BY PROGRAM (witnessworld.py) out of the Statement's table words and the real class files: 9 classes; the members and pool entries that the words name. The judged class is class 1, her method 1. -/
namespace start1
open Jvm.ClassFile
def u (s : String) : CpInfo := .utf8 (stringToUtf16 s)
/-- a pool by its gaps: so many unusable entries, then the entry; so many at the end -/
def gap : Nat → List CpInfo → List CpInfo
  | 0, r => r
  | n + 1, r => .unusable :: gap n r
def poolList (es : List (Nat × CpInfo)) (last : Nat) : List CpInfo := es.foldr (fun e r => gap e.1 (e.2 :: r)) (gap last [])
def pool (es : List (Nat × CpInfo)) (last : Nat) : Array CpInfo := ⟨poolList es last⟩
def fileOf (pool : Array CpInfo) (this : Nat) (attrs : Array Attribute := #[]) (ms : Array MethodInfo := #[]) (fl : Nat := 33) (sup : Nat := 0) (ifs : Array Nat := #[]) (fds : Array FieldInfo := #[]) : ClassFile where
  minorVersion := 0
  majorVersion := 65
  constantPool := pool
  accessFlags := fl
  thisClass := this
  superClass := sup
  interfaces := ifs
  fields := fds
  methods := ms
  attributes := attrs
def plain (name : String) (sup : Option ClassId) : Class where
  name := name
  kind := .ordinary
  loader := none
  accessFlags := 33
  super := sup
  interfaces := #[]
  cf := none
  fields := #[]
  methods := #[]
  instanceTypes := #[]
  staticTypes := #[]
  resolved := #[]
  callSites := []
  init := .initialized
  statics := none
  mirror := none

def pool0 : Array CpInfo := pool [(5, u "<init>"), (0, u "()V"), (1, .class_ 10), (1, u "java/lang/Object")] 113

def k0m0 : Method := { name := "<init>", desc := "()V", sig := { parameters := [], returnType := none }, accessFlags := 1, code := none }
/-- java/lang/Object -/
def k0 : Class := { plain "java/lang/Object" none with
  accessFlags := 33
  interfaces := #[]
  cf := some (fileOf pool0 8 #[] #[{ accessFlags := 1, nameIndex := 5, descriptorIndex := 6, attributes := #[] }] 33 0 #[] #[])
  fields := #[]
  methods := #[k0m0]
  instanceTypes := #[]
  staticTypes := #[]
  resolved := Array.replicate 124 none
  statics := none }

def pool1 : Array CpInfo := pool [(2, .class_ 4), (1, u "java/lang/Object"), (0, u "<init>"), (0, u "()V"), (0, .integer 2147483647), (0, .integer 61440), (0, .integer 55296), (0, .integer 65536), (0, .integer 1048576), (0, .integer 262144), (0, .methodref 14 15), (0, .class_ 16), (0, .nameAndType 17 18), (0, u "org/bindloom/internal/Utf8"), (0, u "codePointAt"), (0, u "([BII)I"), (0, .class_ 20), (0, u "org/bindloom/internal/Utf8CodePointAtPinLaw"), (2, u "law"), (0, u "(IIJ)Z")] 5

def k1m0 : Method := { name := "<init>", desc := "()V", sig := { parameters := [], returnType := none }, accessFlags := 1, code := none }
def k1c1 : Code := { maxStack := 5, maxLocals := 9, code := code, exceptionTable := #[], attributes := #[] }
def k1m1 : Method := { name := "law", desc := "(IIJ)Z", sig := { parameters := [.int, .int, .long], returnType := some .boolean }, accessFlags := 9, code := some k1c1 }
/-- org/bindloom/internal/Utf8CodePointAtPinLaw -/
def k1 : Class := { plain "org/bindloom/internal/Utf8CodePointAtPinLaw" (some 0) with
  accessFlags := 49
  interfaces := #[]
  cf := some (fileOf pool1 19 #[] #[{ accessFlags := 1, nameIndex := 5, descriptorIndex := 6, attributes := #[] }, { accessFlags := 9, nameIndex := 23, descriptorIndex := 24, attributes := #[] }] 49 2 #[] #[])
  fields := #[]
  methods := #[k1m0, k1m1]
  instanceTypes := #[]
  staticTypes := #[]
  resolved := Array.replicate 30 none
  statics := none }

def pool2 : Array CpInfo := pool [(2, .class_ 4), (1, u "java/lang/Object"), (0, u "<init>"), (0, u "()V"), (1, .class_ 10), (1, u "org/bindloom/internal/Utf8"), (11, u "([BII)I"), (25, u "INVALID"), (0, u "Ljava/lang/String;"), (12, u "codePointAt")] 5

def k2m0 : Method := { name := "<init>", desc := "()V", sig := { parameters := [], returnType := none }, accessFlags := 2, code := none }
def k2c1 : Code := { maxStack := 4, maxLocals := 5, code := prog_39_method_8_code, exceptionTable := #[], attributes := #[] }
def k2m1 : Method := { name := "codePointAt", desc := "([BII)I", sig := { parameters := [(.array .byte), .int, .int], returnType := some .int }, accessFlags := 9, code := some k2c1 }
/-- org/bindloom/internal/Utf8 -/
def k2 : Class := { plain "org/bindloom/internal/Utf8" (some 0) with
  accessFlags := 49
  interfaces := #[]
  cf := some (fileOf pool2 8 #[] #[{ accessFlags := 2, nameIndex := 5, descriptorIndex := 6, attributes := #[] }, { accessFlags := 9, nameIndex := 62, descriptorIndex := 22, attributes := #[] }] 49 2 #[] #[{ accessFlags := 25, nameIndex := 48, descriptorIndex := 49, attributes := #[] }])
  fields := #[{ name := "INVALID", type := (.object "java/lang/String"), accessFlags := 25, slot := 0, constantValue := 0 }]
  methods := #[k2m0, k2m1]
  instanceTypes := #[]
  staticTypes := #[(.object "java/lang/String")]
  resolved := Array.replicate 68 none
  statics := none }

def pool3 : Array CpInfo := pool [(1, u "java/lang/Cloneable"), (0, .class_ 1), (0, u "java/lang/Object"), (0, .class_ 3)] 3

/-- java/lang/Cloneable -/
def k3 : Class := { plain "java/lang/Cloneable" (some 0) with
  accessFlags := 1537
  interfaces := #[]
  cf := some (fileOf pool3 2 #[] #[] 1537 4 #[] #[])
  fields := #[]
  methods := #[]
  instanceTypes := #[]
  staticTypes := #[]
  resolved := Array.replicate 8 none
  statics := none }

def pool4 : Array CpInfo := pool [(1, u "java/io/Serializable"), (0, .class_ 1), (0, u "java/lang/Object"), (0, .class_ 3)] 3

/-- java/io/Serializable -/
def k4 : Class := { plain "java/io/Serializable" (some 0) with
  accessFlags := 1537
  interfaces := #[]
  cf := some (fileOf pool4 2 #[] #[] 1537 4 #[] #[])
  fields := #[]
  methods := #[]
  instanceTypes := #[]
  staticTypes := #[]
  resolved := Array.replicate 8 none
  statics := none }

/-- the primitive byte -/
def k5 : Class := { plain "byte" none with kind := .primitive 'B', accessFlags := 0x411 }
/-- [B -/
def k6 : Class := { plain "[B" (some 0) with kind := .array 5 .byte, interfaces := #[3, 4], accessFlags := 1041 }

/-- the primitive int -/
def k7 : Class := { plain "int" none with kind := .primitive 'I', accessFlags := 0x411 }
/-- [I -/
def k8 : Class := { plain "[I" (some 0) with kind := .array 7 .int, interfaces := #[3, 4], accessFlags := 1041 }

def heap : Heap := #[]
def classes : Array Class := #[k0, k1, k2, k3, k4, k5, k6, k7, k8]
def interned : List (Array UInt16 × Addr) := []
def slotsUsed : Nat := 0
def theMethod : MethodId := ⟨1, 1⟩
def args0 : Array Value := #[.int 5, .int 300, .long 7]
def aboutOver (below : List Frame) : State where
  vm := { classes := classes, interned := interned.toArray }
  heap := heap
  slotsUsed := slotsUsed
  threads := #[{ frames := .invoking theMethod args0 :: below }]
def below0 : List Frame := [.native { method := ⟨0, 0⟩, args := #[] }]
def about1 : State := aboutOver below0
def p0 : Program := .bare "" "" ""
def e0 : Env := launch0.env 0 0 0
theorem w_frames : about1.frames = Frame.invoking theMethod args0 :: below0 := rfl
set_option maxRecDepth 65536 in
theorem w_args : argsFit about1.vm theMethod args0 = true := by decide +kernel
set_option maxRecDepth 65536 in
theorem w_heap : heapFits about1 = true := by decide +kernel
set_option maxRecDepth 65536 in
theorem w_runnable : about1.curStatus? = some .runnable := by decide +kernel
set_option maxRecDepth 65536 in
theorem w_alone : about1.alone = true := by decide +kernel
set_option maxRecDepth 65536 in
theorem w_named : about1.methodNamed? x = some theMethod := by decide +kernel
set_option maxRecDepth 65536 in
theorem w_hears : about1.hears theMethod below0 = true := by decide +kernel
set_option maxRecDepth 65536 in
theorem w_ripe : about1.ripe theMethod args0 below0 = true := by decide +kernel
theorem w_running : about1.status = .running := rfl
set_option maxRecDepth 65536 in
theorem w_room : about1.hasRoom e0.platform room_1 = true :=
  launch0.hasRoom_least _ room_1 (by decide +kernel) (by decide +kernel) (by decide +kernel) (by decide +kernel) (by decide +kernel) (by decide +kernel)
theorem allAtoms_all (ts : List Jvm.Cond) (a : Array Jvm.Value) (st : Jvm.State) : (allAtoms ts).before a st = ts.all (fun c => c.before a st) := by
  induction ts with
  | nil => rfl
  | cons c t ih =>
    show (Jvm.Cond.and c (allAtoms t)).before a st = _
    rw [Jvm.Cond.before_and, ih, List.all_cons]
def words1 : List Jvm.Cond := Jvm.Cond.code x code maxLocals ret :: tables_1
/-- a 'code' word, met by the world's own term for the bytes: nothing is compared byte by byte -/
theorem code_word {y : MethodName} {bytes : ByteArray} {mx : Nat} {rt : Option FieldType} {a : Array Value} {s : State} {m : MethodId} {meth : Method} {c : Code} (h1 : s.methodNamed? y = some m) (h2 : s.vm.method? m = some meth) (h3 : meth.code = some c) (h4 : c.code = bytes)
    (h5 : (c.maxLocals == mx && c.exceptionTable.isEmpty && decide (c.maxStack ≤ mostOperands) && decide (meth.sig.returnType = rt) && !meth.locks && decide (parseMethodDescriptor y.desc = some meth.sig)) = true) : (Jvm.Cond.code y bytes mx rt).before a s = true := by
  simp only [Bool.and_eq_true, beq_iff_eq, Bool.not_eq_true', decide_eq_true_eq] at h5
  obtain ⟨⟨⟨⟨⟨g1, g2⟩, g3⟩, g4⟩, g5⟩, g6⟩ := h5
  simp [Cond.before, Cond.holds, Cond.value, h1, h2, h3, h4, g1, g2, g3, g4, g5, g6]
def isCode : Jvm.Cond → Bool
  | .code _ _ _ _ => true
  | _ => false
theorem all_split {L : List Jvm.Cond} {P : Jvm.Cond → Bool} (h1 : L.all (fun c => isCode c || P c) = true) (h2 : ∀ c ∈ L.filter isCode, P c = true) : L.all P = true := by
  refine List.all_eq_true.mpr fun c hc => ?_
  have h := List.all_eq_true.mp h1 c hc
  rcases Bool.eq_false_or_eq_true (isCode c) with hi | hi
  · exact h2 c (List.mem_filter.mpr ⟨hc, hi⟩)
  · simpa [hi] using h
set_option maxRecDepth 65536 in
theorem w_c0 : (Jvm.Cond.code x code maxLocals ret).before args0 about1 = true := code_word (m := ⟨1, 1⟩) (meth := k1m1) (c := k1c1) (by decide +kernel) rfl rfl rfl (by decide +kernel)
set_option maxRecDepth 65536 in
theorem w_c1 : (Jvm.Cond.code ({ cls := "org/bindloom/internal/Utf8", name := "codePointAt", desc := "([BII)I" } : Jvm.MethodName) prog_39_method_8_code (5 : Nat) (Option.some Jvm.ClassFile.FieldType.int)).before args0 about1 = true := code_word (m := ⟨2, 1⟩) (meth := k2m1) (c := k2c1) (by decide +kernel) rfl rfl rfl (by decide +kernel)
def codes1 : List Jvm.Cond := [Jvm.Cond.code x code maxLocals ret, Jvm.Cond.code ({ cls := "org/bindloom/internal/Utf8", name := "codePointAt", desc := "([BII)I" } : Jvm.MethodName) prog_39_method_8_code (5 : Nat) (Option.some Jvm.ClassFile.FieldType.int)]
set_option maxRecDepth 65536 in
theorem codes_eq : words1.filter isCode = codes1 := rfl
theorem w_codes : ∀ c ∈ words1.filter isCode, c.before args0 about1 = true := by
  rw [codes_eq]
  intro c hc
  simp only [codes1, List.mem_cons, List.not_mem_nil, or_false] at hc
  rcases hc with rfl | rfl
  · exact w_c0
  · exact w_c1
set_option maxRecDepth 65536 in
theorem w_t1 : words1.all (fun c => isCode c || c.before args0 about1) = true := by decide +kernel
theorem w_tables : (allAtoms (Jvm.Cond.code x code maxLocals ret :: tables_1)).before args0 about1 = true := by
  rw [allAtoms_all]
  show words1.all (fun c => c.before args0 about1) = true
  refine all_split ?_ w_codes
  rw [w_t1]
set_option maxRecDepth 65536 in
theorem w_case : (Jvm.Cond.and given_1 narrow_1).before args0 about1 = true := by decide +kernel
theorem w_applies : (headSpec (Jvm.Cond.code x code maxLocals ret :: tables_1) room_1).applies x e0.platform about1 = true :=
  (Spec.applies_iff w_frames).mpr ⟨w_running, w_runnable, w_alone, w_named, w_hears, w_ripe, w_room, w_tables⟩
theorem atStart : AtStart classFile x code maxLocals ret World_1 tables_1 room_1 Calls_1 rest_1 Pre_1 launch0 p0 e0 about1 theMethod args0 below0 :=
  ⟨lists_1, trivial, launch0.admits_env _ _ _, launch0.least_env, fairChoices_fair.cas, fairChoices_fair.clock, w_frames, w_args, w_heap, w_applies, trivial, trivial, w_case⟩
end start1
theorem witness_1 : WitnessClaimed_1 := ⟨start1.p0, start1.e0, start1.about1, start1.theMethod, start1.args0, start1.below0, start1.atStart⟩
end Jvm.Pilot.@@N@@
