import JvmDerived
import JvmDerived.Pilot.@@N@@Statement
import JvmDerived.Pilot.@@N@@Code
set_option linter.unusedVariables false
set_option linter.unusedSimpArgs false
@@BLOCK:NumsL.lean.txt@@
namespace Jvm.Pilot.@@N@@
open Jvm Jvm.ClassFile Sem Op Lib Jvm.Free Jvm.Stand Jvm.LawKit Jvm.RoadKit Bundle Jvm.Pilot.@@N@@.Jvm.D
section OwnKit
variable {p : Program} {l : Launch} {e : Env} {R : Room} {s : State} {m : MethodId} {args : Array Value} {below : List Frame} {meth : Method} {c : Code} {T T' : State} {Z : State} {h : Heap} {n0 k n mx : Nat} {y : MethodName} {bytes : ByteArray} {ret : Option FieldType} {Q : Option Value → Heap → Prop} {pc : Nat} {Ls : Array Slot} {st rest : List Value} {a0 : Array Value} {g g' : JFrame}
/-- where a body's walk stands: all that its steps ask, bundled -/
def OW (p : Program) (l : Launch) (e : Env) (R : Room) (s : State) (m : MethodId) (args : Array Value) (below : List Frame) (meth : Method) (c : Code) (Z : State) (y : MethodName) (bytes : ByteArray) (mx : Nat) (ret : Option FieldType) (n0 : Nat) (T : State) (h : Heap) (k n : Nat) : Prop :=
  p.tables.exec = Jvm.exec ∧ Z.Warmed39 s.vm ∧ s.vm.findClass y.cls = some m.cls ∧ c.code = bytes ∧ c.maxLocals = mx ∧ meth.sig.returnType = ret ∧ meth.name = y.name ∧ meth.locks = false ∧ n0 ≤ s.heap.size ∧ T.heap = h ∧ ∃ locs, Stand p l e R s m args below meth c T locs k n ∧ Fr n0 locs
/-- what a body owes from the frame g on: it returns, and Q holds of what it returns and of the heap -/
def OE (p : Program) (e : Env) (R : Room) (below : List Frame) (s : State) (n0 : Nat) (Q : Option Value → Heap → Prop) (T : State) (g : JFrame) : Prop :=
  ∃ t o, Steps p.tables e below (T.setTop g) t ∧ t.status = .running ∧ Ended t below o ∧ ∃ v L, o = .returned v ∧ (Q v t.heap ∧ Fr n0 L) ∧ FrameEnd s o t L R.cells R.slots
theorem OE.by (hs : ∀ t, Steps p.tables e below (T'.setTop g') t → Steps p.tables e below (T.setTop g) t) (K : OE p e R below s n0 Q T' g') : OE p e R below s n0 Q T g := by
  obtain ⟨t, o, h1, r⟩ := K; exact ⟨t, o, hs t h1, r⟩
theorem OW.size (X : OW p l e R s m args below meth c Z y bytes mx ret n0 T h k n) : n0 ≤ h.size := by
  obtain ⟨-, -, -, -, -, -, -, -, h0, rfl, locs, S, -⟩ := X
  exact Nat.le_trans h0 S.same.2.1
theorem OW.more (X : OW p l e R s m args below meth c Z y bytes mx ret n0 T h k n) {k' n' : Nat} (hk : k ≤ k') (hn : n ≤ n') : OW p l e R s m args below meth c Z y bytes mx ret n0 T h k' n' := by
  obtain ⟨h1, h2, h3, h4, h5, h6, h7, h8, h9, h10, locs, S, N⟩ := X
  exact ⟨h1, h2, h3, h4, h5, h6, h7, h8, h9, h10, locs, S.more hk hn, N⟩
theorem o_iloadN (X : OW p l e R s m args below meth c Z y bytes mx ret n0 T h k n) {j : Fin 4} {v : Int32} (hd : decode bytes pc = .ok (.iload_n j, 1)) (hl : Ls[j.val]? = some (.val (.int v))) (pc' : Nat) (hp : pc + 1 = pc') (K : OE p e R below s n0 Q T (mkF m pc' Ls (.int v :: st))) : OE p e R below s n0 Q T (mkF m pc Ls st) := by
  obtain ⟨hx, hZ, hown, hby, hmx, hret, hnm, hlk, h0, hT, locs, S, N⟩ := X; subst hp
  exact OE.by (fun t q => XS.iloadN S.here hx rfl (hb hby hd) hl q) K
theorem o_iload (X : OW p l e R s m args below meth c Z y bytes mx ret n0 T h k n) {j : Nat} {v : Int32} (hd : decode bytes pc = .ok (.iload j, 2)) (hl : Ls[j]? = some (.val (.int v))) (pc' : Nat) (hp : pc + 2 = pc') (K : OE p e R below s n0 Q T (mkF m pc' Ls (.int v :: st))) : OE p e R below s n0 Q T (mkF m pc Ls st) := by
  obtain ⟨hx, hZ, hown, hby, hmx, hret, hnm, hlk, h0, hT, locs, S, N⟩ := X; subst hp
  exact OE.by (fun t q => XS.iload S.here hx rfl (hb hby hd) hl q) K
theorem o_aloadN (X : OW p l e R s m args below meth c Z y bytes mx ret n0 T h k n) {j : Fin 4} {v : Value} (hd : decode bytes pc = .ok (.aload_n j, 1)) (hl : Ls[j.val]? = some (.val v)) (hv : v.isRef = true) (pc' : Nat) (hp : pc + 1 = pc') (K : OE p e R below s n0 Q T (mkF m pc' Ls (v :: st))) : OE p e R below s n0 Q T (mkF m pc Ls st) := by
  obtain ⟨hx, hZ, hown, hby, hmx, hret, hnm, hlk, h0, hT, locs, S, N⟩ := X; subst hp
  exact OE.by (fun t q => XS.aloadN S.here hx rfl (hb hby hd) hl hv q) K
theorem o_aload (X : OW p l e R s m args below meth c Z y bytes mx ret n0 T h k n) {j : Nat} {v : Value} (hd : decode bytes pc = .ok (.aload j, 2)) (hl : Ls[j]? = some (.val v)) (hv : v.isRef = true) (pc' : Nat) (hp : pc + 2 = pc') (K : OE p e R below s n0 Q T (mkF m pc' Ls (v :: st))) : OE p e R below s n0 Q T (mkF m pc Ls st) := by
  obtain ⟨hx, hZ, hown, hby, hmx, hret, hnm, hlk, h0, hT, locs, S, N⟩ := X; subst hp
  exact OE.by (fun t q => XS.aload S.here hx rfl (hb hby hd) hl hv q) K
theorem o_lloadN (X : OW p l e R s m args below meth c Z y bytes mx ret n0 T h k n) {j : Fin 4} {v : Int64} (hd : decode bytes pc = .ok (.lload_n j, 1)) (hl : Ls[j.val]? = some (.val (.long v))) (pc' : Nat) (hp : pc + 1 = pc') (K : OE p e R below s n0 Q T (mkF m pc' Ls (.long v :: st))) : OE p e R below s n0 Q T (mkF m pc Ls st) := by
  obtain ⟨hx, hZ, hown, hby, hmx, hret, hnm, hlk, h0, hT, locs, S, N⟩ := X; subst hp
  exact OE.by (fun t q => XT.lloadN S.here hx rfl (hb hby hd) hl q) K
theorem o_lload (X : OW p l e R s m args below meth c Z y bytes mx ret n0 T h k n) {j : Nat} {v : Int64} (hd : decode bytes pc = .ok (.lload j, 2)) (hl : Ls[j]? = some (.val (.long v))) (pc' : Nat) (hp : pc + 2 = pc') (K : OE p e R below s n0 Q T (mkF m pc' Ls (.long v :: st))) : OE p e R below s n0 Q T (mkF m pc Ls st) := by
  obtain ⟨hx, hZ, hown, hby, hmx, hret, hnm, hlk, h0, hT, locs, S, N⟩ := X; subst hp
  exact OE.by (fun t q => XT.lload S.here hx rfl (hb hby hd) hl q) K
theorem o_iconst (X : OW p l e R s m args below meth c Z y bytes mx ret n0 T h k n) {i : Int} {v : Int32} (hd : decode bytes pc = .ok (.iconst i, 1)) (hv : Int32.ofInt i = v) (pc' : Nat) (hp : pc + 1 = pc') (K : OE p e R below s n0 Q T (mkF m pc' Ls (.int v :: st))) : OE p e R below s n0 Q T (mkF m pc Ls st) := by
  obtain ⟨hx, hZ, hown, hby, hmx, hret, hnm, hlk, h0, hT, locs, S, N⟩ := X; subst hp hv
  exact OE.by (fun t q => XS.iconst S.here hx rfl (hb hby hd) q) K
theorem o_bipush (X : OW p l e R s m args below meth c Z y bytes mx ret n0 T h k n) {i : Int} {v : Int32} (hd : decode bytes pc = .ok (.bipush i, 2)) (hv : (Int8.ofInt i).toInt32 = v) (pc' : Nat) (hp : pc + 2 = pc') (K : OE p e R below s n0 Q T (mkF m pc' Ls (.int v :: st))) : OE p e R below s n0 Q T (mkF m pc Ls st) := by
  obtain ⟨hx, hZ, hown, hby, hmx, hret, hnm, hlk, h0, hT, locs, S, N⟩ := X; subst hp hv
  exact OE.by (fun t q => XS.bipush S.here hx rfl (hb hby hd) q) K
theorem o_sipush (X : OW p l e R s m args below meth c Z y bytes mx ret n0 T h k n) {i : Int} {v : Int32} (hd : decode bytes pc = .ok (.sipush i, 3)) (hv : (Int16.ofInt i).toInt32 = v) (pc' : Nat) (hp : pc + 3 = pc') (K : OE p e R below s n0 Q T (mkF m pc' Ls (.int v :: st))) : OE p e R below s n0 Q T (mkF m pc Ls st) := by
  obtain ⟨hx, hZ, hown, hby, hmx, hret, hnm, hlk, h0, hT, locs, S, N⟩ := X; subst hp hv
  exact OE.by (fun t q => XS.sipush S.here hx rfl (hb hby hd) q) K
theorem o_lconst (X : OW p l e R s m args below meth c Z y bytes mx ret n0 T h k n) {i : Fin 2} {v : Int64} (hd : decode bytes pc = .ok (.lconst i, 1)) (hv : Int64.ofNat i = v) (pc' : Nat) (hp : pc + 1 = pc') (K : OE p e R below s n0 Q T (mkF m pc' Ls (.long v :: st))) : OE p e R below s n0 Q T (mkF m pc Ls st) := by
  obtain ⟨hx, hZ, hown, hby, hmx, hret, hnm, hlk, h0, hT, locs, S, N⟩ := X; subst hp hv
  exact OE.by (fun t q => XT.lconst S.here hx rfl (hb hby hd) q) K
theorem o_iadd (X : OW p l e R s m args below meth c Z y bytes mx ret n0 T h k n) {x z : Int32} (hd : decode bytes pc = .ok (.iadd, 1))  (pc' : Nat) (hp : pc + 1 = pc') (K : OE p e R below s n0 Q T (mkF m pc' Ls (.int (x + z) :: st))) : OE p e R below s n0 Q T (mkF m pc Ls (.int z :: .int x :: st)) := by
  obtain ⟨hx, hZ, hown, hby, hmx, hret, hnm, hlk, h0, hT, locs, S, N⟩ := X; subst hp
  exact OE.by (fun t q => XS.iadd S.here hx rfl (hb hby hd) rfl q) K
theorem o_isub (X : OW p l e R s m args below meth c Z y bytes mx ret n0 T h k n) {x z : Int32} (hd : decode bytes pc = .ok (.isub, 1))  (pc' : Nat) (hp : pc + 1 = pc') (K : OE p e R below s n0 Q T (mkF m pc' Ls (.int (x - z) :: st))) : OE p e R below s n0 Q T (mkF m pc Ls (.int z :: .int x :: st)) := by
  obtain ⟨hx, hZ, hown, hby, hmx, hret, hnm, hlk, h0, hT, locs, S, N⟩ := X; subst hp
  exact OE.by (fun t q => XS.isub S.here hx rfl (hb hby hd) rfl q) K
theorem o_imul (X : OW p l e R s m args below meth c Z y bytes mx ret n0 T h k n) {x z : Int32} (hd : decode bytes pc = .ok (.imul, 1))  (pc' : Nat) (hp : pc + 1 = pc') (K : OE p e R below s n0 Q T (mkF m pc' Ls (.int (x * z) :: st))) : OE p e R below s n0 Q T (mkF m pc Ls (.int z :: .int x :: st)) := by
  obtain ⟨hx, hZ, hown, hby, hmx, hret, hnm, hlk, h0, hT, locs, S, N⟩ := X; subst hp
  exact OE.by (fun t q => XS.imul S.here hx rfl (hb hby hd) rfl q) K
theorem o_iand (X : OW p l e R s m args below meth c Z y bytes mx ret n0 T h k n) {x z : Int32} (hd : decode bytes pc = .ok (.iand, 1))  (pc' : Nat) (hp : pc + 1 = pc') (K : OE p e R below s n0 Q T (mkF m pc' Ls (.int (x &&& z) :: st))) : OE p e R below s n0 Q T (mkF m pc Ls (.int z :: .int x :: st)) := by
  obtain ⟨hx, hZ, hown, hby, hmx, hret, hnm, hlk, h0, hT, locs, S, N⟩ := X; subst hp
  exact OE.by (fun t q => XS.iand S.here hx rfl (hb hby hd) rfl q) K
theorem o_ior (X : OW p l e R s m args below meth c Z y bytes mx ret n0 T h k n) {x z : Int32} (hd : decode bytes pc = .ok (.ior, 1))  (pc' : Nat) (hp : pc + 1 = pc') (K : OE p e R below s n0 Q T (mkF m pc' Ls (.int (x ||| z) :: st))) : OE p e R below s n0 Q T (mkF m pc Ls (.int z :: .int x :: st)) := by
  obtain ⟨hx, hZ, hown, hby, hmx, hret, hnm, hlk, h0, hT, locs, S, N⟩ := X; subst hp
  exact OE.by (fun t q => XT.ior S.here hx rfl (hb hby hd) rfl q) K
theorem o_ixor (X : OW p l e R s m args below meth c Z y bytes mx ret n0 T h k n) {x z : Int32} (hd : decode bytes pc = .ok (.ixor, 1))  (pc' : Nat) (hp : pc + 1 = pc') (K : OE p e R below s n0 Q T (mkF m pc' Ls (.int (x ^^^ z) :: st))) : OE p e R below s n0 Q T (mkF m pc Ls (.int z :: .int x :: st)) := by
  obtain ⟨hx, hZ, hown, hby, hmx, hret, hnm, hlk, h0, hT, locs, S, N⟩ := X; subst hp
  exact OE.by (fun t q => XT.ixor S.here hx rfl (hb hby hd) rfl q) K
theorem o_ishl (X : OW p l e R s m args below meth c Z y bytes mx ret n0 T h k n) {x z : Int32} (hd : decode bytes pc = .ok (.ishl, 1))  (pc' : Nat) (hp : pc + 1 = pc') (K : OE p e R below s n0 Q T (mkF m pc' Ls (.int (x <<< (z &&& 31)) :: st))) : OE p e R below s n0 Q T (mkF m pc Ls (.int z :: .int x :: st)) := by
  obtain ⟨hx, hZ, hown, hby, hmx, hret, hnm, hlk, h0, hT, locs, S, N⟩ := X; subst hp
  exact OE.by (fun t q => XT.ishl S.here hx rfl (hb hby hd) rfl q) K
theorem o_ishr (X : OW p l e R s m args below meth c Z y bytes mx ret n0 T h k n) {x z : Int32} (hd : decode bytes pc = .ok (.ishr, 1))  (pc' : Nat) (hp : pc + 1 = pc') (K : OE p e R below s n0 Q T (mkF m pc' Ls (.int (x >>> (z &&& 31)) :: st))) : OE p e R below s n0 Q T (mkF m pc Ls (.int z :: .int x :: st)) := by
  obtain ⟨hx, hZ, hown, hby, hmx, hret, hnm, hlk, h0, hT, locs, S, N⟩ := X; subst hp
  exact OE.by (fun t q => XT.ishr S.here hx rfl (hb hby hd) rfl q) K
theorem o_iushr (X : OW p l e R s m args below meth c Z y bytes mx ret n0 T h k n) {x z : Int32} (hd : decode bytes pc = .ok (.iushr, 1))  (pc' : Nat) (hp : pc + 1 = pc') (K : OE p e R below s n0 Q T (mkF m pc' Ls (.int (XT.ushr x z) :: st))) : OE p e R below s n0 Q T (mkF m pc Ls (.int z :: .int x :: st)) := by
  obtain ⟨hx, hZ, hown, hby, hmx, hret, hnm, hlk, h0, hT, locs, S, N⟩ := X; subst hp
  exact OE.by (fun t q => XT.iushr S.here hx rfl (hb hby hd) rfl q) K
theorem o_idiv (X : OW p l e R s m args below meth c Z y bytes mx ret n0 T h k n) {x z : Int32} (hd : decode bytes pc = .ok (.idiv, 1)) (hz : z ≠ 0) (pc' : Nat) (hp : pc + 1 = pc') (K : OE p e R below s n0 Q T (mkF m pc' Ls (.int (x / z) :: st))) : OE p e R below s n0 Q T (mkF m pc Ls (.int z :: .int x :: st)) := by
  obtain ⟨hx, hZ, hown, hby, hmx, hret, hnm, hlk, h0, hT, locs, S, N⟩ := X; subst hp
  exact OE.by (fun t q => XS.idiv S.here hx rfl (hb hby hd) rfl hz q) K
theorem o_irem (X : OW p l e R s m args below meth c Z y bytes mx ret n0 T h k n) {x z : Int32} (hd : decode bytes pc = .ok (.irem, 1)) (hz : z ≠ 0) (pc' : Nat) (hp : pc + 1 = pc') (K : OE p e R below s n0 Q T (mkF m pc' Ls (.int (x % z) :: st))) : OE p e R below s n0 Q T (mkF m pc Ls (.int z :: .int x :: st)) := by
  obtain ⟨hx, hZ, hown, hby, hmx, hret, hnm, hlk, h0, hT, locs, S, N⟩ := X; subst hp
  exact OE.by (fun t q => iremM S hx rfl (hb hby hd) rfl hz q) K
theorem o_ladd (X : OW p l e R s m args below meth c Z y bytes mx ret n0 T h k n) {x z : Int64} (hd : decode bytes pc = .ok (.ladd, 1))  (pc' : Nat) (hp : pc + 1 = pc') (K : OE p e R below s n0 Q T (mkF m pc' Ls (.long (x + z) :: st))) : OE p e R below s n0 Q T (mkF m pc Ls (.long z :: .long x :: st)) := by
  obtain ⟨hx, hZ, hown, hby, hmx, hret, hnm, hlk, h0, hT, locs, S, N⟩ := X; subst hp
  exact OE.by (fun t q => XT.ladd S.here hx rfl (hb hby hd) rfl q) K
theorem o_lsub (X : OW p l e R s m args below meth c Z y bytes mx ret n0 T h k n) {x z : Int64} (hd : decode bytes pc = .ok (.lsub, 1))  (pc' : Nat) (hp : pc + 1 = pc') (K : OE p e R below s n0 Q T (mkF m pc' Ls (.long (x - z) :: st))) : OE p e R below s n0 Q T (mkF m pc Ls (.long z :: .long x :: st)) := by
  obtain ⟨hx, hZ, hown, hby, hmx, hret, hnm, hlk, h0, hT, locs, S, N⟩ := X; subst hp
  exact OE.by (fun t q => XT.lsub S.here hx rfl (hb hby hd) rfl q) K
theorem o_lor (X : OW p l e R s m args below meth c Z y bytes mx ret n0 T h k n) {x z : Int64} (hd : decode bytes pc = .ok (.lor, 1))  (pc' : Nat) (hp : pc + 1 = pc') (K : OE p e R below s n0 Q T (mkF m pc' Ls (.long (x ||| z) :: st))) : OE p e R below s n0 Q T (mkF m pc Ls (.long z :: .long x :: st)) := by
  obtain ⟨hx, hZ, hown, hby, hmx, hret, hnm, hlk, h0, hT, locs, S, N⟩ := X; subst hp
  exact OE.by (fun t q => XT.lor S.here hx rfl (hb hby hd) rfl q) K
theorem o_land (X : OW p l e R s m args below meth c Z y bytes mx ret n0 T h k n) {x z : Int64} (hd : decode bytes pc = .ok (.land, 1))  (pc' : Nat) (hp : pc + 1 = pc') (K : OE p e R below s n0 Q T (mkF m pc' Ls (.long (x &&& z) :: st))) : OE p e R below s n0 Q T (mkF m pc Ls (.long z :: .long x :: st)) := by
  obtain ⟨hx, hZ, hown, hby, hmx, hret, hnm, hlk, h0, hT, locs, S, N⟩ := X; subst hp
  exact OE.by (fun t q => XT.land S.here hx rfl (hb hby hd) rfl q) K
theorem o_lmul (X : OW p l e R s m args below meth c Z y bytes mx ret n0 T h k n) {x z : Int64} (hd : decode bytes pc = .ok (.lmul, 1))  (pc' : Nat) (hp : pc + 1 = pc') (K : OE p e R below s n0 Q T (mkF m pc' Ls (.long (x * z) :: st))) : OE p e R below s n0 Q T (mkF m pc Ls (.long z :: .long x :: st)) := by
  obtain ⟨hx, hZ, hown, hby, hmx, hret, hnm, hlk, h0, hT, locs, S, N⟩ := X; subst hp
  exact OE.by (fun t q => XT.lmul S.here hx rfl (hb hby hd) rfl q) K
theorem o_lshl (X : OW p l e R s m args below meth c Z y bytes mx ret n0 T h k n) {x : Int64} {z : Int32} (hd : decode bytes pc = .ok (.lshl, 1))  (pc' : Nat) (hp : pc + 1 = pc') (K : OE p e R below s n0 Q T (mkF m pc' Ls (.long (x <<< (z.toInt64 &&& 63)) :: st))) : OE p e R below s n0 Q T (mkF m pc Ls (.int z :: .long x :: st)) := by
  obtain ⟨hx, hZ, hown, hby, hmx, hret, hnm, hlk, h0, hT, locs, S, N⟩ := X; subst hp
  exact OE.by (fun t q => XT.lshl S.here hx rfl (hb hby hd) rfl q) K
theorem o_lushr (X : OW p l e R s m args below meth c Z y bytes mx ret n0 T h k n) {x : Int64} {z : Int32} (hd : decode bytes pc = .ok (.lushr, 1))  (pc' : Nat) (hp : pc + 1 = pc') (K : OE p e R below s n0 Q T (mkF m pc' Ls (.long (XT.ushrL x z) :: st))) : OE p e R below s n0 Q T (mkF m pc Ls (.int z :: .long x :: st)) := by
  obtain ⟨hx, hZ, hown, hby, hmx, hret, hnm, hlk, h0, hT, locs, S, N⟩ := X; subst hp
  exact OE.by (fun t q => XT.lushr S.here hx rfl (hb hby hd) rfl q) K
theorem o_lcmp (X : OW p l e R s m args below meth c Z y bytes mx ret n0 T h k n) {x z : Int64} (hd : decode bytes pc = .ok (.lcmp, 1))  (pc' : Nat) (hp : pc + 1 = pc') (K : OE p e R below s n0 Q T (mkF m pc' Ls (.int (XT.cmpL x z) :: st))) : OE p e R below s n0 Q T (mkF m pc Ls (.long z :: .long x :: st)) := by
  obtain ⟨hx, hZ, hown, hby, hmx, hret, hnm, hlk, h0, hT, locs, S, N⟩ := X; subst hp
  exact OE.by (fun t q => XT.lcmp S.here hx rfl (hb hby hd) rfl q) K
theorem o_i2l (X : OW p l e R s m args below meth c Z y bytes mx ret n0 T h k n) {x : Int32} (hd : decode bytes pc = .ok (.i2l, 1))  (pc' : Nat) (hp : pc + 1 = pc') (K : OE p e R below s n0 Q T (mkF m pc' Ls (.long x.toInt64 :: st))) : OE p e R below s n0 Q T (mkF m pc Ls (.int x :: st)) := by
  obtain ⟨hx, hZ, hown, hby, hmx, hret, hnm, hlk, h0, hT, locs, S, N⟩ := X; subst hp
  exact OE.by (fun t q => XT.i2l S.here hx rfl (hb hby hd) rfl q) K
theorem o_l2i (X : OW p l e R s m args below meth c Z y bytes mx ret n0 T h k n) {x : Int64} (hd : decode bytes pc = .ok (.l2i, 1))  (pc' : Nat) (hp : pc + 1 = pc') (K : OE p e R below s n0 Q T (mkF m pc' Ls (.int x.toInt32 :: st))) : OE p e R below s n0 Q T (mkF m pc Ls (.long x :: st)) := by
  obtain ⟨hx, hZ, hown, hby, hmx, hret, hnm, hlk, h0, hT, locs, S, N⟩ := X; subst hp
  exact OE.by (fun t q => XT.l2i S.here hx rfl (hb hby hd) rfl q) K
theorem o_i2b (X : OW p l e R s m args below meth c Z y bytes mx ret n0 T h k n) {x : Int32} (hd : decode bytes pc = .ok (.i2b, 1))  (pc' : Nat) (hp : pc + 1 = pc') (K : OE p e R below s n0 Q T (mkF m pc' Ls (.int x.toInt8.toInt32 :: st))) : OE p e R below s n0 Q T (mkF m pc Ls (.int x :: st)) := by
  obtain ⟨hx, hZ, hown, hby, hmx, hret, hnm, hlk, h0, hT, locs, S, N⟩ := X; subst hp
  exact OE.by (fun t q => XT.i2b S.here hx rfl (hb hby hd) rfl q) K
theorem o_i2c (X : OW p l e R s m args below meth c Z y bytes mx ret n0 T h k n) {x : Int32} (hd : decode bytes pc = .ok (.i2c, 1))  (pc' : Nat) (hp : pc + 1 = pc') (K : OE p e R below s n0 Q T (mkF m pc' Ls (.int x.toUInt32.toUInt16.toUInt32.toInt32 :: st))) : OE p e R below s n0 Q T (mkF m pc Ls (.int x :: st)) := by
  obtain ⟨hx, hZ, hown, hby, hmx, hret, hnm, hlk, h0, hT, locs, S, N⟩ := X; subst hp
  exact OE.by (fun t q => XT.i2c S.here hx rfl (hb hby hd) rfl q) K
theorem o_dup (X : OW p l e R s m args below meth c Z y bytes mx ret n0 T h k n) {v : Value} (hd : decode bytes pc = .ok (.dup, 1)) (hc : v.category = 1) (pc' : Nat) (hp : pc + 1 = pc') (K : OE p e R below s n0 Q T (mkF m pc' Ls (v :: v :: st))) : OE p e R below s n0 Q T (mkF m pc Ls (v :: st)) := by
  obtain ⟨hx, hZ, hown, hby, hmx, hret, hnm, hlk, h0, hT, locs, S, N⟩ := X; subst hp
  exact OE.by (fun t q => XS.dup S.here hx rfl (hb hby hd) rfl hc q) K
theorem o_pop (X : OW p l e R s m args below meth c Z y bytes mx ret n0 T h k n) {v : Value} (hd : decode bytes pc = .ok (.pop, 1)) (hc : v.category = 1) (pc' : Nat) (hp : pc + 1 = pc') (K : OE p e R below s n0 Q T (mkF m pc' Ls st)) : OE p e R below s n0 Q T (mkF m pc Ls (v :: st)) := by
  obtain ⟨hx, hZ, hown, hby, hmx, hret, hnm, hlk, h0, hT, locs, S, N⟩ := X; subst hp
  exact OE.by (fun t q => XT.pop S.here hx rfl (hb hby hd) rfl hc q) K
theorem o_dupX1 (X : OW p l e R s m args below meth c Z y bytes mx ret n0 T h k n) {v w : Value} (hd : decode bytes pc = .ok (.dup_x1, 1)) (hc : v.category = 1) (hc' : w.category = 1) (pc' : Nat) (hp : pc + 1 = pc') (K : OE p e R below s n0 Q T (mkF m pc' Ls (v :: w :: v :: st))) : OE p e R below s n0 Q T (mkF m pc Ls (v :: w :: st)) := by
  obtain ⟨hx, hZ, hown, hby, hmx, hret, hnm, hlk, h0, hT, locs, S, N⟩ := X; subst hp
  exact OE.by (fun t q => XT.dupX1 S.here hx rfl (hb hby hd) rfl hc hc' q) K
theorem o_dup2 (X : OW p l e R s m args below meth c Z y bytes mx ret n0 T h k n) {v w : Value} (hd : decode bytes pc = .ok (.dup2, 1)) (hc : v.category = 1) (hc' : w.category = 1) (pc' : Nat) (hp : pc + 1 = pc') (K : OE p e R below s n0 Q T (mkF m pc' Ls (v :: w :: v :: w :: st))) : OE p e R below s n0 Q T (mkF m pc Ls (v :: w :: st)) := by
  obtain ⟨hx, hZ, hown, hby, hmx, hret, hnm, hlk, h0, hT, locs, S, N⟩ := X; subst hp
  exact OE.by (fun t q => XT.dup2 S.here hx rfl (hb hby hd) rfl hc hc' q) K
theorem o_istoreN (X : OW p l e R s m args below meth c Z y bytes mx ret n0 T h k n) {j : Fin 4} {v : Int32} (hd : decode bytes pc = .ok (.istore_n j, 1)) (Ls' : Array Slot) (hl : storeLocals Ls j.val (.int v) = some Ls') (pc' : Nat) (hp : pc + 1 = pc') (K : OE p e R below s n0 Q T (mkF m pc' Ls' st)) : OE p e R below s n0 Q T (mkF m pc Ls (.int v :: st)) := by
  obtain ⟨hx, hZ, hown, hby, hmx, hret, hnm, hlk, h0, hT, locs, S, N⟩ := X; subst hp
  exact OE.by (fun t q => XS.istoreN S.here hx rfl (hb hby hd) rfl hl q) K
theorem o_istore (X : OW p l e R s m args below meth c Z y bytes mx ret n0 T h k n) {j : Nat} {v : Int32} (hd : decode bytes pc = .ok (.istore j, 2)) (Ls' : Array Slot) (hl : storeLocals Ls j (.int v) = some Ls') (pc' : Nat) (hp : pc + 2 = pc') (K : OE p e R below s n0 Q T (mkF m pc' Ls' st)) : OE p e R below s n0 Q T (mkF m pc Ls (.int v :: st)) := by
  obtain ⟨hx, hZ, hown, hby, hmx, hret, hnm, hlk, h0, hT, locs, S, N⟩ := X; subst hp
  exact OE.by (fun t q => XS.istore S.here hx rfl (hb hby hd) rfl hl q) K
theorem o_lstoreN (X : OW p l e R s m args below meth c Z y bytes mx ret n0 T h k n) {j : Fin 4} {v : Int64} (hd : decode bytes pc = .ok (.lstore_n j, 1)) (Ls' : Array Slot) (hl : storeLocals Ls j.val (.long v) = some Ls') (pc' : Nat) (hp : pc + 1 = pc') (K : OE p e R below s n0 Q T (mkF m pc' Ls' st)) : OE p e R below s n0 Q T (mkF m pc Ls (.long v :: st)) := by
  obtain ⟨hx, hZ, hown, hby, hmx, hret, hnm, hlk, h0, hT, locs, S, N⟩ := X; subst hp
  exact OE.by (fun t q => XT.lstoreN S.here hx rfl (hb hby hd) rfl hl q) K
theorem o_lstore (X : OW p l e R s m args below meth c Z y bytes mx ret n0 T h k n) {j : Nat} {v : Int64} (hd : decode bytes pc = .ok (.lstore j, 2)) (Ls' : Array Slot) (hl : storeLocals Ls j (.long v) = some Ls') (pc' : Nat) (hp : pc + 2 = pc') (K : OE p e R below s n0 Q T (mkF m pc' Ls' st)) : OE p e R below s n0 Q T (mkF m pc Ls (.long v :: st)) := by
  obtain ⟨hx, hZ, hown, hby, hmx, hret, hnm, hlk, h0, hT, locs, S, N⟩ := X; subst hp
  exact OE.by (fun t q => XT.lstore S.here hx rfl (hb hby hd) rfl hl q) K
theorem o_astoreN (X : OW p l e R s m args below meth c Z y bytes mx ret n0 T h k n) {j : Fin 4} {v : Value} (hd : decode bytes pc = .ok (.astore_n j, 1)) (hv : v.isRef = true) (Ls' : Array Slot) (hl : storeLocals Ls j.val v = some Ls') (pc' : Nat) (hp : pc + 1 = pc') (K : OE p e R below s n0 Q T (mkF m pc' Ls' st)) : OE p e R below s n0 Q T (mkF m pc Ls (v :: st)) := by
  obtain ⟨hx, hZ, hown, hby, hmx, hret, hnm, hlk, h0, hT, locs, S, N⟩ := X; subst hp
  exact OE.by (fun t q => XS.astoreN S.here hx rfl (hb hby hd) rfl hv hl q) K
theorem o_astore (X : OW p l e R s m args below meth c Z y bytes mx ret n0 T h k n) {j : Nat} {v : Value} (hd : decode bytes pc = .ok (.astore j, 2)) (hv : v.isRef = true) (Ls' : Array Slot) (hl : storeLocals Ls j v = some Ls') (pc' : Nat) (hp : pc + 2 = pc') (K : OE p e R below s n0 Q T (mkF m pc' Ls' st)) : OE p e R below s n0 Q T (mkF m pc Ls (v :: st)) := by
  obtain ⟨hx, hZ, hown, hby, hmx, hret, hnm, hlk, h0, hT, locs, S, N⟩ := X; subst hp
  exact OE.by (fun t q => XS.astore S.here hx rfl (hb hby hd) rfl hv hl q) K
theorem o_iinc (X : OW p l e R s m args below meth c Z y bytes mx ret n0 T h k n) {j : Nat} {i : Int} {v w : Int32} (hd : decode bytes pc = .ok (.iinc j i, 3)) (hg : Ls[j]? = some (.val (.int v))) (hw : v + Int32.ofInt i = w) (Ls' : Array Slot) (hl : storeLocals Ls j (.int w) = some Ls') (pc' : Nat) (hp : pc + 3 = pc') (K : OE p e R below s n0 Q T (mkF m pc' Ls' st)) : OE p e R below s n0 Q T (mkF m pc Ls st) := by
  obtain ⟨hx, hZ, hown, hby, hmx, hret, hnm, hlk, h0, hT, locs, S, N⟩ := X; subst hp hw
  exact OE.by (fun t q => XS.iinc S.here hx rfl (hb hby hd) hg hl q) K
theorem o_goto (X : OW p l e R s m args below meth c Z y bytes mx ret n0 T h k n) {o : Int} (hd : decode bytes pc = .ok (.goto o, 3)) (pc' : Nat) (ho : 0 ≤ (pc : Int) + o) (hp : ((pc : Int) + o).toNat = pc') (K : OE p e R below s n0 Q T (mkF m pc' Ls st)) : OE p e R below s n0 Q T (mkF m pc Ls st) := by
  obtain ⟨hx, hZ, hown, hby, hmx, hret, hnm, hlk, h0, hT, locs, S, N⟩ := X
  exact OE.by (fun t q => XS.goto S.here hx rfl rfl (hb hby hd) ho hp q) K
theorem o_icmpEq (X : OW p l e R s m args below meth c Z y bytes mx ret n0 T h k n) {o : Int} {x z : Int32} (hd : decode bytes pc = .ok (.if_icmp .eq o, 3)) (pcT pcF : Nat) (ho : 0 ≤ (pc : Int) + o) (hT : ((pc : Int) + o).toNat = pcT) (hF : pc + 3 = pcF) (KT : x = z → OE p e R below s n0 Q T (mkF m pcT Ls st)) (KF : ¬ x = z → OE p e R below s n0 Q T (mkF m pcF Ls st)) : OE p e R below s n0 Q T (mkF m pc Ls (.int z :: .int x :: st)) := by
  obtain ⟨hx, hZ, hown, hby, hmx, hret, hnm, hlk, h0, hT', locs, S, N⟩ := X; subst hF
  by_cases q : x = z
  · exact OE.by (fun t r => XS.icmpYes S.here hx rfl rfl (hb hby hd) rfl ((teq q).1) ho hT r) (KT q)
  · exact OE.by (fun t r => XS.icmpNo S.here hx rfl (hb hby hd) rfl ((feq q).1) r) (KF q)
theorem o_ifEq (X : OW p l e R s m args below meth c Z y bytes mx ret n0 T h k n) {o : Int} {x : Int32} (hd : decode bytes pc = .ok (.ifCond .eq o, 3)) (pcT pcF : Nat) (ho : 0 ≤ (pc : Int) + o) (hT : ((pc : Int) + o).toNat = pcT) (hF : pc + 3 = pcF) (KT : x = 0 → OE p e R below s n0 Q T (mkF m pcT Ls st)) (KF : ¬ x = 0 → OE p e R below s n0 Q T (mkF m pcF Ls st)) : OE p e R below s n0 Q T (mkF m pc Ls (.int x :: st)) := by
  obtain ⟨hx, hZ, hown, hby, hmx, hret, hnm, hlk, h0, hT', locs, S, N⟩ := X; subst hF
  by_cases q : x = 0
  · exact OE.by (fun t r => XS.ifYes S.here hx rfl rfl (hb hby hd) rfl ((if0 _ _).trans (teq q).1) ho hT r) (KT q)
  · exact OE.by (fun t r => XS.ifNo S.here hx rfl (hb hby hd) rfl ((if0 _ _).trans (feq q).1) r) (KF q)
theorem o_icmpNe (X : OW p l e R s m args below meth c Z y bytes mx ret n0 T h k n) {o : Int} {x z : Int32} (hd : decode bytes pc = .ok (.if_icmp .ne o, 3)) (pcT pcF : Nat) (ho : 0 ≤ (pc : Int) + o) (hT : ((pc : Int) + o).toNat = pcT) (hF : pc + 3 = pcF) (KT : ¬ x = z → OE p e R below s n0 Q T (mkF m pcT Ls st)) (KF : x = z → OE p e R below s n0 Q T (mkF m pcF Ls st)) : OE p e R below s n0 Q T (mkF m pc Ls (.int z :: .int x :: st)) := by
  obtain ⟨hx, hZ, hown, hby, hmx, hret, hnm, hlk, h0, hT', locs, S, N⟩ := X; subst hF
  by_cases q : x = z
  · exact OE.by (fun t r => XS.icmpNo S.here hx rfl (hb hby hd) rfl ((teq q).2) r) (KF q)
  · exact OE.by (fun t r => XS.icmpYes S.here hx rfl rfl (hb hby hd) rfl ((feq q).2) ho hT r) (KT q)
theorem o_ifNe (X : OW p l e R s m args below meth c Z y bytes mx ret n0 T h k n) {o : Int} {x : Int32} (hd : decode bytes pc = .ok (.ifCond .ne o, 3)) (pcT pcF : Nat) (ho : 0 ≤ (pc : Int) + o) (hT : ((pc : Int) + o).toNat = pcT) (hF : pc + 3 = pcF) (KT : ¬ x = 0 → OE p e R below s n0 Q T (mkF m pcT Ls st)) (KF : x = 0 → OE p e R below s n0 Q T (mkF m pcF Ls st)) : OE p e R below s n0 Q T (mkF m pc Ls (.int x :: st)) := by
  obtain ⟨hx, hZ, hown, hby, hmx, hret, hnm, hlk, h0, hT', locs, S, N⟩ := X; subst hF
  by_cases q : x = 0
  · exact OE.by (fun t r => XS.ifNo S.here hx rfl (hb hby hd) rfl ((if0 _ _).trans (teq q).2) r) (KF q)
  · exact OE.by (fun t r => XS.ifYes S.here hx rfl rfl (hb hby hd) rfl ((if0 _ _).trans (feq q).2) ho hT r) (KT q)
theorem o_icmpLt (X : OW p l e R s m args below meth c Z y bytes mx ret n0 T h k n) {o : Int} {x z : Int32} (hd : decode bytes pc = .ok (.if_icmp .lt o, 3)) (pcT pcF : Nat) (ho : 0 ≤ (pc : Int) + o) (hT : ((pc : Int) + o).toNat = pcT) (hF : pc + 3 = pcF) (KT : x < z → OE p e R below s n0 Q T (mkF m pcT Ls st)) (KF : ¬ x < z → OE p e R below s n0 Q T (mkF m pcF Ls st)) : OE p e R below s n0 Q T (mkF m pc Ls (.int z :: .int x :: st)) := by
  obtain ⟨hx, hZ, hown, hby, hmx, hret, hnm, hlk, h0, hT', locs, S, N⟩ := X; subst hF
  by_cases q : x < z
  · exact OE.by (fun t r => XS.icmpYes S.here hx rfl rfl (hb hby hd) rfl ((tlt q).1) ho hT r) (KT q)
  · exact OE.by (fun t r => XS.icmpNo S.here hx rfl (hb hby hd) rfl ((flt q).1) r) (KF q)
theorem o_ifLt (X : OW p l e R s m args below meth c Z y bytes mx ret n0 T h k n) {o : Int} {x : Int32} (hd : decode bytes pc = .ok (.ifCond .lt o, 3)) (pcT pcF : Nat) (ho : 0 ≤ (pc : Int) + o) (hT : ((pc : Int) + o).toNat = pcT) (hF : pc + 3 = pcF) (KT : x < 0 → OE p e R below s n0 Q T (mkF m pcT Ls st)) (KF : ¬ x < 0 → OE p e R below s n0 Q T (mkF m pcF Ls st)) : OE p e R below s n0 Q T (mkF m pc Ls (.int x :: st)) := by
  obtain ⟨hx, hZ, hown, hby, hmx, hret, hnm, hlk, h0, hT', locs, S, N⟩ := X; subst hF
  by_cases q : x < 0
  · exact OE.by (fun t r => XS.ifYes S.here hx rfl rfl (hb hby hd) rfl ((if0 _ _).trans (tlt q).1) ho hT r) (KT q)
  · exact OE.by (fun t r => XS.ifNo S.here hx rfl (hb hby hd) rfl ((if0 _ _).trans (flt q).1) r) (KF q)
theorem o_icmpGe (X : OW p l e R s m args below meth c Z y bytes mx ret n0 T h k n) {o : Int} {x z : Int32} (hd : decode bytes pc = .ok (.if_icmp .ge o, 3)) (pcT pcF : Nat) (ho : 0 ≤ (pc : Int) + o) (hT : ((pc : Int) + o).toNat = pcT) (hF : pc + 3 = pcF) (KT : ¬ x < z → OE p e R below s n0 Q T (mkF m pcT Ls st)) (KF : x < z → OE p e R below s n0 Q T (mkF m pcF Ls st)) : OE p e R below s n0 Q T (mkF m pc Ls (.int z :: .int x :: st)) := by
  obtain ⟨hx, hZ, hown, hby, hmx, hret, hnm, hlk, h0, hT', locs, S, N⟩ := X; subst hF
  by_cases q : x < z
  · exact OE.by (fun t r => XS.icmpNo S.here hx rfl (hb hby hd) rfl ((tlt q).2.1) r) (KF q)
  · exact OE.by (fun t r => XS.icmpYes S.here hx rfl rfl (hb hby hd) rfl ((flt q).2.1) ho hT r) (KT q)
theorem o_ifGe (X : OW p l e R s m args below meth c Z y bytes mx ret n0 T h k n) {o : Int} {x : Int32} (hd : decode bytes pc = .ok (.ifCond .ge o, 3)) (pcT pcF : Nat) (ho : 0 ≤ (pc : Int) + o) (hT : ((pc : Int) + o).toNat = pcT) (hF : pc + 3 = pcF) (KT : ¬ x < 0 → OE p e R below s n0 Q T (mkF m pcT Ls st)) (KF : x < 0 → OE p e R below s n0 Q T (mkF m pcF Ls st)) : OE p e R below s n0 Q T (mkF m pc Ls (.int x :: st)) := by
  obtain ⟨hx, hZ, hown, hby, hmx, hret, hnm, hlk, h0, hT', locs, S, N⟩ := X; subst hF
  by_cases q : x < 0
  · exact OE.by (fun t r => XS.ifNo S.here hx rfl (hb hby hd) rfl ((if0 _ _).trans (tlt q).2.1) r) (KF q)
  · exact OE.by (fun t r => XS.ifYes S.here hx rfl rfl (hb hby hd) rfl ((if0 _ _).trans (flt q).2.1) ho hT r) (KT q)
theorem o_icmpGt (X : OW p l e R s m args below meth c Z y bytes mx ret n0 T h k n) {o : Int} {x z : Int32} (hd : decode bytes pc = .ok (.if_icmp .gt o, 3)) (pcT pcF : Nat) (ho : 0 ≤ (pc : Int) + o) (hT : ((pc : Int) + o).toNat = pcT) (hF : pc + 3 = pcF) (KT : z < x → OE p e R below s n0 Q T (mkF m pcT Ls st)) (KF : ¬ z < x → OE p e R below s n0 Q T (mkF m pcF Ls st)) : OE p e R below s n0 Q T (mkF m pc Ls (.int z :: .int x :: st)) := by
  obtain ⟨hx, hZ, hown, hby, hmx, hret, hnm, hlk, h0, hT', locs, S, N⟩ := X; subst hF
  by_cases q : z < x
  · exact OE.by (fun t r => XS.icmpYes S.here hx rfl rfl (hb hby hd) rfl ((tlt q).2.2.1) ho hT r) (KT q)
  · exact OE.by (fun t r => XS.icmpNo S.here hx rfl (hb hby hd) rfl ((flt q).2.2.1) r) (KF q)
theorem o_ifGt (X : OW p l e R s m args below meth c Z y bytes mx ret n0 T h k n) {o : Int} {x : Int32} (hd : decode bytes pc = .ok (.ifCond .gt o, 3)) (pcT pcF : Nat) (ho : 0 ≤ (pc : Int) + o) (hT : ((pc : Int) + o).toNat = pcT) (hF : pc + 3 = pcF) (KT : 0 < x → OE p e R below s n0 Q T (mkF m pcT Ls st)) (KF : ¬ 0 < x → OE p e R below s n0 Q T (mkF m pcF Ls st)) : OE p e R below s n0 Q T (mkF m pc Ls (.int x :: st)) := by
  obtain ⟨hx, hZ, hown, hby, hmx, hret, hnm, hlk, h0, hT', locs, S, N⟩ := X; subst hF
  by_cases q : 0 < x
  · exact OE.by (fun t r => XS.ifYes S.here hx rfl rfl (hb hby hd) rfl ((if0 _ _).trans (tlt q).2.2.1) ho hT r) (KT q)
  · exact OE.by (fun t r => XS.ifNo S.here hx rfl (hb hby hd) rfl ((if0 _ _).trans (flt q).2.2.1) r) (KF q)
theorem o_icmpLe (X : OW p l e R s m args below meth c Z y bytes mx ret n0 T h k n) {o : Int} {x z : Int32} (hd : decode bytes pc = .ok (.if_icmp .le o, 3)) (pcT pcF : Nat) (ho : 0 ≤ (pc : Int) + o) (hT : ((pc : Int) + o).toNat = pcT) (hF : pc + 3 = pcF) (KT : ¬ z < x → OE p e R below s n0 Q T (mkF m pcT Ls st)) (KF : z < x → OE p e R below s n0 Q T (mkF m pcF Ls st)) : OE p e R below s n0 Q T (mkF m pc Ls (.int z :: .int x :: st)) := by
  obtain ⟨hx, hZ, hown, hby, hmx, hret, hnm, hlk, h0, hT', locs, S, N⟩ := X; subst hF
  by_cases q : z < x
  · exact OE.by (fun t r => XS.icmpNo S.here hx rfl (hb hby hd) rfl ((tlt q).2.2.2) r) (KF q)
  · exact OE.by (fun t r => XS.icmpYes S.here hx rfl rfl (hb hby hd) rfl ((flt q).2.2.2) ho hT r) (KT q)
theorem o_ifLe (X : OW p l e R s m args below meth c Z y bytes mx ret n0 T h k n) {o : Int} {x : Int32} (hd : decode bytes pc = .ok (.ifCond .le o, 3)) (pcT pcF : Nat) (ho : 0 ≤ (pc : Int) + o) (hT : ((pc : Int) + o).toNat = pcT) (hF : pc + 3 = pcF) (KT : ¬ 0 < x → OE p e R below s n0 Q T (mkF m pcT Ls st)) (KF : 0 < x → OE p e R below s n0 Q T (mkF m pcF Ls st)) : OE p e R below s n0 Q T (mkF m pc Ls (.int x :: st)) := by
  obtain ⟨hx, hZ, hown, hby, hmx, hret, hnm, hlk, h0, hT', locs, S, N⟩ := X; subst hF
  by_cases q : 0 < x
  · exact OE.by (fun t r => XS.ifNo S.here hx rfl (hb hby hd) rfl ((if0 _ _).trans (tlt q).2.2.2) r) (KF q)
  · exact OE.by (fun t r => XS.ifYes S.here hx rfl rfl (hb hby hd) rfl ((if0 _ _).trans (flt q).2.2.2) ho hT r) (KT q)
theorem o_ifnullR (X : OW p l e R s m args below meth c Z y bytes mx ret n0 T h k n) {o : Int} {a : Addr} (hd : decode bytes pc = .ok (.ifnull o, 3)) (pc' : Nat) (hp : pc + 3 = pc') (K : OE p e R below s n0 Q T (mkF m pc' Ls st)) : OE p e R below s n0 Q T (mkF m pc Ls (.ref a :: st)) := by
  obtain ⟨hx, hZ, hown, hby, hmx, hret, hnm, hlk, h0, hT, locs, S, N⟩ := X; subst hp
  exact OE.by (fun t q => XS.ifnullNo S.here hx rfl (hb hby hd) rfl q) K
theorem o_ifnonnullR (X : OW p l e R s m args below meth c Z y bytes mx ret n0 T h k n) {o : Int} {a : Addr} (hd : decode bytes pc = .ok (.ifnonnull o, 3)) (pc' : Nat) (ho : 0 ≤ (pc : Int) + o) (hp : ((pc : Int) + o).toNat = pc') (K : OE p e R below s n0 Q T (mkF m pc' Ls st)) : OE p e R below s n0 Q T (mkF m pc Ls (.ref a :: st)) := by
  obtain ⟨hx, hZ, hown, hby, hmx, hret, hnm, hlk, h0, hT, locs, S, N⟩ := X
  exact OE.by (fun t q => XT.ifnonnullYes S.here hx rfl rfl (hb hby hd) rfl ho hp q) K
theorem o_acmpEqN (X : OW p l e R s m args below meth c Z y bytes mx ret n0 T h k n) {o : Int} {a b : Addr} (hd : decode bytes pc = .ok (.if_acmp .eq o, 3)) (hab : a ≠ b) (pc' : Nat) (hp : pc + 3 = pc') (K : OE p e R below s n0 Q T (mkF m pc' Ls st)) : OE p e R below s n0 Q T (mkF m pc Ls (.ref b :: .ref a :: st)) := by
  obtain ⟨hx, hZ, hown, hby, hmx, hret, hnm, hlk, h0, hT, locs, S, N⟩ := X; subst hp
  exact OE.by (fun t q => XT.acmpNo S.here hx rfl (hb hby hd) rfl rfl rfl (decide_eq_false fun r => hab (Value.ref.inj r)) q) K
theorem o_acmpNeY (X : OW p l e R s m args below meth c Z y bytes mx ret n0 T h k n) {o : Int} {a b : Addr} (hd : decode bytes pc = .ok (.if_acmp .ne o, 3)) (hab : a ≠ b) (pc' : Nat) (ho : 0 ≤ (pc : Int) + o) (hp : ((pc : Int) + o).toNat = pc') (K : OE p e R below s n0 Q T (mkF m pc' Ls st)) : OE p e R below s n0 Q T (mkF m pc Ls (.ref b :: .ref a :: st)) := by
  obtain ⟨hx, hZ, hown, hby, hmx, hret, hnm, hlk, h0, hT, locs, S, N⟩ := X
  exact OE.by (fun t q => XT.acmpYes S.here hx rfl rfl (hb hby hd) rfl rfl rfl (decide_eq_true fun r => hab (Value.ref.inj r)) ho hp q) K
theorem o_ldc (X : OW p l e R s m args below meth c Z y bytes mx ret n0 T h k n) {i : Nat} {v : Int32} (hd : decode bytes pc = .ok (.ldc i, 2)) (w : (Cond.constant y.cls i v).before a0 Z = true) (pc' : Nat) (hp : pc + 2 = pc') (K : OE p e R below s n0 Q T (mkF m pc' Ls (.int v :: st))) : OE p e R below s n0 Q T (mkF m pc Ls st) := by
  obtain ⟨hx, hZ, hown, hby, hmx, hret, hnm, hlk, h0, hT, locs, S, N⟩ := X; subst hp
  exact OE.by (fun t q => S.ldcInt hx hown (mvT hZ w) (g := mkF m pc Ls st) rfl (hb hby hd) t q) K
theorem o_ldc2L (X : OW p l e R s m args below meth c Z y bytes mx ret n0 T h k n) {i : Nat} {v : Int64} (hd : decode bytes pc = .ok (.ldc2_w i, 3)) (w : (Cond.constantLong y.cls i v).before a0 Z = true) (pc' : Nat) (hp : pc + 3 = pc') (K : OE p e R below s n0 Q T (mkF m pc' Ls (.long v :: st))) : OE p e R below s n0 Q T (mkF m pc Ls st) := by
  obtain ⟨hx, hZ, hown, hby, hmx, hret, hnm, hlk, h0, hT, locs, S, N⟩ := X; subst hp
  exact OE.by (fun t q => S.ldc2Long hx hown (mvT hZ w) (g := mkF m pc Ls st) rfl (hb hby hd) t q) K
theorem o_retZ (X : OW p l e R s m args below meth c Z y bytes mx (some .boolean) n0 T h k n) {z : Int32} (hd : decode bytes pc = .ok (.ireturn, 1)) (hk : k ≤ R.cells) (hn : n ≤ R.slots) (hq : Q (some (.int (nar .boolean z))) h) : OE p e R below s n0 Q T (mkF m pc Ls (.int z :: st)) := by
  obtain ⟨hx, hZ, hown, hby, hmx, hret, hnm, hlk, h0, hT, locs, S, N⟩ := X
  obtain ⟨fs, hr, hrun, hended, hW, hsame⟩ := S.leave (v := some (.int (nar .boolean z))) (fun q => by rw [hret] at q; cases q) hlk
  exact ⟨_, _, retN S hx (t := .boolean) hret (by simp) (hb hby hd) hr, hrun, hended, _, _, rfl, ⟨by show Q _ T.heap; rw [hT]; exact hq, N⟩, ⟨_, rfl⟩, hW, hsame.mono hk hn⟩
theorem o_retB (X : OW p l e R s m args below meth c Z y bytes mx (some .byte) n0 T h k n) {z : Int32} (hd : decode bytes pc = .ok (.ireturn, 1)) (hk : k ≤ R.cells) (hn : n ≤ R.slots) (hq : Q (some (.int (nar .byte z))) h) : OE p e R below s n0 Q T (mkF m pc Ls (.int z :: st)) := by
  obtain ⟨hx, hZ, hown, hby, hmx, hret, hnm, hlk, h0, hT, locs, S, N⟩ := X
  obtain ⟨fs, hr, hrun, hended, hW, hsame⟩ := S.leave (v := some (.int (nar .byte z))) (fun q => by rw [hret] at q; cases q) hlk
  exact ⟨_, _, retN S hx (t := .byte) hret (by simp) (hb hby hd) hr, hrun, hended, _, _, rfl, ⟨by show Q _ T.heap; rw [hT]; exact hq, N⟩, ⟨_, rfl⟩, hW, hsame.mono hk hn⟩
theorem o_retC (X : OW p l e R s m args below meth c Z y bytes mx (some .char) n0 T h k n) {z : Int32} (hd : decode bytes pc = .ok (.ireturn, 1)) (hk : k ≤ R.cells) (hn : n ≤ R.slots) (hq : Q (some (.int (nar .char z))) h) : OE p e R below s n0 Q T (mkF m pc Ls (.int z :: st)) := by
  obtain ⟨hx, hZ, hown, hby, hmx, hret, hnm, hlk, h0, hT, locs, S, N⟩ := X
  obtain ⟨fs, hr, hrun, hended, hW, hsame⟩ := S.leave (v := some (.int (nar .char z))) (fun q => by rw [hret] at q; cases q) hlk
  exact ⟨_, _, retN S hx (t := .char) hret (by simp) (hb hby hd) hr, hrun, hended, _, _, rfl, ⟨by show Q _ T.heap; rw [hT]; exact hq, N⟩, ⟨_, rfl⟩, hW, hsame.mono hk hn⟩
theorem o_retI (X : OW p l e R s m args below meth c Z y bytes mx (some .int) n0 T h k n) {z : Int32} (hd : decode bytes pc = .ok (.ireturn, 1)) (hk : k ≤ R.cells) (hn : n ≤ R.slots) (hq : Q (some (.int z)) h) : OE p e R below s n0 Q T (mkF m pc Ls (.int z :: st)) := by
  obtain ⟨hx, hZ, hown, hby, hmx, hret, hnm, hlk, h0, hT, locs, S, N⟩ := X
  obtain ⟨fs, hr, hrun, hended, hW, hsame⟩ := S.leave (v := some (.int z)) (fun q => by rw [hret] at q; cases q) hlk
  exact ⟨_, _, retOut S hx hret rfl (Or.inl ⟨rfl, Or.inl rfl, z, rfl⟩) (hb hby hd) hr, hrun, hended, _, _, rfl, ⟨by show Q _ T.heap; rw [hT]; exact hq, N⟩, ⟨_, rfl⟩, hW, hsame.mono hk hn⟩
theorem o_retJ (X : OW p l e R s m args below meth c Z y bytes mx (some .long) n0 T h k n) {z : Int64} (hd : decode bytes pc = .ok (.lreturn, 1)) (hk : k ≤ R.cells) (hn : n ≤ R.slots) (hq : Q (some (.long z)) h) : OE p e R below s n0 Q T (mkF m pc Ls (.long z :: st)) := by
  obtain ⟨hx, hZ, hown, hby, hmx, hret, hnm, hlk, h0, hT, locs, S, N⟩ := X
  obtain ⟨fs, hr, hrun, hended, hW, hsame⟩ := S.leave (v := some (.long z)) (fun q => by rw [hret] at q; cases q) hlk
  exact ⟨_, _, retOut S hx hret rfl (Or.inr (Or.inl ⟨rfl, rfl, z, rfl⟩)) (hb hby hd) hr, hrun, hended, _, _, rfl, ⟨by show Q _ T.heap; rw [hT]; exact hq, N⟩, ⟨_, rfl⟩, hW, hsame.mono hk hn⟩
theorem o_retA {ty : FieldType} (X : OW p l e R s m args below meth c Z y bytes mx (some ty) n0 T h k n) (hty : ty.isReference = true) {a : Addr} (hnar : narrow ty (.ref a) = .ref a) (hd : decode bytes pc = .ok (.areturn, 1)) (hk : k ≤ R.cells) (hn : n ≤ R.slots) (hq : Q (some (.ref a)) h) : OE p e R below s n0 Q T (mkF m pc Ls (.ref a :: st)) := by
  obtain ⟨hx, hZ, hown, hby, hmx, hret, hnm, hlk, h0, hT, locs, S, N⟩ := X
  obtain ⟨fs, hr, hrun, hended, hW, hsame⟩ := S.leave (v := some (.ref a)) (fun q => by rw [hret] at q; cases q) hlk
  exact ⟨_, _, retOut S hx hret hnar (Or.inr (Or.inr (Or.inr (Or.inr ⟨rfl, hty, rfl⟩)))) (hb hby hd) hr, hrun, hended, _, _, rfl, ⟨by show Q _ T.heap; rw [hT]; exact hq, N⟩, ⟨_, rfl⟩, hW, hsame.mono hk hn⟩
theorem o_ret (X : OW p l e R s m args below meth c Z y bytes mx none n0 T h k n) (hd : decode bytes pc = .ok (.return_, 1)) (hk : k ≤ R.cells) (hn : n ≤ R.slots) (hq : Q none h) : OE p e R below s n0 Q T (mkF m pc Ls []) := by
  obtain ⟨hx, hZ, hown, hby, hmx, hret, hnm, hlk, h0, hT, locs, S, N⟩ := X
  obtain ⟨fs, hr, hrun, hended, hW, hsame⟩ := S.leave (v := none) (fun _ => rfl) hlk
  exact ⟨_, _, S.returnOut hx hret (hb hby hd) hr, hrun, hended, _, _, rfl, ⟨by show Q _ T.heap; rw [hT]; exact hq, N⟩, ⟨_, rfl⟩, hW, hsame.mono hk hn⟩
/-! the heap: a list of places, each with what its cell says -/
def OA (Z : State) (ty : FieldType) (vs : List Int32) (c : Cell) : Prop := Z.isArrayOf c ty ∧ c.vm ≠ .unknown ∧ c.slots = (vs.map Value.int).toArray ∧ (∀ x ∈ vs, fits ty (.int x) = true) ∧ Z.vm.findClass ("[" ++ ty.toString) = some c.cls
def OL (n0 : Nat) (h : Heap) (L : List (Addr × (Cell → Prop))) : Prop := (L.map (·.1)).Nodup ∧ ∀ q ∈ L, n0 ≤ q.1 ∧ ∃ c : Cell, h[q.1]? = some c ∧ q.2 c
variable {L : List (Addr × (Cell → Prop))} {h' : Heap} {a : Addr} {ty : FieldType} {vs : List Int32} {PP : Cell → Prop}
theorem OL.nil : OL n0 h [] := ⟨List.nodup_nil, fun _ q => nomatch q⟩
theorem OL.ext (H : OL n0 h L) (E : Ext h h') : OL n0 h' L := ⟨H.1, fun q hq => by obtain ⟨h1, c, h2, h3⟩ := H.2 q hq; exact ⟨h1, c, E.2 _ _ h2, h3⟩⟩
theorem OL.lt (H : OL n0 h L) {q : Addr × (Cell → Prop)} (hq : q ∈ L) : q.1 < h.size := by obtain ⟨-, c, h2, -⟩ := H.2 q hq; exact (Array.getElem?_eq_some_iff.mp h2).1
theorem OL.push (H : OL n0 h L) (E : Ext h h') (h0 : n0 ≤ h.size) {c : Cell} (hc : h'[h.size]? = some c) (hp : PP c) : OL n0 h' ((h.size, PP) :: L) := by
  refine ⟨?_, fun q hq => ?_⟩
  · rw [List.map_cons, List.nodup_cons]
    refine ⟨fun hx => ?_, H.1⟩
    obtain ⟨q, hq, e⟩ := List.mem_map.mp hx
    have e' : q.1 = h.size := e
    exact absurd (H.lt hq) (by rw [e']; exact Nat.lt_irrefl _)
  · rcases List.mem_cons.mp hq with hq | hq
    · cases hq; exact ⟨h0, c, hc, hp⟩
    · exact (H.ext E).2 q hq
theorem OL.perm {L' : List (Addr × (Cell → Prop))} (H : OL n0 h L) (q : L.Perm L') : OL n0 h L' := ⟨(q.map (·.1)).nodup_iff.mp H.1, fun z hz => H.2 z (q.mem_iff.mpr hz)⟩
/-- the i-th place comes to the front -/
theorem OL.front (H : OL n0 h L) (i : Nat) {q : Addr × (Cell → Prop)} (hi : L[i]? = some q) : OL n0 h (q :: L.eraseIdx i) := by
  obtain ⟨hl, e⟩ := List.getElem?_eq_some_iff.mp hi
  refine H.perm ?_
  have e1 : L = L.take i ++ q :: L.drop (i + 1) := by rw [← e, List.getElem_cons_drop]; exact (List.take_append_drop i L).symm
  have e2 : L.eraseIdx i = L.take i ++ L.drop (i + 1) := List.eraseIdx_eq_take_drop_succ L i
  rw [e2]
  exact (List.Perm.of_eq e1).trans List.perm_middle
theorem OL.get (H : OL n0 h L) {i : Nat} (hi : L[i]? = some (a, PP)) : n0 ≤ a ∧ ∃ c : Cell, h[a]? = some c ∧ PP c := H.2 (a, PP) (List.mem_of_getElem? hi)
theorem OL.ne (H : OL n0 h L) {i j : Nat} {b : Addr} {PB : Cell → Prop} (hi : L[i]? = some (a, PP)) (hj : L[j]? = some (b, PB)) (hij : i ≠ j) : a ≠ b := by
  intro e; subst e
  have h1 : (L.map (·.1))[i]? = some a := by simp [hi]
  have h2 : (L.map (·.1))[j]? = some a := by simp [hj]
  obtain ⟨l1, -⟩ := List.getElem?_eq_some_iff.mp h1
  exact hij ((List.getElem?_inj l1 H.1).mp (h1.trans h2.symm))
theorem OL.wr (H : OL n0 h L) {i sl : Nat} {v : Value} {P' : Cell → Prop} (hi : L[i]? = some (a, PP)) (W : Wr h h' a sl v) (hP : ∀ c : Cell, h[a]? = some c → PP c → P' (c.setSlot sl v)) : OL n0 h' (L.set i (a, P')) := by
  have hmap : (L.set i (a, P')).map (·.1) = L.map (·.1) := by
    apply List.ext_getElem?
    intro j
    simp only [List.getElem?_map, List.getElem?_set]
    split
    · rename_i e; subst e; rw [if_pos (List.getElem?_eq_some_iff.mp hi).1, hi]; rfl
    · rfl
  refine ⟨by rw [hmap]; exact H.1, fun q hq => ?_⟩
  obtain ⟨j, hj⟩ := List.getElem?_of_mem hq
  rw [List.getElem?_set] at hj
  split at hj
  · rename_i e; subst e
    split at hj
    · cases hj
      obtain ⟨h1, c, h2, h3⟩ := H.get hi
      obtain ⟨c', e1, -, -, -, -, -, e7⟩ := wr_at W h2
      exact ⟨h1, c', e1, by rw [(e7 rfl).1]; exact hP c h2 h3⟩
    · cases hj
  · rename_i e
    obtain ⟨b, PB⟩ := q
    obtain ⟨h1, c, h2, h3⟩ := H.get hj
    obtain ⟨c', e1, -, -, -, e5, -⟩ := wr_at W h2
    have := e5 (H.ne hj hi (fun r => e r.symm))
    subst this
    exact ⟨h1, c', e1, h3⟩
theorem OA.set {c : Cell} {j : Nat} {x : Int32} (A : OA Z ty vs c) (hf : fits ty (.int x) = true) : OA Z ty (vs.set j x) (c.setSlot j (.int x)) := by
  obtain ⟨h1, h2, h3, h4, h5⟩ := A
  refine ⟨h1, h2, ?_, fun z hz => ?_, h5⟩
  · show c.slots.setIfInBounds j (.int x) = _
    rw [h3]; simp [List.map_set]
  · rcases List.mem_or_eq_of_mem_set hz with q | q
    · exact h4 z q
    · rw [q]; exact hf
theorem OA.new {k : ClassId} {z : Int32} {N : Nat} (hN : z.toInt = N) (hd : defaultValue ty = .int 0) (hf : fits ty (.int 0) = true) (A : Arr Z h a (newA k ty z) ty) (E : Exa Z h a ("[" ++ ty.toString)) : OA Z ty (List.replicate N 0) (newA k ty z) := by
  obtain ⟨c, kk, e1, e2, -⟩ := E
  cases A.1.symm.trans e1
  refine ⟨A.2.1, A.2.2, ?_, fun x hx => by rw [List.eq_of_mem_replicate hx]; exact hf, e2⟩
  have e : z.toNatClampNeg = N := by simp only [Int32.toNatClampNeg, hN]; rfl
  show Array.replicate z.toNatClampNeg (defaultValue ty) = _
  rw [e, hd]; simp
theorem o_idx {j : Int32} {i N : Nat} (hj : j.toInt = i) (hi : i < N) : ¬ (j < 0 ∨ N ≤ j.toNatClampNeg) ∧ j.toNatClampNeg = i := by
  have e : j.toNatClampNeg = i := by simp only [Int32.toNatClampNeg, hj]; rfl
  refine ⟨?_, e⟩
  rw [e, Int32.lt_iff_toInt_lt, hj, show (0 : Int32).toInt = 0 from rfl]; omega
theorem OA.size {c : Cell} (A : OA Z ty vs c) : c.slots.size = vs.length := by rw [A.2.2.1]; simp
theorem o_newarray (X : OW p l e R s m args below meth c Z y bytes mx ret n0 T h k n) (H : OL n0 h L) {aty : ArrayType} (hd : decode bytes pc = .ok (.newarray aty, 2)) (w : (Cond.arrayClass (newarray.typeOf aty)).before a0 Z = true) (hdv : defaultValue (newarray.typeOf aty) = .int 0) (hfv : fits (newarray.typeOf aty) (.int 0) = true) {z : Int32} (N cap : Nat) (hN : z.toInt = N) (hcap : N ≤ cap) (hb8 : cap * 8 ≤ 536870912) (k2 n2 : Nat) (hk2 : k + 1 = k2) (hn2 : n + cap = n2) (hc : k2 ≤ R.cells) (hl : n2 ≤ R.slots) (pc' : Nat) (hp : pc + 2 = pc')
    (K : ∀ T' h' a, OW p l e R s m args below meth c Z y bytes mx ret n0 T' h' k2 n2 → OL n0 h' ((a, OA Z (newarray.typeOf aty) (List.replicate N 0)) :: L) → OE p e R below s n0 Q T' (mkF m pc' Ls (.ref a :: st))) : OE p e R below s n0 Q T (mkF m pc Ls (.int z :: st)) := by
  have h0 := X.size
  obtain ⟨hx, hZ, hown, hby, hmx, hret, hnm, hlk, hn0, hT, locs, S, N0⟩ := X; subst hp hk2 hn2
  obtain ⟨T', h', cA, S', hT', E, A, EX, stp⟩ := newPE S hx hZ w hT (g := mkF m pc Ls (.int z :: st)) rfl (hb hby hd) rfl (by rw [Int32.lt_iff_toInt_lt, hN, show (0 : Int32).toInt = 0 from rfl]; omega) (cap := cap) (by simp only [Int32.toNatClampNeg, hN]; exact hcap) hb8 hc hl rfl
  exact OE.by stp (K T' h' h.size ⟨hx, hZ, hown, hby, hmx, hret, hnm, hlk, hn0, hT', locs, S', N0⟩ (H.push E h0 A.1 (OA.new hN hdv hfv A EX)))
theorem o_arraylength (X : OW p l e R s m args below meth c Z y bytes mx ret n0 T h k n) (H : OL n0 h L) (i : Nat) (hi : L[i]? = some (a, OA Z ty vs)) (hd : decode bytes pc = .ok (.arraylength, 1)) (z : Int32) (hz : Int32.ofNat vs.length = z) (pc' : Nat) (hp : pc + 1 = pc')
    (K : OE p e R below s n0 Q T (mkF m pc' Ls (.int z :: st))) : OE p e R below s n0 Q T (mkF m pc Ls (.ref a :: st)) := by
  obtain ⟨hx, hZ, hown, hby, hmx, hret, hnm, hlk, hn0, hT, locs, S, N0⟩ := X; subst hp
  obtain ⟨h1, c', h2, A⟩ := H.get hi
  refine OE.by (fun t q => S.arraylength hx (by rw [hT]; exact h2) (State.isArrayOf_alike hZ.alike A.1) (g := mkF m pc Ls (.ref a :: st)) rfl rfl (hb hby hd) t ?_) K
  have e1 : c'.slots.size.toInt32 = z := by rw [A.size]; exact hz
  rw [e1]; exact q
theorem o_iaload (X : OW p l e R s m args below meth c Z y bytes mx ret n0 T h k n) (H : OL n0 h L) (i : Nat) (hi : L[i]? = some (a, OA Z .int vs)) (hd : decode bytes pc = .ok (.iaload, 1)) {j : Int32} (jn : Nat) (hj : j.toInt = jn) (v : Int32) (hv : vs[jn]? = some v) (pc' : Nat) (hp : pc + 1 = pc')
    (K : OE p e R below s n0 Q T (mkF m pc' Ls (.int v :: st))) : OE p e R below s n0 Q T (mkF m pc Ls (.int j :: .ref a :: st)) := by
  obtain ⟨hx, hZ, hown, hby, hmx, hret, hnm, hlk, hn0, hT, locs, S, N0⟩ := X; subst hp
  obtain ⟨h1, c', h2, A⟩ := H.get hi
  have hlt := (List.getElem?_eq_some_iff.mp hv).1
  obtain ⟨q1, q2⟩ := o_idx hj (N := c'.slots.size) (by rw [A.size]; exact hlt)
  exact OE.by (fun t q => S.iaload hx (by rw [hT]; exact h2) (State.isArrayOf_alike hZ.alike A.1) A.2.1 q1 (v := .int v) (by rw [q2, A.2.2.1]; simp [hv]) (g := mkF m pc Ls (.int j :: .ref a :: st)) rfl rfl (hb hby hd) t q) K
theorem o_baloadB (X : OW p l e R s m args below meth c Z y bytes mx ret n0 T h k n) (H : OL n0 h L) (i : Nat) (hi : L[i]? = some (a, OA Z .byte vs)) (hd : decode bytes pc = .ok (.baload, 1)) {j : Int32} (jn : Nat) (hj : j.toInt = jn) (v : Int32) (hv : vs[jn]? = some v) (pc' : Nat) (hp : pc + 1 = pc')
    (K : OE p e R below s n0 Q T (mkF m pc' Ls (.int v :: st))) : OE p e R below s n0 Q T (mkF m pc Ls (.int j :: .ref a :: st)) := by
  obtain ⟨hx, hZ, hown, hby, hmx, hret, hnm, hlk, hn0, hT, locs, S, N0⟩ := X; subst hp
  obtain ⟨h1, c', h2, A⟩ := H.get hi
  have hlt := (List.getElem?_eq_some_iff.mp hv).1
  obtain ⟨q1, q2⟩ := o_idx hj (N := c'.slots.size) (by rw [A.size]; exact hlt)
  exact OE.by (fun t q => S.baloadBytes hx (by rw [hT]; exact h2) (State.isArrayOf_alike hZ.alike A.1) A.2.1 q1 (v := .int v) (by rw [q2, A.2.2.1]; simp [hv]) (g := mkF m pc Ls (.int j :: .ref a :: st)) rfl rfl (hb hby hd) t q) K
theorem o_baloadZ (X : OW p l e R s m args below meth c Z y bytes mx ret n0 T h k n) (H : OL n0 h L) (i : Nat) (hi : L[i]? = some (a, OA Z .boolean vs)) (hd : decode bytes pc = .ok (.baload, 1)) {j : Int32} (jn : Nat) (hj : j.toInt = jn) (v : Int32) (hv : vs[jn]? = some v) (pc' : Nat) (hp : pc + 1 = pc')
    (K : OE p e R below s n0 Q T (mkF m pc' Ls (.int v :: st))) : OE p e R below s n0 Q T (mkF m pc Ls (.int j :: .ref a :: st)) := by
  obtain ⟨hx, hZ, hown, hby, hmx, hret, hnm, hlk, hn0, hT, locs, S, N0⟩ := X; subst hp
  obtain ⟨h1, c', h2, A⟩ := H.get hi
  have hlt := (List.getElem?_eq_some_iff.mp hv).1
  obtain ⟨q1, q2⟩ := o_idx hj (N := c'.slots.size) (by rw [A.size]; exact hlt)
  exact OE.by (fun t q => S.baloadBooleans hx (by rw [hT]; exact h2) (State.isArrayOf_alike hZ.alike A.1) A.2.1 q1 (v := .int v) (by rw [q2, A.2.2.1]; simp [hv]) (g := mkF m pc Ls (.int j :: .ref a :: st)) rfl rfl (hb hby hd) t q) K
theorem o_iastore (X : OW p l e R s m args below meth c Z y bytes mx ret n0 T h k n) (H : OL n0 h L) (i : Nat) (hi : L[i]? = some (a, OA Z .int vs)) (hd : decode bytes pc = .ok (.iastore, 1)) {j x : Int32} (jn : Nat) (hj : j.toInt = jn) (hlt : jn < vs.length) (pc' : Nat) (hp : pc + 1 = pc')
    (K : ∀ T' h', OW p l e R s m args below meth c Z y bytes mx ret n0 T' h' k n → OL n0 h' (L.set i (a, OA Z .int (vs.set jn x))) → OE p e R below s n0 Q T' (mkF m pc' Ls st)) : OE p e R below s n0 Q T (mkF m pc Ls (.int x :: .int j :: .ref a :: st)) := by
  obtain ⟨hx, hZ, hown, hby, hmx, hret, hnm, hlk, hn0, hT, locs, S, N0⟩ := X; subst hp
  obtain ⟨h1, c', h2, A⟩ := H.get hi
  obtain ⟨q1, q2⟩ := o_idx hj (N := c'.slots.size) (by rw [A.size]; exact hlt)
  obtain ⟨T', h', S', hT', W, stp⟩ := stI S hx hZ hT ⟨h2, A.1, A.2.1⟩ q1 (x := x) (g := mkF m pc Ls (.int x :: .int j :: .ref a :: st)) rfl rfl (hb hby hd)
  rw [q2] at W S'
  exact OE.by stp (K T' h' ⟨hx, hZ, hown, hby, hmx, hret, hnm, hlk, hn0, hT', _, S', N0.app fun z hz => by cases List.mem_singleton.mp hz; exact h1⟩ (H.wr hi W fun c _ B => B.set rfl))
theorem o_bastoreB (X : OW p l e R s m args below meth c Z y bytes mx ret n0 T h k n) (H : OL n0 h L) (i : Nat) (hi : L[i]? = some (a, OA Z .byte vs)) (hd : decode bytes pc = .ok (.bastore, 1)) {j x : Int32} (jn : Nat) (hj : j.toInt = jn) (hlt : jn < vs.length) (v : Int32) (hv : x.toInt8.toInt32 = v) (pc' : Nat) (hp : pc + 1 = pc')
    (K : ∀ T' h', OW p l e R s m args below meth c Z y bytes mx ret n0 T' h' k n → OL n0 h' (L.set i (a, OA Z .byte (vs.set jn v))) → OE p e R below s n0 Q T' (mkF m pc' Ls st)) : OE p e R below s n0 Q T (mkF m pc Ls (.int x :: .int j :: .ref a :: st)) := by
  obtain ⟨hx, hZ, hown, hby, hmx, hret, hnm, hlk, hn0, hT, locs, S, N0⟩ := X; subst hp hv
  obtain ⟨h1, c', h2, A⟩ := H.get hi
  obtain ⟨q1, q2⟩ := o_idx hj (N := c'.slots.size) (by rw [A.size]; exact hlt)
  obtain ⟨T', h', S', hT', W, stp⟩ := stB S hx hZ hT ⟨h2, A.1, A.2.1⟩ q1 (x := x) (g := mkF m pc Ls (.int x :: .int j :: .ref a :: st)) rfl rfl (hb hby hd)
  rw [q2] at W S'
  exact OE.by stp (K T' h' ⟨hx, hZ, hown, hby, hmx, hret, hnm, hlk, hn0, hT', _, S', N0.app fun z hz => by cases List.mem_singleton.mp hz; exact h1⟩ (H.wr hi W fun c _ B => B.set (fits_nar_byte x)))
theorem o_bastoreZ (X : OW p l e R s m args below meth c Z y bytes mx ret n0 T h k n) (H : OL n0 h L) (i : Nat) (hi : L[i]? = some (a, OA Z .boolean vs)) (hd : decode bytes pc = .ok (.bastore, 1)) {j x : Int32} (jn : Nat) (hj : j.toInt = jn) (hlt : jn < vs.length) (v : Int32) (hv : nar .boolean x = v) (pc' : Nat) (hp : pc + 1 = pc')
    (K : ∀ T' h', OW p l e R s m args below meth c Z y bytes mx ret n0 T' h' k n → OL n0 h' (L.set i (a, OA Z .boolean (vs.set jn v))) → OE p e R below s n0 Q T' (mkF m pc' Ls st)) : OE p e R below s n0 Q T (mkF m pc Ls (.int x :: .int j :: .ref a :: st)) := by
  obtain ⟨hx, hZ, hown, hby, hmx, hret, hnm, hlk, hn0, hT, locs, S, N0⟩ := X; subst hp hv
  obtain ⟨h1, c', h2, A⟩ := H.get hi
  obtain ⟨q1, q2⟩ := o_idx hj (N := c'.slots.size) (by rw [A.size]; exact hlt)
  obtain ⟨T', h', S', hT', W, stp⟩ := stZ S hx hZ hT ⟨h2, A.1, A.2.1⟩ q1 (x := x) (g := mkF m pc Ls (.int x :: .int j :: .ref a :: st)) rfl rfl (hb hby hd)
  rw [q2] at W S'
  exact OE.by stp (K T' h' ⟨hx, hZ, hown, hby, hmx, hret, hnm, hlk, hn0, hT', _, S', N0.app fun z hz => by cases List.mem_singleton.mp hz; exact h1⟩ (H.wr hi W fun c _ B => B.set (fits_nar_bool x)))
theorem o_b8 (x : Int32) : x.toInt8.toInt32.toInt8.toInt32 = x.toInt8.toInt32 := by simp
/-! contracts and calls -/
def OC (l : Launch) (Z : State) (y : MethodName) (bytes : ByteArray) (mx : Nat) (ret : Option FieldType) (ws : List Jvm.Cond) (rm : Room) (n0 : Nat) (as' : Array Value) (h0 : Heap) (Q : Option Value → Heap → Prop) : Prop :=
  MetFree l y (head1 (Jvm.Cond.code y bytes mx ret :: ws) rm) (fun a U => a = as' ∧ Z.Warmed39 U.vm ∧ U.heap = h0) (fun _ _ _ _ _ => True) (fun _ U o U' => ∃ v L, o = .returned v ∧ (Q v U'.heap ∧ Fr n0 L) ∧ FrameEnd U o U' L rm.cells rm.slots)
theorem OC.of {ws : List Jvm.Cond} {rm : Room} {as' : Array Value} {h0 : Heap} (hp : plainFor y = true) (hn : n0 ≤ h0.size) (Ls : Array Slot) (hef : ∀ m : MethodId, entryFrame m as' mx = mkF m 0 Ls [])
    (B : ∀ p e s m below meth c T, OW p l e rm s m as' below meth c Z y bytes mx ret n0 T h0 0 0 → ∀ Q' : Option Value → Heap → Prop, (∀ r h, Q r h → Q' r h) → OE p e rm below s n0 Q' T (mkF m 0 Ls [])) : OC l Z y bytes mx ret ws rm n0 as' h0 Q := by
  refine MetFree.of_bodySF hp hisR ?_
  intro p e s m args below meth c s₁ Bd hml0 hP hK
  obtain ⟨rfl, hZ, hh⟩ := hP
  have hnm := (name_of_methodNamed Bd.named Bd.method).1
  have X0 : Stand p l e rm s m args below meth c s₁ [] 0 0 := Stand.of_body Bd
  have e0 : s₁.heap = h0 := by rw [← hh, Bd.state]; rfl
  rw [hef m]
  exact B p e s m below meth c s₁ ⟨Bd.exec, hZ, findClass_of_methodNamed Bd.named, Bd.bytes, hml0, Bd.returns, hnm, Bd.notSynchronized, by rw [hh]; exact hn, e0, [], X0, Fr.nil n0⟩ Q (fun _ _ q => q)
theorem o_callS (X : OW p l e R s m args below meth c Z y bytes mx ret n0 T h k n) {i : Nat} (hd : decode bytes pc = .ok (.invokestatic i, 3)) {y' : MethodName} {bytes' : ByteArray} {mx' : Nat} {ret' : Option FieldType} {rm : Room} {as' : Array Value} {Q' : Option Value → Heap → Prop} (C : OC l Z y' bytes' mx' ret' [] rm n0 as' h Q')
    (w1 : (Cond.methodLink y.cls i y').before a0 Z = true) (w2 : (Cond.static y').before a0 Z = true) (w3 : (Cond.initialized y'.cls).before a0 Z = true) (w4 : (Cond.code y' bytes' mx' ret').before a0 Z = true) (hy : y'.cls ≠ "java/lang/invoke/MethodHandle" ∧ y'.cls ≠ "java/lang/invoke/VarHandle")
    (Wd : Nat) (hf : rm.frames + 1 ≤ R.frames) (hlo : Wd + (mx' + 11) + rm.locals ≤ R.locals) (hls : Ls.size = mx) (argsL : List Value) (has : as' = argsL.toArray) {ps : List FieldType} {r' : Option FieldType} (hpd : parseMethodDescriptor y'.desc = some ⟨ps, r'⟩) (hlen : argsL.length = ps.length) (hst : st = argsL.reverse ++ rest) (hW : (rest.map fun v => v.category).sum ≤ Wd) (k2 n2 : Nat) (hk2 : k + rm.cells = k2) (hn2 : n + rm.slots = n2) (hk : k2 ≤ R.cells) (hn : n2 ≤ R.slots) (pc' : Nat) (hp : pc + 3 = pc')
    (K : ∀ v T' h', OW p l e R s m args below meth c Z y bytes mx ret n0 T' h' k2 n2 → Q' v h' → OE p e R below s n0 Q T' (mkF m pc' Ls (v.toList ++ rest))) : OE p e R below s n0 Q T (mkF m pc Ls st) := by
  obtain ⟨hx, hZ, hown, hby, hmx, hret, hnm, hlk, hn0, hT, locs, S, N0⟩ := X; subst hp has hk2 hn2
  obtain ⟨v, _, ⟨T2, L2, k2, n2⟩, -, X2, ⟨Lc, hQ, l2, y2, z2⟩, stp⟩ := Jvm.LawKit.callS S hx (y := y') hown (mvT hZ w1) (mvT hZ w2) (mvT hZ w3) (mvT hZ w4) hy (backOf (W := Wd) (Q := fun v hh LL => Q' v hh ∧ Fr n0 LL) C hZ w4 w3 hf hlo) (g := mkF m pc Ls st) rfl (by rw [hmx]; exact hls) (argsL := argsL) (rest := rest) (lenOf hpd hlen) hst (by show 2 * 0 + _ ≤ _; omega) (hb hby hd) (fun _ _ => ⟨rfl, hT, hk, hn⟩)
  dsimp only [Pt.U, Pt.locs, Pt.cells, Pt.slots] at X2 l2 y2 z2 stp hQ
  subst l2 y2 z2
  exact OE.by stp (K v T2 T2.heap ⟨hx, hZ, hown, hby, hmx, hret, hnm, hlk, hn0, rfl, _, X2, N0.app hQ.2⟩ hQ.1)
end OwnKit
theorem d1_0 : decode method_2_code 0 = .ok (.iload_n 0, 1) := by decide +kernel
theorem d1_1 : decode method_2_code 1 = .ok (.iconst 3, 1) := by decide +kernel
theorem d1_2 : decode method_2_code 2 = .ok (.iand, 1) := by decide +kernel
theorem d1_3 : decode method_2_code 3 = .ok (.istore_n 1, 1) := by decide +kernel
theorem d1_4 : decode method_2_code 4 = .ok (.iload_n 0, 1) := by decide +kernel
theorem d1_5 : decode method_2_code 5 = .ok (.iconst 2, 1) := by decide +kernel
theorem d1_6 : decode method_2_code 6 = .ok (.iushr, 1) := by decide +kernel
theorem d1_7 : decode method_2_code 7 = .ok (.istore_n 2, 1) := by decide +kernel
theorem d1_8 : decode method_2_code 8 = .ok (.iload_n 1, 1) := by decide +kernel
theorem d1_9 : decode method_2_code 9 = .ok (.ifCond .ne 11, 3) := by decide +kernel
theorem d1_12 : decode method_2_code 12 = .ok (.iload_n 2, 1) := by decide +kernel
theorem d1_13 : decode method_2_code 13 = .ok (.bipush 127, 2) := by decide +kernel
theorem d1_15 : decode method_2_code 15 = .ok (.iand, 1) := by decide +kernel
theorem d1_16 : decode method_2_code 16 = .ok (.istore_n 3, 1) := by decide +kernel
theorem d1_17 : decode method_2_code 17 = .ok (.goto 58, 3) := by decide +kernel
theorem d1_20 : decode method_2_code 20 = .ok (.iload_n 1, 1) := by decide +kernel
theorem d1_21 : decode method_2_code 21 = .ok (.iconst 1, 1) := by decide +kernel
theorem d1_22 : decode method_2_code 22 = .ok (.if_icmp .ne 16, 3) := by decide +kernel
theorem d1_25 : decode method_2_code 25 = .ok (.sipush 128, 3) := by decide +kernel
theorem d1_28 : decode method_2_code 28 = .ok (.iload_n 2, 1) := by decide +kernel
theorem d1_29 : decode method_2_code 29 = .ok (.sipush 1920, 3) := by decide +kernel
theorem d1_32 : decode method_2_code 32 = .ok (.irem, 1) := by decide +kernel
theorem d1_33 : decode method_2_code 33 = .ok (.iadd, 1) := by decide +kernel
theorem d1_34 : decode method_2_code 34 = .ok (.istore_n 3, 1) := by decide +kernel
theorem d1_35 : decode method_2_code 35 = .ok (.goto 40, 3) := by decide +kernel
theorem d1_38 : decode method_2_code 38 = .ok (.iload_n 1, 1) := by decide +kernel
theorem d1_39 : decode method_2_code 39 = .ok (.iconst 2, 1) := by decide +kernel
theorem d1_40 : decode method_2_code 40 = .ok (.if_icmp .ne 27, 3) := by decide +kernel
theorem d1_43 : decode method_2_code 43 = .ok (.sipush 2048, 3) := by decide +kernel
theorem d1_46 : decode method_2_code 46 = .ok (.iload_n 2, 1) := by decide +kernel
theorem d1_47 : decode method_2_code 47 = .ok (.ldc 7, 2) := by decide +kernel
theorem d1_49 : decode method_2_code 49 = .ok (.irem, 1) := by decide +kernel
theorem d1_50 : decode method_2_code 50 = .ok (.iadd, 1) := by decide +kernel
theorem d1_51 : decode method_2_code 51 = .ok (.istore_n 3, 1) := by decide +kernel
theorem d1_52 : decode method_2_code 52 = .ok (.iload_n 3, 1) := by decide +kernel
theorem d1_53 : decode method_2_code 53 = .ok (.ldc 8, 2) := by decide +kernel
theorem d1_55 : decode method_2_code 55 = .ok (.if_icmp .lt 20, 3) := by decide +kernel
theorem d1_58 : decode method_2_code 58 = .ok (.iload_n 3, 1) := by decide +kernel
theorem d1_59 : decode method_2_code 59 = .ok (.sipush 2048, 3) := by decide +kernel
theorem d1_62 : decode method_2_code 62 = .ok (.iadd, 1) := by decide +kernel
theorem d1_63 : decode method_2_code 63 = .ok (.istore_n 3, 1) := by decide +kernel
theorem d1_64 : decode method_2_code 64 = .ok (.goto 11, 3) := by decide +kernel
theorem d1_67 : decode method_2_code 67 = .ok (.ldc 9, 2) := by decide +kernel
theorem d1_69 : decode method_2_code 69 = .ok (.iload_n 2, 1) := by decide +kernel
theorem d1_70 : decode method_2_code 70 = .ok (.ldc 10, 2) := by decide +kernel
theorem d1_72 : decode method_2_code 72 = .ok (.iand, 1) := by decide +kernel
theorem d1_73 : decode method_2_code 73 = .ok (.iadd, 1) := by decide +kernel
theorem d1_74 : decode method_2_code 74 = .ok (.istore_n 3, 1) := by decide +kernel
theorem d1_75 : decode method_2_code 75 = .ok (.iload_n 3, 1) := by decide +kernel
theorem d1_76 : decode method_2_code 76 = .ok (.ireturn, 1) := by decide +kernel
theorem d2_0 : decode method_3_code 0 = .ok (.iload_n 2, 1) := by decide +kernel
theorem d2_1 : decode method_3_code 1 = .ok (.sipush 128, 3) := by decide +kernel
theorem d2_4 : decode method_3_code 4 = .ok (.if_icmp .ge 12, 3) := by decide +kernel
theorem d2_7 : decode method_3_code 7 = .ok (.aload_n 0, 1) := by decide +kernel
theorem d2_8 : decode method_3_code 8 = .ok (.iload_n 1, 1) := by decide +kernel
theorem d2_9 : decode method_3_code 9 = .ok (.iload_n 2, 1) := by decide +kernel
theorem d2_10 : decode method_3_code 10 = .ok (.i2b, 1) := by decide +kernel
theorem d2_11 : decode method_3_code 11 = .ok (.bastore, 1) := by decide +kernel
theorem d2_12 : decode method_3_code 12 = .ok (.iload_n 1, 1) := by decide +kernel
theorem d2_13 : decode method_3_code 13 = .ok (.iconst 1, 1) := by decide +kernel
theorem d2_14 : decode method_3_code 14 = .ok (.iadd, 1) := by decide +kernel
theorem d2_15 : decode method_3_code 15 = .ok (.ireturn, 1) := by decide +kernel
theorem d2_16 : decode method_3_code 16 = .ok (.iload_n 2, 1) := by decide +kernel
theorem d2_17 : decode method_3_code 17 = .ok (.sipush 2048, 3) := by decide +kernel
theorem d2_20 : decode method_3_code 20 = .ok (.if_icmp .ge 33, 3) := by decide +kernel
theorem d2_23 : decode method_3_code 23 = .ok (.aload_n 0, 1) := by decide +kernel
theorem d2_24 : decode method_3_code 24 = .ok (.iload_n 1, 1) := by decide +kernel
theorem d2_25 : decode method_3_code 25 = .ok (.sipush 192, 3) := by decide +kernel
theorem d2_28 : decode method_3_code 28 = .ok (.iload_n 2, 1) := by decide +kernel
theorem d2_29 : decode method_3_code 29 = .ok (.bipush 6, 2) := by decide +kernel
theorem d2_31 : decode method_3_code 31 = .ok (.ishr, 1) := by decide +kernel
theorem d2_32 : decode method_3_code 32 = .ok (.ior, 1) := by decide +kernel
theorem d2_33 : decode method_3_code 33 = .ok (.i2b, 1) := by decide +kernel
theorem d2_34 : decode method_3_code 34 = .ok (.bastore, 1) := by decide +kernel
theorem d2_35 : decode method_3_code 35 = .ok (.aload_n 0, 1) := by decide +kernel
theorem d2_36 : decode method_3_code 36 = .ok (.iload_n 1, 1) := by decide +kernel
theorem d2_37 : decode method_3_code 37 = .ok (.iconst 1, 1) := by decide +kernel
theorem d2_38 : decode method_3_code 38 = .ok (.iadd, 1) := by decide +kernel
theorem d2_39 : decode method_3_code 39 = .ok (.sipush 128, 3) := by decide +kernel
theorem d2_42 : decode method_3_code 42 = .ok (.iload_n 2, 1) := by decide +kernel
theorem d2_43 : decode method_3_code 43 = .ok (.bipush 63, 2) := by decide +kernel
theorem d2_45 : decode method_3_code 45 = .ok (.iand, 1) := by decide +kernel
theorem d2_46 : decode method_3_code 46 = .ok (.ior, 1) := by decide +kernel
theorem d2_47 : decode method_3_code 47 = .ok (.i2b, 1) := by decide +kernel
theorem d2_48 : decode method_3_code 48 = .ok (.bastore, 1) := by decide +kernel
theorem d2_49 : decode method_3_code 49 = .ok (.iload_n 1, 1) := by decide +kernel
theorem d2_50 : decode method_3_code 50 = .ok (.iconst 2, 1) := by decide +kernel
theorem d2_51 : decode method_3_code 51 = .ok (.iadd, 1) := by decide +kernel
theorem d2_52 : decode method_3_code 52 = .ok (.ireturn, 1) := by decide +kernel
theorem d2_53 : decode method_3_code 53 = .ok (.iload_n 2, 1) := by decide +kernel
theorem d2_54 : decode method_3_code 54 = .ok (.ldc 9, 2) := by decide +kernel
theorem d2_56 : decode method_3_code 56 = .ok (.if_icmp .ge 50, 3) := by decide +kernel
theorem d2_59 : decode method_3_code 59 = .ok (.aload_n 0, 1) := by decide +kernel
theorem d2_60 : decode method_3_code 60 = .ok (.iload_n 1, 1) := by decide +kernel
theorem d2_61 : decode method_3_code 61 = .ok (.sipush 224, 3) := by decide +kernel
theorem d2_64 : decode method_3_code 64 = .ok (.iload_n 2, 1) := by decide +kernel
theorem d2_65 : decode method_3_code 65 = .ok (.bipush 12, 2) := by decide +kernel
theorem d2_67 : decode method_3_code 67 = .ok (.ishr, 1) := by decide +kernel
theorem d2_68 : decode method_3_code 68 = .ok (.ior, 1) := by decide +kernel
theorem d2_69 : decode method_3_code 69 = .ok (.i2b, 1) := by decide +kernel
theorem d2_70 : decode method_3_code 70 = .ok (.bastore, 1) := by decide +kernel
theorem d2_71 : decode method_3_code 71 = .ok (.aload_n 0, 1) := by decide +kernel
theorem d2_72 : decode method_3_code 72 = .ok (.iload_n 1, 1) := by decide +kernel
theorem d2_73 : decode method_3_code 73 = .ok (.iconst 1, 1) := by decide +kernel
theorem d2_74 : decode method_3_code 74 = .ok (.iadd, 1) := by decide +kernel
theorem d2_75 : decode method_3_code 75 = .ok (.sipush 128, 3) := by decide +kernel
theorem d2_78 : decode method_3_code 78 = .ok (.iload_n 2, 1) := by decide +kernel
theorem d2_79 : decode method_3_code 79 = .ok (.bipush 6, 2) := by decide +kernel
theorem d2_81 : decode method_3_code 81 = .ok (.ishr, 1) := by decide +kernel
theorem d2_82 : decode method_3_code 82 = .ok (.bipush 63, 2) := by decide +kernel
theorem d2_84 : decode method_3_code 84 = .ok (.iand, 1) := by decide +kernel
theorem d2_85 : decode method_3_code 85 = .ok (.ior, 1) := by decide +kernel
theorem d2_86 : decode method_3_code 86 = .ok (.i2b, 1) := by decide +kernel
theorem d2_87 : decode method_3_code 87 = .ok (.bastore, 1) := by decide +kernel
theorem d2_88 : decode method_3_code 88 = .ok (.aload_n 0, 1) := by decide +kernel
theorem d2_89 : decode method_3_code 89 = .ok (.iload_n 1, 1) := by decide +kernel
theorem d2_90 : decode method_3_code 90 = .ok (.iconst 2, 1) := by decide +kernel
theorem d2_91 : decode method_3_code 91 = .ok (.iadd, 1) := by decide +kernel
theorem d2_92 : decode method_3_code 92 = .ok (.sipush 128, 3) := by decide +kernel
theorem d2_95 : decode method_3_code 95 = .ok (.iload_n 2, 1) := by decide +kernel
theorem d2_96 : decode method_3_code 96 = .ok (.bipush 63, 2) := by decide +kernel
theorem d2_98 : decode method_3_code 98 = .ok (.iand, 1) := by decide +kernel
theorem d2_99 : decode method_3_code 99 = .ok (.ior, 1) := by decide +kernel
theorem d2_100 : decode method_3_code 100 = .ok (.i2b, 1) := by decide +kernel
theorem d2_101 : decode method_3_code 101 = .ok (.bastore, 1) := by decide +kernel
theorem d2_102 : decode method_3_code 102 = .ok (.iload_n 1, 1) := by decide +kernel
theorem d2_103 : decode method_3_code 103 = .ok (.iconst 3, 1) := by decide +kernel
theorem d2_104 : decode method_3_code 104 = .ok (.iadd, 1) := by decide +kernel
theorem d2_105 : decode method_3_code 105 = .ok (.ireturn, 1) := by decide +kernel
theorem d2_106 : decode method_3_code 106 = .ok (.aload_n 0, 1) := by decide +kernel
theorem d2_107 : decode method_3_code 107 = .ok (.iload_n 1, 1) := by decide +kernel
theorem d2_108 : decode method_3_code 108 = .ok (.sipush 240, 3) := by decide +kernel
theorem d2_111 : decode method_3_code 111 = .ok (.iload_n 2, 1) := by decide +kernel
theorem d2_112 : decode method_3_code 112 = .ok (.bipush 18, 2) := by decide +kernel
theorem d2_114 : decode method_3_code 114 = .ok (.ishr, 1) := by decide +kernel
theorem d2_115 : decode method_3_code 115 = .ok (.ior, 1) := by decide +kernel
theorem d2_116 : decode method_3_code 116 = .ok (.i2b, 1) := by decide +kernel
theorem d2_117 : decode method_3_code 117 = .ok (.bastore, 1) := by decide +kernel
theorem d2_118 : decode method_3_code 118 = .ok (.aload_n 0, 1) := by decide +kernel
theorem d2_119 : decode method_3_code 119 = .ok (.iload_n 1, 1) := by decide +kernel
theorem d2_120 : decode method_3_code 120 = .ok (.iconst 1, 1) := by decide +kernel
theorem d2_121 : decode method_3_code 121 = .ok (.iadd, 1) := by decide +kernel
theorem d2_122 : decode method_3_code 122 = .ok (.sipush 128, 3) := by decide +kernel
theorem d2_125 : decode method_3_code 125 = .ok (.iload_n 2, 1) := by decide +kernel
theorem d2_126 : decode method_3_code 126 = .ok (.bipush 12, 2) := by decide +kernel
theorem d2_128 : decode method_3_code 128 = .ok (.ishr, 1) := by decide +kernel
theorem d2_129 : decode method_3_code 129 = .ok (.bipush 63, 2) := by decide +kernel
theorem d2_131 : decode method_3_code 131 = .ok (.iand, 1) := by decide +kernel
theorem d2_132 : decode method_3_code 132 = .ok (.ior, 1) := by decide +kernel
theorem d2_133 : decode method_3_code 133 = .ok (.i2b, 1) := by decide +kernel
theorem d2_134 : decode method_3_code 134 = .ok (.bastore, 1) := by decide +kernel
theorem d2_135 : decode method_3_code 135 = .ok (.aload_n 0, 1) := by decide +kernel
theorem d2_136 : decode method_3_code 136 = .ok (.iload_n 1, 1) := by decide +kernel
theorem d2_137 : decode method_3_code 137 = .ok (.iconst 2, 1) := by decide +kernel
theorem d2_138 : decode method_3_code 138 = .ok (.iadd, 1) := by decide +kernel
theorem d2_139 : decode method_3_code 139 = .ok (.sipush 128, 3) := by decide +kernel
theorem d2_142 : decode method_3_code 142 = .ok (.iload_n 2, 1) := by decide +kernel
theorem d2_143 : decode method_3_code 143 = .ok (.bipush 6, 2) := by decide +kernel
theorem d2_145 : decode method_3_code 145 = .ok (.ishr, 1) := by decide +kernel
theorem d2_146 : decode method_3_code 146 = .ok (.bipush 63, 2) := by decide +kernel
theorem d2_148 : decode method_3_code 148 = .ok (.iand, 1) := by decide +kernel
theorem d2_149 : decode method_3_code 149 = .ok (.ior, 1) := by decide +kernel
theorem d2_150 : decode method_3_code 150 = .ok (.i2b, 1) := by decide +kernel
theorem d2_151 : decode method_3_code 151 = .ok (.bastore, 1) := by decide +kernel
theorem d2_152 : decode method_3_code 152 = .ok (.aload_n 0, 1) := by decide +kernel
theorem d2_153 : decode method_3_code 153 = .ok (.iload_n 1, 1) := by decide +kernel
theorem d2_154 : decode method_3_code 154 = .ok (.iconst 3, 1) := by decide +kernel
theorem d2_155 : decode method_3_code 155 = .ok (.iadd, 1) := by decide +kernel
theorem d2_156 : decode method_3_code 156 = .ok (.sipush 128, 3) := by decide +kernel
theorem d2_159 : decode method_3_code 159 = .ok (.iload_n 2, 1) := by decide +kernel
theorem d2_160 : decode method_3_code 160 = .ok (.bipush 63, 2) := by decide +kernel
theorem d2_162 : decode method_3_code 162 = .ok (.iand, 1) := by decide +kernel
theorem d2_163 : decode method_3_code 163 = .ok (.ior, 1) := by decide +kernel
theorem d2_164 : decode method_3_code 164 = .ok (.i2b, 1) := by decide +kernel
theorem d2_165 : decode method_3_code 165 = .ok (.bastore, 1) := by decide +kernel
theorem d2_166 : decode method_3_code 166 = .ok (.iload_n 1, 1) := by decide +kernel
theorem d2_167 : decode method_3_code 167 = .ok (.iconst 4, 1) := by decide +kernel
theorem d2_168 : decode method_3_code 168 = .ok (.iadd, 1) := by decide +kernel
theorem d2_169 : decode method_3_code 169 = .ok (.ireturn, 1) := by decide +kernel
theorem d3_0 : decode method_4_code 0 = .ok (.iload_n 0, 1) := by decide +kernel
theorem d3_1 : decode method_4_code 1 = .ok (.ldc 9, 2) := by decide +kernel
theorem d3_3 : decode method_4_code 3 = .ok (.if_icmp .ge 7, 3) := by decide +kernel
theorem d3_6 : decode method_4_code 6 = .ok (.iconst 1, 1) := by decide +kernel
theorem d3_7 : decode method_4_code 7 = .ok (.goto 4, 3) := by decide +kernel
theorem d3_10 : decode method_4_code 10 = .ok (.iconst 2, 1) := by decide +kernel
theorem d3_11 : decode method_4_code 11 = .ok (.ireturn, 1) := by decide +kernel
theorem d4_0 : decode jdk_29_method_69_code 0 = .ok (.iload_n 0, 1) := by decide +kernel
theorem d4_1 : decode jdk_29_method_69_code 1 = .ok (.iload_n 1, 1) := by decide +kernel
theorem d4_2 : decode jdk_29_method_69_code 2 = .ok (.if_icmp .gt 7, 3) := by decide +kernel
theorem d4_5 : decode jdk_29_method_69_code 5 = .ok (.iload_n 0, 1) := by decide +kernel
theorem d4_6 : decode jdk_29_method_69_code 6 = .ok (.goto 4, 3) := by decide +kernel
theorem d4_9 : decode jdk_29_method_69_code 9 = .ok (.iload_n 1, 1) := by decide +kernel
theorem d4_10 : decode jdk_29_method_69_code 10 = .ok (.ireturn, 1) := by decide +kernel
theorem d5_0 : decode jdk_29_method_65_code 0 = .ok (.iload_n 0, 1) := by decide +kernel
theorem d5_1 : decode jdk_29_method_65_code 1 = .ok (.iload_n 1, 1) := by decide +kernel
theorem d5_2 : decode jdk_29_method_65_code 2 = .ok (.if_icmp .lt 7, 3) := by decide +kernel
theorem d5_5 : decode jdk_29_method_65_code 5 = .ok (.iload_n 0, 1) := by decide +kernel
theorem d5_6 : decode jdk_29_method_65_code 6 = .ok (.goto 4, 3) := by decide +kernel
theorem d5_9 : decode jdk_29_method_65_code 9 = .ok (.iload_n 1, 1) := by decide +kernel
theorem d5_10 : decode jdk_29_method_65_code 10 = .ok (.ireturn, 1) := by decide +kernel
theorem d6_0 : decode method_5_code 0 = .ok (.iload_n 0, 1) := by decide +kernel
theorem d6_1 : decode method_5_code 1 = .ok (.ifCond .ne 5, 3) := by decide +kernel
theorem d6_4 : decode method_5_code 4 = .ok (.iload_n 1, 1) := by decide +kernel
theorem d6_5 : decode method_5_code 5 = .ok (.ireturn, 1) := by decide +kernel
theorem d6_6 : decode method_5_code 6 = .ok (.iload_n 0, 1) := by decide +kernel
theorem d6_7 : decode method_5_code 7 = .ok (.iconst 1, 1) := by decide +kernel
theorem d6_8 : decode method_5_code 8 = .ok (.if_icmp .ne 5, 3) := by decide +kernel
theorem d6_11 : decode method_5_code 11 = .ok (.iload_n 2, 1) := by decide +kernel
theorem d6_12 : decode method_5_code 12 = .ok (.ireturn, 1) := by decide +kernel
theorem d6_13 : decode method_5_code 13 = .ok (.iload_n 0, 1) := by decide +kernel
theorem d6_14 : decode method_5_code 14 = .ok (.iconst 2, 1) := by decide +kernel
theorem d6_15 : decode method_5_code 15 = .ok (.if_icmp .ne 5, 3) := by decide +kernel
theorem d6_18 : decode method_5_code 18 = .ok (.iload_n 3, 1) := by decide +kernel
theorem d6_19 : decode method_5_code 19 = .ok (.ireturn, 1) := by decide +kernel
theorem d6_20 : decode method_5_code 20 = .ok (.iload 4, 2) := by decide +kernel
theorem d6_22 : decode method_5_code 22 = .ok (.ireturn, 1) := by decide +kernel
theorem d7_0 : decode prog_39_method_7_code 0 = .ok (.iconst 0, 1) := by decide +kernel
theorem d7_1 : decode prog_39_method_7_code 1 = .ok (.istore_n 3, 1) := by decide +kernel
theorem d7_2 : decode prog_39_method_7_code 2 = .ok (.iload_n 1, 1) := by decide +kernel
theorem d7_3 : decode prog_39_method_7_code 3 = .ok (.istore 4, 2) := by decide +kernel
theorem d7_5 : decode prog_39_method_7_code 5 = .ok (.iload 4, 2) := by decide +kernel
theorem d7_7 : decode prog_39_method_7_code 7 = .ok (.iload_n 2, 1) := by decide +kernel
theorem d7_8 : decode prog_39_method_7_code 8 = .ok (.if_icmp .ge 51, 3) := by decide +kernel
theorem d7_11 : decode prog_39_method_7_code 11 = .ok (.aload_n 0, 1) := by decide +kernel
theorem d7_12 : decode prog_39_method_7_code 12 = .ok (.iload 4, 2) := by decide +kernel
theorem d7_14 : decode prog_39_method_7_code 14 = .ok (.baload, 1) := by decide +kernel
theorem d7_15 : decode prog_39_method_7_code 15 = .ok (.sipush 255, 3) := by decide +kernel
theorem d7_18 : decode prog_39_method_7_code 18 = .ok (.iand, 1) := by decide +kernel
theorem d7_19 : decode prog_39_method_7_code 19 = .ok (.istore 5, 2) := by decide +kernel
theorem d7_21 : decode prog_39_method_7_code 21 = .ok (.iload 5, 2) := by decide +kernel
theorem d7_23 : decode prog_39_method_7_code 23 = .ok (.sipush 128, 3) := by decide +kernel
theorem d7_26 : decode prog_39_method_7_code 26 = .ok (.if_icmp .lt 11, 3) := by decide +kernel
theorem d7_29 : decode prog_39_method_7_code 29 = .ok (.iload 5, 2) := by decide +kernel
theorem d7_31 : decode prog_39_method_7_code 31 = .ok (.sipush 192, 3) := by decide +kernel
theorem d7_34 : decode prog_39_method_7_code 34 = .ok (.if_icmp .lt 19, 3) := by decide +kernel
theorem d7_37 : decode prog_39_method_7_code 37 = .ok (.iload_n 3, 1) := by decide +kernel
theorem d7_38 : decode prog_39_method_7_code 38 = .ok (.iload 5, 2) := by decide +kernel
theorem d7_40 : decode prog_39_method_7_code 40 = .ok (.sipush 240, 3) := by decide +kernel
theorem d7_43 : decode prog_39_method_7_code 43 = .ok (.if_icmp .lt 7, 3) := by decide +kernel
theorem d7_46 : decode prog_39_method_7_code 46 = .ok (.iconst 2, 1) := by decide +kernel
theorem d7_47 : decode prog_39_method_7_code 47 = .ok (.goto 4, 3) := by decide +kernel
theorem d7_50 : decode prog_39_method_7_code 50 = .ok (.iconst 1, 1) := by decide +kernel
theorem d7_51 : decode prog_39_method_7_code 51 = .ok (.iadd, 1) := by decide +kernel
theorem d7_52 : decode prog_39_method_7_code 52 = .ok (.istore_n 3, 1) := by decide +kernel
theorem d7_53 : decode prog_39_method_7_code 53 = .ok (.iinc 4 1, 3) := by decide +kernel
theorem d7_56 : decode prog_39_method_7_code 56 = .ok (.goto (-51), 3) := by decide +kernel
theorem d7_59 : decode prog_39_method_7_code 59 = .ok (.iload_n 3, 1) := by decide +kernel
theorem d7_60 : decode prog_39_method_7_code 60 = .ok (.ireturn, 1) := by decide +kernel
theorem pn_0 : plainName "org/bindloom/internal/Utf8CharCountPinLaw" = true := by first | (simp [plainName, overriddenIn]; done) | decide +kernel
theorem pf_4 : plainFor (⟨"java/lang/Math", "min", "(II)I"⟩ : MethodName) = true := by decide +kernel
theorem pf_5 : plainFor (⟨"java/lang/Math", "max", "(II)I"⟩ : MethodName) = true := by decide +kernel
theorem pn_2 : plainName "org/bindloom/internal/Utf8" = true := by first | (simp [plainName, overriddenIn]; done) | decide +kernel
theorem pd_1 : parseMethodDescriptor "(I)I" = some ⟨[.int], (some .int)⟩ := by decide +kernel
theorem pd_2 : parseMethodDescriptor "([BII)I" = some ⟨[(.array .byte), .int, .int], (some .int)⟩ := by decide +kernel
theorem pd_3 : parseMethodDescriptor "(I)I" = some ⟨[.int], (some .int)⟩ := by decide +kernel
theorem pd_4 : parseMethodDescriptor "(II)I" = some ⟨[.int, .int], (some .int)⟩ := by decide +kernel
theorem pd_5 : parseMethodDescriptor "(II)I" = some ⟨[.int, .int], (some .int)⟩ := by decide +kernel
theorem pd_6 : parseMethodDescriptor "(IIIII)I" = some ⟨[.int, .int, .int, .int, .int], (some .int)⟩ := by decide +kernel
theorem pd_7 : parseMethodDescriptor "([BII)I" = some ⟨[(.array .byte), .int, .int], (some .int)⟩ := by decide +kernel
theorem u_add (a y : Int32) (d : Int) (ha : a.toInt = d) (h1 : -2147483648 ≤ d + y.toInt) (h2 : d + y.toInt < 2147483648) : (a + y).toInt = d + y.toInt := by
  subst ha; exact Jvm.Kit.i32_add h1 h2
theorem u_dr (x y : Int32) (d : Int) (hy : y.toInt = d) (hd : y ≠ -1) (h : 0 ≤ x.toInt) : (x / y).toInt = x.toInt / d ∧ (x % y).toInt = x.toInt % d := ⟨(c_idiv x y d hy hd).1 h, (c_irem x y d hy).1 h⟩
theorem u_b (w : Int32) (h0 : 0 ≤ w.toInt) (h1 : w.toInt ≤ 255) : Int8.toInt32 (Int32.toInt8 w) &&& 255 = w := by
  have a := Jvm.Kit.i32_mask (Int8.toInt32 (Int32.toInt8 w)) 255 (k := 8) (by decide) (by decide)
  have b := c_i2b w
  apply Int32.toInt_inj.mp; rw [a]; omega
theorem u_b63 (w : Int32) : (Int8.toInt32 (Int32.toInt8 w) &&& 63).toInt = w.toInt % 64 := by
  have a := Jvm.Kit.i32_mask (Int8.toInt32 (Int32.toInt8 w)) 63 (k := 6) (by decide) (by decide)
  have b := c_i2b w
  rw [a]; omega
theorem u_b255 (w : Int32) : (Int8.toInt32 (Int32.toInt8 w) &&& 255).toInt = w.toInt % 256 := by
  have a := Jvm.Kit.i32_mask (Int8.toInt32 (Int32.toInt8 w)) 255 (k := 8) (by decide) (by decide)
  have b := c_i2b w
  rw [a]; omega
theorem u_shl (x q : Int32) (k : Nat) (P : Int) (hk : q.toBitVec.toNat % 32 = k) (hP : P = (2 ^ k : Nat)) (h0 : 0 ≤ x.toInt) (h1 : x.toInt * P < 2147483648) : (x <<< (q &&& 31)).toInt = x.toInt * P := by
  have a := c_ishl x q k hk
  rw [← hP] at a
  have b1 := Int32.toInt_lt (x <<< (q &&& 31)); have b2 := Int32.le_toInt (x <<< (q &&& 31))
  have : 0 ≤ x.toInt * P := Int.mul_nonneg h0 (by rw [hP]; exact Int.natCast_nonneg _)
  generalize x.toInt * P = z at *
  omega
theorem u_or (a b : Int32) (k : Nat) (P : Int) (hk : k ≤ 31) (hP : P = (2 ^ k : Nat)) (h1 : a.toInt % P = 0) (h2 : 0 ≤ b.toInt) (h3 : b.toInt < P) (h4 : 0 ≤ a.toInt) : (a ||| b).toInt = a.toInt + b.toInt := by
  have q := c_or a b k hk P hP h1 h2 h3
  have b1 := Int32.toInt_lt (a ||| b); have b2 := Int32.le_toInt (a ||| b)
  have b3 := (c_orS a b).1 h4 h2
  have b4 := Int32.toInt_lt a
  have b5 := Int32.toInt_lt b
  omega

theorem v_lead (L q D cp : Int32) (k : Nat) (Pd Ld : Int) (hq : q.toBitVec.toNat % 32 = k) (hk : (q &&& 31).toBitVec.smod 32 = BitVec.ofNat 32 k) (hk2 : k < 32) (hP : Pd = (2 ^ k : Nat)) (hL : L.toInt = Ld) (hD : D.toInt = Pd) (hD1 : D ≠ -1) (kk : Nat) (Q : Int) (hkk : kk ≤ 31) (hQ : Q = (2 ^ kk : Nat)) (hLm : Ld % Q = 0) (hL0 : 0 ≤ Ld) (h0 : 0 ≤ cp.toInt) (hlt : cp.toInt / Pd < Q) (h255 : Ld + cp.toInt / Pd ≤ 255) :
    Int8.toInt32 (Int32.toInt8 (L ||| (cp >>> (q &&& 31)))) &&& 255 = L + cp / D := by
  have s := Jvm.Kit.i32_shr cp (q &&& 31) (k := k) (by rw [hk]; simp; omega)
  have hP' : ((2 : Int) ^ k) = Pd := by rw [hP]; simp
  rw [hP'] at s
  have hpos : 0 < Pd := by rw [hP]; exact_mod_cast Nat.two_pow_pos k
  have hge : 0 ≤ cp.toInt / Pd := Int.ediv_nonneg h0 (by omega)
  have o := u_or L (cp >>> (q &&& 31)) kk Q hkk hQ (by rw [hL]; exact hLm) (by omega) (by omega) (by omega)
  obtain ⟨d, -⟩ := u_dr cp D Pd hD hD1 h0
  have a := u_add L (cp / D) Ld hL (by omega) (by omega)
  rw [u_b _ (by omega) (by omega)]
  apply Int32.toInt_inj.mp; omega
theorem v_tail (y z : Int32) (hy : 0 ≤ y.toInt) (hz : z.toInt = y.toInt) : Int8.toInt32 (Int32.toInt8 (128 ||| (y &&& 63))) &&& 255 = 128 + z % 64 := by
  have m := Jvm.Kit.i32_mask y 63 (k := 6) (by decide) (by decide)
  have o := u_or 128 (y &&& 63) 6 64 (by decide) (by decide) (by decide) (by omega) (by omega) (by decide)
  obtain ⟨-, r⟩ := u_dr z 64 64 rfl (by decide) (by omega)
  have a := u_add 128 (z % 64) 128 rfl (by omega) (by omega)
  rw [show (128 : Int32).toInt = 128 from rfl] at o
  rw [u_b _ (by omega) (by omega)]
  apply Int32.toInt_inj.mp; omega
theorem v_sh (cp D q : Int32) (k : Nat) (Pd : Int) (hk : (q &&& 31).toBitVec.smod 32 = BitVec.ofNat 32 k) (hk2 : k < 32) (hP : Pd = (2 ^ k : Nat)) (hD : D.toInt = Pd) (hD1 : D ≠ -1) (h0 : 0 ≤ cp.toInt) : (cp / D).toInt = (cp >>> (q &&& 31)).toInt ∧ 0 ≤ (cp >>> (q &&& 31)).toInt := by
  have s := Jvm.Kit.i32_shr cp (q &&& 31) (k := k) (by rw [hk]; simp; omega)
  have hP' : ((2 : Int) ^ k) = Pd := by rw [hP]; simp
  rw [hP'] at s
  have hpos : 0 < Pd := by rw [hP]; exact_mod_cast Nat.two_pow_pos k
  obtain ⟨d, -⟩ := u_dr cp D Pd hD hD1 h0
  have hge : 0 ≤ cp.toInt / Pd := Int.ediv_nonneg h0 (by omega)
  omega

def f_w (v : Int32) : Int32 := if (v &&& 255) < 128 then (if (v &&& 255) < 240 then 1 else 2) else if (v &&& 255) < 192 then 0 else if (v &&& 255) < 240 then 1 else 2
def f_cnt (vs : List Int32) : Nat → Nat → Int32
  | _, 0 => 0
  | i, d + 1 => f_w (vs.getD i 0) + f_cnt vs (i + 1) d
def f_un (c : Int32) : Int32 := if c < 65536 then 1 else 2
def f_min (x z : Int32) : Int32 := if z < x then z else x
def f_max (x z : Int32) : Int32 := if x < z then z else x
def f_pick (i a0 a1 a2 a3 : Int32) : Int32 := if i = 0 then a0 else if i = 1 then a1 else if i = 2 then a2 else a3
def f_cp (p : Int32) : Int32 := if p &&& 3 = 0 then (XT.ushr p 2) &&& 127 else if p &&& 3 = 1 then 128 + (XT.ushr p 2) % 1920 else if p &&& 3 = 2 then (if 2048 + (XT.ushr p 2) % 61440 < 55296 then 2048 + (XT.ushr p 2) % 61440 else (2048 + (XT.ushr p 2) % 61440) + 2048) else 65536 + ((XT.ushr p 2) &&& 1048575)
theorem v_cnt_set (vs : List Int32) (k : Nat) (x : Int32) : ∀ (d i : Nat), (k < i ∨ i + d ≤ k) → f_cnt (vs.set k x) i d = f_cnt vs i d
  | 0, _, _ => rfl
  | d + 1, i, h => by
    show f_w ((vs.set k x).getD i 0) + f_cnt (vs.set k x) (i + 1) d = f_w (vs.getD i 0) + f_cnt vs (i + 1) d
    rw [v_cnt_set vs k x d (i + 1) (by omega)]
    have e : (vs.set k x).getD i 0 = vs.getD i 0 := by
      simp only [List.getD_eq_getElem?_getD]; rw [List.getElem?_set_ne (by omega)]
    rw [e]
theorem v_cnt_add (vs : List Int32) : ∀ (d1 i d2 : Nat), f_cnt vs i (d1 + d2) = f_cnt vs i d1 + f_cnt vs (i + d1) d2
  | 0, i, d2 => by rw [Nat.zero_add]; show _ = 0 + _; rw [Int32.zero_add]; rfl
  | d1 + 1, i, d2 => by
    rw [show d1 + 1 + d2 = (d1 + d2) + 1 by omega]
    show f_w (vs.getD i 0) + f_cnt vs (i + 1) (d1 + d2) = (f_w (vs.getD i 0) + f_cnt vs (i + 1) d1) + f_cnt vs (i + (d1 + 1)) d2
    rw [v_cnt_add vs d1 (i + 1) d2, Int32.add_assoc, show i + 1 + d1 = i + (d1 + 1) by omega]
theorem v_gs (vs : List Int32) (k : Nat) (x : Int32) (h : k < vs.length) : (vs.set k x).getD k 0 = x := by
  simp only [List.getD_eq_getElem?_getD]; rw [List.getElem?_set_self h]; rfl
theorem v_gn (vs : List Int32) (k j : Nat) (x : Int32) (h : k ≠ j) : (vs.set k x).getD j 0 = vs.getD j 0 := by
  simp only [List.getD_eq_getElem?_getD]; rw [List.getElem?_set_ne h]
/-- what a put leaves: the counts before the place as they were, the new character's count at it -/
def f_put (vs vs' : List Int32) (i ln : Nat) (cp z : Int32) : Prop := z.toInt = ((i + ln : Nat) : Int) ∧ 1 ≤ ln ∧ ln ≤ 4 ∧ vs'.length = vs.length ∧ (∀ a d, a + d ≤ i → f_cnt vs' a d = f_cnt vs a d) ∧ f_cnt vs' i ln = f_un cp
theorem v_t255 (v z : Int32) (n : Int) (h : v &&& 255 = z) (hz : z.toInt = n) : f_w v = (if n < 128 then (if n < 240 then 1 else 2) else if n < 192 then 0 else if n < 240 then 1 else 2) := by
  unfold f_w; rw [h]; simp only [Int32.lt_iff_toInt_lt, Int32.reduceToInt, hz]
theorem v_w1 (cp : Int32) (h0 : 0 ≤ cp.toInt) (h1 : cp.toInt < 128) : f_w (Int8.toInt32 (Int32.toInt8 cp)) = 1 := by
  rw [v_t255 _ cp cp.toInt (u_b cp h0 (by omega)) rfl, if_pos h1, if_pos (by omega)]
theorem v_wc (y : Int32) (hy : 0 ≤ y.toInt) : f_w (Int8.toInt32 (Int32.toInt8 (128 ||| (y &&& 63)))) = 0 := by
  obtain ⟨-, r⟩ := u_dr y 64 64 rfl (by decide) hy
  have a := u_add 128 (y % 64) 128 rfl (by omega) (by omega)
  rw [v_t255 _ _ _ (v_tail y y hy rfl) a, if_neg (by omega), if_pos (by omega)]
theorem v_w2 (cp : Int32) (h0 : 128 ≤ cp.toInt) (h1 : cp.toInt < 2048) : f_w (Int8.toInt32 (Int32.toInt8 (192 ||| (cp >>> ((6 : Int32) &&& 31))))) = 1 := by
  obtain ⟨d, -⟩ := u_dr cp 64 64 rfl (by decide) (by omega)
  have a := u_add 192 (cp / 64) 192 rfl (by omega) (by omega)
  rw [v_t255 _ _ _ (v_lead 192 6 64 cp 6 64 192 (by decide) (by decide) (by decide) (by decide) rfl rfl (by decide) 5 32 (by decide) (by decide) (by decide) (by decide) (by omega) (by omega) (by omega)) a, if_neg (by omega), if_neg (by omega), if_pos (by omega)]
theorem v_w3 (cp : Int32) (h0 : 2048 ≤ cp.toInt) (h1 : cp.toInt < 65536) : f_w (Int8.toInt32 (Int32.toInt8 (224 ||| (cp >>> ((12 : Int32) &&& 31))))) = 1 := by
  obtain ⟨d, -⟩ := u_dr cp 4096 4096 rfl (by decide) (by omega)
  have a := u_add 224 (cp / 4096) 224 rfl (by omega) (by omega)
  rw [v_t255 _ _ _ (v_lead 224 12 4096 cp 12 4096 224 (by decide) (by decide) (by decide) (by decide) rfl rfl (by decide) 4 16 (by decide) (by decide) (by decide) (by decide) (by omega) (by omega) (by omega)) a, if_neg (by omega), if_neg (by omega), if_pos (by omega)]
theorem v_w4 (cp : Int32) (h0 : 65536 ≤ cp.toInt) (h1 : cp.toInt ≤ 1114111) : f_w (Int8.toInt32 (Int32.toInt8 (240 ||| (cp >>> ((18 : Int32) &&& 31))))) = 2 := by
  obtain ⟨d, -⟩ := u_dr cp 262144 262144 rfl (by decide) (by omega)
  have a := u_add 240 (cp / 262144) 240 rfl (by omega) (by omega)
  rw [v_t255 _ _ _ (v_lead 240 18 262144 cp 18 262144 240 (by decide) (by decide) (by decide) (by decide) rfl rfl (by decide) 3 8 (by decide) (by decide) (by decide) (by decide) (by omega) (by omega) (by omega)) a, if_neg (by omega), if_neg (by omega), if_neg (by omega)]
theorem v_un1 (cp : Int32) (h : cp.toInt < 65536) : f_un cp = 1 := by unfold f_un; rw [if_pos (by rw [Int32.lt_iff_toInt_lt, show (65536 : Int32).toInt = 65536 from rfl]; exact h)]
theorem v_un2 (cp : Int32) (h : 65536 ≤ cp.toInt) : f_un cp = 2 := by unfold f_un; rw [if_neg (by rw [Int32.lt_iff_toInt_lt, show (65536 : Int32).toInt = 65536 from rfl]; omega)]
theorem v_sh0 (cp q : Int32) (k : Nat) (hk : (q &&& 31).toBitVec.smod 32 = BitVec.ofNat 32 k) (hk2 : k < 32) (h0 : 0 ≤ cp.toInt) : 0 ≤ (cp >>> (q &&& 31)).toInt := by
  rw [Jvm.Kit.i32_shr cp (q &&& 31) (k := k) (by rw [hk]; simp; omega)]
  exact Int.ediv_nonneg h0 (by exact_mod_cast Nat.zero_le _)
theorem v_ad (xi dd : Int32) (i d : Nat) (hi : xi.toInt = i) (hb : i < 100) (hd : dd.toInt = d) (hd2 : d < 100) : (xi + dd).toInt = ((i + d : Nat) : Int) := by
  rw [Jvm.Kit.i32_add (by omega) (by omega)]; omega
theorem v_put1 (vs : List Int32) (xi cp : Int32) (i : Nat) (hi : xi.toInt = i) (hb : i < 50) (hl : i + 1 ≤ vs.length) (h0 : 0 ≤ cp.toInt) (h1 : cp.toInt < 128) : f_put vs (List.set vs i (Int8.toInt32 (Int32.toInt8 cp))) i 1 cp (xi + 1) := by
  refine ⟨v_ad xi 1 i 1 hi (by omega) rfl (by omega), by omega, by omega, by simp, fun a d h => v_cnt_set _ _ _ _ _ (by omega), ?_⟩
  show f_w _ + 0 = _
  rw [v_gs _ _ _ (by omega), v_w1 cp h0 h1, v_un1 cp (by omega)]; rfl
theorem v_put2 (vs : List Int32) (xi cp : Int32) (i : Nat) (hi : xi.toInt = i) (hb : i < 50) (hl : i + 2 ≤ vs.length) (h0 : 128 ≤ cp.toInt) (h1 : cp.toInt < 2048) : f_put vs (List.set (List.set vs i (Int8.toInt32 (Int32.toInt8 (192 ||| (cp >>> ((6 : Int32) &&& 31)))))) (i + 1) (Int8.toInt32 (Int32.toInt8 (128 ||| (cp &&& 63))))) i 2 cp (xi + 2) := by
  refine ⟨v_ad xi 2 i 2 hi (by omega) rfl (by omega), by omega, by omega, by simp, fun a d h => by rw [v_cnt_set _ _ _ _ _ (by omega), v_cnt_set _ _ _ _ _ (by omega)], ?_⟩
  show f_w _ + (f_w _ + 0) = _
  rw [v_gs _ _ _ (by simp; omega), v_gn _ _ _ _ (by omega), v_gs _ _ _ (by omega), v_w2 cp h0 h1, v_wc cp (by omega), v_un1 cp (by omega)]; rfl
theorem v_put3 (vs : List Int32) (xi cp : Int32) (i : Nat) (hi : xi.toInt = i) (hb : i < 50) (hl : i + 3 ≤ vs.length) (h0 : 2048 ≤ cp.toInt) (h1 : cp.toInt < 65536) : f_put vs (List.set (List.set (List.set vs i (Int8.toInt32 (Int32.toInt8 (224 ||| (cp >>> ((12 : Int32) &&& 31)))))) (i + 1) (Int8.toInt32 (Int32.toInt8 (128 ||| ((cp >>> ((6 : Int32) &&& 31)) &&& 63))))) (i + 2) (Int8.toInt32 (Int32.toInt8 (128 ||| (cp &&& 63))))) i 3 cp (xi + 3) := by
  refine ⟨v_ad xi 3 i 3 hi (by omega) rfl (by omega), by omega, by omega, by simp, fun a d h => by rw [v_cnt_set _ _ _ _ _ (by omega), v_cnt_set _ _ _ _ _ (by omega), v_cnt_set _ _ _ _ _ (by omega)], ?_⟩
  have g0 : List.getD (List.set (List.set (List.set vs i (Int8.toInt32 (Int32.toInt8 (224 ||| (cp >>> ((12 : Int32) &&& 31)))))) (i + 1) (Int8.toInt32 (Int32.toInt8 (128 ||| ((cp >>> ((6 : Int32) &&& 31)) &&& 63))))) (i + 2) (Int8.toInt32 (Int32.toInt8 (128 ||| (cp &&& 63))))) i 0 = (Int8.toInt32 (Int32.toInt8 (224 ||| (cp >>> ((12 : Int32) &&& 31))))) := by rw [v_gn _ _ _ _ (by omega), v_gn _ _ _ _ (by omega), v_gs _ _ _ (by first | omega | (simp; omega))]
  have g1 : List.getD (List.set (List.set (List.set vs i (Int8.toInt32 (Int32.toInt8 (224 ||| (cp >>> ((12 : Int32) &&& 31)))))) (i + 1) (Int8.toInt32 (Int32.toInt8 (128 ||| ((cp >>> ((6 : Int32) &&& 31)) &&& 63))))) (i + 2) (Int8.toInt32 (Int32.toInt8 (128 ||| (cp &&& 63))))) (i + 1) 0 = (Int8.toInt32 (Int32.toInt8 (128 ||| ((cp >>> ((6 : Int32) &&& 31)) &&& 63)))) := by rw [v_gn _ _ _ _ (by omega), v_gs _ _ _ (by first | omega | (simp; omega))]
  have g2 : List.getD (List.set (List.set (List.set vs i (Int8.toInt32 (Int32.toInt8 (224 ||| (cp >>> ((12 : Int32) &&& 31)))))) (i + 1) (Int8.toInt32 (Int32.toInt8 (128 ||| ((cp >>> ((6 : Int32) &&& 31)) &&& 63))))) (i + 2) (Int8.toInt32 (Int32.toInt8 (128 ||| (cp &&& 63))))) (i + 2) 0 = (Int8.toInt32 (Int32.toInt8 (128 ||| (cp &&& 63)))) := by rw [v_gs _ _ _ (by first | omega | (simp; omega))]
  show f_w (List.getD (List.set (List.set (List.set vs i (Int8.toInt32 (Int32.toInt8 (224 ||| (cp >>> ((12 : Int32) &&& 31)))))) (i + 1) (Int8.toInt32 (Int32.toInt8 (128 ||| ((cp >>> ((6 : Int32) &&& 31)) &&& 63))))) (i + 2) (Int8.toInt32 (Int32.toInt8 (128 ||| (cp &&& 63))))) i 0) + (f_w (List.getD (List.set (List.set (List.set vs i (Int8.toInt32 (Int32.toInt8 (224 ||| (cp >>> ((12 : Int32) &&& 31)))))) (i + 1) (Int8.toInt32 (Int32.toInt8 (128 ||| ((cp >>> ((6 : Int32) &&& 31)) &&& 63))))) (i + 2) (Int8.toInt32 (Int32.toInt8 (128 ||| (cp &&& 63))))) (i + 1) 0) + (f_w (List.getD (List.set (List.set (List.set vs i (Int8.toInt32 (Int32.toInt8 (224 ||| (cp >>> ((12 : Int32) &&& 31)))))) (i + 1) (Int8.toInt32 (Int32.toInt8 (128 ||| ((cp >>> ((6 : Int32) &&& 31)) &&& 63))))) (i + 2) (Int8.toInt32 (Int32.toInt8 (128 ||| (cp &&& 63))))) (i + 2) 0) + 0)) = _
  rw [g0, g1, g2, v_w3 cp h0 h1, v_wc cp (by omega), v_wc _ (v_sh0 cp 6 6 (by decide) (by decide) (by omega)), v_un1 cp (by omega)]; rfl
theorem v_put4 (vs : List Int32) (xi cp : Int32) (i : Nat) (hi : xi.toInt = i) (hb : i < 50) (hl : i + 4 ≤ vs.length) (h0 : 65536 ≤ cp.toInt) (h1 : cp.toInt ≤ 1114111) : f_put vs (List.set (List.set (List.set (List.set vs i (Int8.toInt32 (Int32.toInt8 (240 ||| (cp >>> ((18 : Int32) &&& 31)))))) (i + 1) (Int8.toInt32 (Int32.toInt8 (128 ||| ((cp >>> ((12 : Int32) &&& 31)) &&& 63))))) (i + 2) (Int8.toInt32 (Int32.toInt8 (128 ||| ((cp >>> ((6 : Int32) &&& 31)) &&& 63))))) (i + 3) (Int8.toInt32 (Int32.toInt8 (128 ||| (cp &&& 63))))) i 4 cp (xi + 4) := by
  refine ⟨v_ad xi 4 i 4 hi (by omega) rfl (by omega), by omega, by omega, by simp, fun a d h => by rw [v_cnt_set _ _ _ _ _ (by omega), v_cnt_set _ _ _ _ _ (by omega), v_cnt_set _ _ _ _ _ (by omega), v_cnt_set _ _ _ _ _ (by omega)], ?_⟩
  have g0 : List.getD (List.set (List.set (List.set (List.set vs i (Int8.toInt32 (Int32.toInt8 (240 ||| (cp >>> ((18 : Int32) &&& 31)))))) (i + 1) (Int8.toInt32 (Int32.toInt8 (128 ||| ((cp >>> ((12 : Int32) &&& 31)) &&& 63))))) (i + 2) (Int8.toInt32 (Int32.toInt8 (128 ||| ((cp >>> ((6 : Int32) &&& 31)) &&& 63))))) (i + 3) (Int8.toInt32 (Int32.toInt8 (128 ||| (cp &&& 63))))) i 0 = (Int8.toInt32 (Int32.toInt8 (240 ||| (cp >>> ((18 : Int32) &&& 31))))) := by rw [v_gn _ _ _ _ (by omega), v_gn _ _ _ _ (by omega), v_gn _ _ _ _ (by omega), v_gs _ _ _ (by first | omega | (simp; omega))]
  have g1 : List.getD (List.set (List.set (List.set (List.set vs i (Int8.toInt32 (Int32.toInt8 (240 ||| (cp >>> ((18 : Int32) &&& 31)))))) (i + 1) (Int8.toInt32 (Int32.toInt8 (128 ||| ((cp >>> ((12 : Int32) &&& 31)) &&& 63))))) (i + 2) (Int8.toInt32 (Int32.toInt8 (128 ||| ((cp >>> ((6 : Int32) &&& 31)) &&& 63))))) (i + 3) (Int8.toInt32 (Int32.toInt8 (128 ||| (cp &&& 63))))) (i + 1) 0 = (Int8.toInt32 (Int32.toInt8 (128 ||| ((cp >>> ((12 : Int32) &&& 31)) &&& 63)))) := by rw [v_gn _ _ _ _ (by omega), v_gn _ _ _ _ (by omega), v_gs _ _ _ (by first | omega | (simp; omega))]
  have g2 : List.getD (List.set (List.set (List.set (List.set vs i (Int8.toInt32 (Int32.toInt8 (240 ||| (cp >>> ((18 : Int32) &&& 31)))))) (i + 1) (Int8.toInt32 (Int32.toInt8 (128 ||| ((cp >>> ((12 : Int32) &&& 31)) &&& 63))))) (i + 2) (Int8.toInt32 (Int32.toInt8 (128 ||| ((cp >>> ((6 : Int32) &&& 31)) &&& 63))))) (i + 3) (Int8.toInt32 (Int32.toInt8 (128 ||| (cp &&& 63))))) (i + 2) 0 = (Int8.toInt32 (Int32.toInt8 (128 ||| ((cp >>> ((6 : Int32) &&& 31)) &&& 63)))) := by rw [v_gn _ _ _ _ (by omega), v_gs _ _ _ (by first | omega | (simp; omega))]
  have g3 : List.getD (List.set (List.set (List.set (List.set vs i (Int8.toInt32 (Int32.toInt8 (240 ||| (cp >>> ((18 : Int32) &&& 31)))))) (i + 1) (Int8.toInt32 (Int32.toInt8 (128 ||| ((cp >>> ((12 : Int32) &&& 31)) &&& 63))))) (i + 2) (Int8.toInt32 (Int32.toInt8 (128 ||| ((cp >>> ((6 : Int32) &&& 31)) &&& 63))))) (i + 3) (Int8.toInt32 (Int32.toInt8 (128 ||| (cp &&& 63))))) (i + 3) 0 = (Int8.toInt32 (Int32.toInt8 (128 ||| (cp &&& 63)))) := by rw [v_gs _ _ _ (by first | omega | (simp; omega))]
  show f_w (List.getD (List.set (List.set (List.set (List.set vs i (Int8.toInt32 (Int32.toInt8 (240 ||| (cp >>> ((18 : Int32) &&& 31)))))) (i + 1) (Int8.toInt32 (Int32.toInt8 (128 ||| ((cp >>> ((12 : Int32) &&& 31)) &&& 63))))) (i + 2) (Int8.toInt32 (Int32.toInt8 (128 ||| ((cp >>> ((6 : Int32) &&& 31)) &&& 63))))) (i + 3) (Int8.toInt32 (Int32.toInt8 (128 ||| (cp &&& 63))))) i 0) + (f_w (List.getD (List.set (List.set (List.set (List.set vs i (Int8.toInt32 (Int32.toInt8 (240 ||| (cp >>> ((18 : Int32) &&& 31)))))) (i + 1) (Int8.toInt32 (Int32.toInt8 (128 ||| ((cp >>> ((12 : Int32) &&& 31)) &&& 63))))) (i + 2) (Int8.toInt32 (Int32.toInt8 (128 ||| ((cp >>> ((6 : Int32) &&& 31)) &&& 63))))) (i + 3) (Int8.toInt32 (Int32.toInt8 (128 ||| (cp &&& 63))))) (i + 1) 0) + (f_w (List.getD (List.set (List.set (List.set (List.set vs i (Int8.toInt32 (Int32.toInt8 (240 ||| (cp >>> ((18 : Int32) &&& 31)))))) (i + 1) (Int8.toInt32 (Int32.toInt8 (128 ||| ((cp >>> ((12 : Int32) &&& 31)) &&& 63))))) (i + 2) (Int8.toInt32 (Int32.toInt8 (128 ||| ((cp >>> ((6 : Int32) &&& 31)) &&& 63))))) (i + 3) (Int8.toInt32 (Int32.toInt8 (128 ||| (cp &&& 63))))) (i + 2) 0) + (f_w (List.getD (List.set (List.set (List.set (List.set vs i (Int8.toInt32 (Int32.toInt8 (240 ||| (cp >>> ((18 : Int32) &&& 31)))))) (i + 1) (Int8.toInt32 (Int32.toInt8 (128 ||| ((cp >>> ((12 : Int32) &&& 31)) &&& 63))))) (i + 2) (Int8.toInt32 (Int32.toInt8 (128 ||| ((cp >>> ((6 : Int32) &&& 31)) &&& 63))))) (i + 3) (Int8.toInt32 (Int32.toInt8 (128 ||| (cp &&& 63))))) (i + 3) 0) + 0))) = _
  rw [g0, g1, g2, g3, v_w4 cp h0 h1, v_wc cp (by omega), v_wc _ (v_sh0 cp 12 12 (by decide) (by decide) (by omega)), v_wc _ (v_sh0 cp 6 6 (by decide) (by decide) (by omega)), v_un2 cp (by omega)]; rfl
theorem v_us (p : Int32) : 0 ≤ (XT.ushr p 2).toInt := by
  have h := c_iushr p 2 2 (by decide) (by decide)
  show 0 ≤ ((p.toUInt32 >>> ((2 : Int32) &&& 31).toUInt32).toInt32).toInt
  rw [h]; omega
theorem v_ad2 (y a : Int32) (d : Int) (ha : a.toInt = d) (h1 : -2147483648 ≤ y.toInt + d) (h2 : y.toInt + d < 2147483648) : (y + a).toInt = y.toInt + d := by
  subst ha; exact Jvm.Kit.i32_add h1 h2
theorem v_cpr (p : Int32) : 0 ≤ (f_cp p).toInt ∧ (f_cp p).toInt ≤ 1114111 := by
  have h := v_us p
  unfold f_cp
  generalize XT.ushr p 2 = y at *
  have m1 := Jvm.Kit.i32_mask y 127 (k := 7) (by decide) (by decide)
  have m4 := Jvm.Kit.i32_mask y 1048575 (k := 20) (by decide) (by decide)
  obtain ⟨-, r2⟩ := u_dr y 1920 1920 rfl (by decide) h
  obtain ⟨-, r3⟩ := u_dr y 61440 61440 rfl (by decide) h
  have a2 := u_add 128 (y % 1920) 128 rfl (by omega) (by omega)
  have a3 := u_add 2048 (y % 61440) 2048 rfl (by omega) (by omega)
  have a3b := v_ad2 (2048 + y % 61440) 2048 2048 rfl (by omega) (by omega)
  have a4 := u_add 65536 (y &&& 1048575) 65536 rfl (by omega) (by omega)
  split
  · omega
  · split
    · omega
    · split
      · split <;> omega
      · omega
theorem v_fin (vs : List Int32) (a b i j : Nat) (x : Int32) (h : a + b = j) (hi : f_cnt vs i j = x) : f_cnt vs i (a + b) = x := h ▸ hi
theorem v_k (x : Int32) : x &&& 3 = 0 ∨ x &&& 3 = 1 ∨ x &&& 3 = 2 ∨ x &&& 3 = 3 := by
  have := Jvm.Kit.i32_mask x 3 (k := 2) (by decide) (by decide)
  simp only [← Int32.toInt_inj, Int32.reduceToInt]; omega
set_option maxRecDepth 65536 in
set_option maxHeartbeats 40000000 in
theorem c_cp (l : Launch) (Z : State) (a0 : Array Value) (hw : ∀ d ∈ tables_1, d.before a0 Z = true) (ws : List Jvm.Cond) (n0 : Nat) (h0 : Heap) (hn0 : n0 ≤ h0.size) (xp : Int32) :
    OC l Z (⟨"org/bindloom/internal/Utf8CharCountPinLaw", "codePoint", "(I)I"⟩ : MethodName) method_2_code 4 (some .int) ws ({ frames := 0, cells := 0, slots := 0, locals := 0 } : Room) n0 #[(.int xp)] h0 (fun r h => r = some (.int (f_cp xp)) ∧ h0 = h) := by
  refine OC.of (plainFor_of_name pn_0) hn0 #[.val (.int xp), .unset, .unset, .unset] (fun m => by first | (simp [entryFrame, mkF, argsToLocals, Value.category, maxLocals]; done) | rfl) ?_
  intro p e s m below meth cd0 T0 X0 Q' hQ
  refine o_iloadN X0 d1_0 rfl 1 rfl ?_
  refine o_iconst (v := (3 : Int32)) X0 d1_1 rfl 2 rfl ?_
  refine o_iand X0 d1_2 3 rfl ?_
  refine o_istoreN X0 d1_3 #[.val (.int xp), .val (.int (xp &&& (3 : Int32))), .unset, .unset] rfl 4 rfl ?_
  refine o_iloadN X0 d1_4 rfl 5 rfl ?_
  refine o_iconst (v := (2 : Int32)) X0 d1_5 rfl 6 rfl ?_
  refine o_iushr X0 d1_6 7 rfl ?_
  refine o_istoreN X0 d1_7 #[.val (.int xp), .val (.int (xp &&& (3 : Int32))), .val (.int (XT.ushr xp (2 : Int32))), .unset] rfl 8 rfl ?_
  refine o_iloadN X0 d1_8 rfl 9 rfl ?_
  refine o_ifNe X0 d1_9 20 12 (by decide) (by decide) rfl ?_ ?_
  · intro hc9
    refine o_iloadN X0 d1_20 rfl 21 rfl ?_
    refine o_iconst (v := (1 : Int32)) X0 d1_21 rfl 22 rfl ?_
    refine o_icmpNe X0 d1_22 38 25 (by decide) (by decide) rfl ?_ ?_
    · intro hc22
      refine o_iloadN X0 d1_38 rfl 39 rfl ?_
      refine o_iconst (v := (2 : Int32)) X0 d1_39 rfl 40 rfl ?_
      refine o_icmpNe X0 d1_40 67 43 (by decide) (by decide) rfl ?_ ?_
      · intro hc40
        refine o_ldc (v := (65536 : Int32)) X0 d1_67 (hw _ (List.mem_of_getElem? (i := 4) rfl)) 69 rfl ?_
        refine o_iloadN X0 d1_69 rfl 70 rfl ?_
        refine o_ldc (v := (1048575 : Int32)) X0 d1_70 (hw _ (List.mem_of_getElem? (i := 5) rfl)) 72 rfl ?_
        refine o_iand X0 d1_72 73 rfl ?_
        refine o_iadd X0 d1_73 74 rfl ?_
        refine o_istoreN X0 d1_74 #[.val (.int xp), .val (.int (xp &&& (3 : Int32))), .val (.int (XT.ushr xp (2 : Int32))), .val (.int ((65536 : Int32) + ((XT.ushr xp (2 : Int32)) &&& (1048575 : Int32))))] rfl 75 rfl ?_
        refine o_iloadN X0 d1_75 rfl 76 rfl ?_
        exact o_retI X0 d1_76 (by decide) (by decide) (hQ _ _ ⟨by show some (Value.int ((65536 : Int32) + ((XT.ushr xp (2 : Int32)) &&& (1048575 : Int32)))) = some (Value.int (f_cp xp)); simp [f_cp, hc9, hc22, hc40], rfl⟩)
      · intro hc40
        refine o_sipush (v := (2048 : Int32)) X0 d1_43 rfl 46 rfl ?_
        refine o_iloadN X0 d1_46 rfl 47 rfl ?_
        refine o_ldc (v := (61440 : Int32)) X0 d1_47 (hw _ (List.mem_of_getElem? (i := 6) rfl)) 49 rfl ?_
        refine o_irem X0 d1_49 (by decide) 50 rfl ?_
        refine o_iadd X0 d1_50 51 rfl ?_
        refine o_istoreN X0 d1_51 #[.val (.int xp), .val (.int (xp &&& (3 : Int32))), .val (.int (XT.ushr xp (2 : Int32))), .val (.int ((2048 : Int32) + ((XT.ushr xp (2 : Int32)) % (61440 : Int32))))] rfl 52 rfl ?_
        refine o_iloadN X0 d1_52 rfl 53 rfl ?_
        refine o_ldc (v := (55296 : Int32)) X0 d1_53 (hw _ (List.mem_of_getElem? (i := 7) rfl)) 55 rfl ?_
        refine o_icmpLt X0 d1_55 75 58 (by decide) (by decide) rfl ?_ ?_
        · intro hc55
          refine o_iloadN X0 d1_75 rfl 76 rfl ?_
          exact o_retI X0 d1_76 (by decide) (by decide) (hQ _ _ ⟨by show some (Value.int ((2048 : Int32) + ((XT.ushr xp (2 : Int32)) % (61440 : Int32)))) = some (Value.int (f_cp xp)); simp [f_cp, hc9, hc22, hc40, hc55], rfl⟩)
        · intro hc55
          refine o_iloadN X0 d1_58 rfl 59 rfl ?_
          refine o_sipush (v := (2048 : Int32)) X0 d1_59 rfl 62 rfl ?_
          refine o_iadd X0 d1_62 63 rfl ?_
          refine o_istoreN X0 d1_63 #[.val (.int xp), .val (.int (xp &&& (3 : Int32))), .val (.int (XT.ushr xp (2 : Int32))), .val (.int (((2048 : Int32) + ((XT.ushr xp (2 : Int32)) % (61440 : Int32))) + (2048 : Int32)))] rfl 64 rfl ?_
          refine o_goto X0 d1_64 75 (by decide) (by decide) ?_
          refine o_iloadN X0 d1_75 rfl 76 rfl ?_
          exact o_retI X0 d1_76 (by decide) (by decide) (hQ _ _ ⟨by show some (Value.int (((2048 : Int32) + ((XT.ushr xp (2 : Int32)) % (61440 : Int32))) + (2048 : Int32))) = some (Value.int (f_cp xp)); simp [f_cp, hc9, hc22, hc40, hc55], rfl⟩)
    · intro hc22
      refine o_sipush (v := (128 : Int32)) X0 d1_25 rfl 28 rfl ?_
      refine o_iloadN X0 d1_28 rfl 29 rfl ?_
      refine o_sipush (v := (1920 : Int32)) X0 d1_29 rfl 32 rfl ?_
      refine o_irem X0 d1_32 (by decide) 33 rfl ?_
      refine o_iadd X0 d1_33 34 rfl ?_
      refine o_istoreN X0 d1_34 #[.val (.int xp), .val (.int (xp &&& (3 : Int32))), .val (.int (XT.ushr xp (2 : Int32))), .val (.int ((128 : Int32) + ((XT.ushr xp (2 : Int32)) % (1920 : Int32))))] rfl 35 rfl ?_
      refine o_goto X0 d1_35 75 (by decide) (by decide) ?_
      refine o_iloadN X0 d1_75 rfl 76 rfl ?_
      exact o_retI X0 d1_76 (by decide) (by decide) (hQ _ _ ⟨by show some (Value.int ((128 : Int32) + ((XT.ushr xp (2 : Int32)) % (1920 : Int32)))) = some (Value.int (f_cp xp)); simp [f_cp, hc9, hc22], rfl⟩)
  · intro hc9
    refine o_iloadN X0 d1_12 rfl 13 rfl ?_
    refine o_bipush (v := (127 : Int32)) X0 d1_13 rfl 15 rfl ?_
    refine o_iand X0 d1_15 16 rfl ?_
    refine o_istoreN X0 d1_16 #[.val (.int xp), .val (.int (xp &&& (3 : Int32))), .val (.int (XT.ushr xp (2 : Int32))), .val (.int ((XT.ushr xp (2 : Int32)) &&& (127 : Int32)))] rfl 17 rfl ?_
    refine o_goto X0 d1_17 75 (by decide) (by decide) ?_
    refine o_iloadN X0 d1_75 rfl 76 rfl ?_
    exact o_retI X0 d1_76 (by decide) (by decide) (hQ _ _ ⟨by show some (Value.int ((XT.ushr xp (2 : Int32)) &&& (127 : Int32))) = some (Value.int (f_cp xp)); simp [f_cp, hc9], rfl⟩)
set_option maxRecDepth 65536 in
set_option maxHeartbeats 40000000 in
theorem c_un (l : Launch) (Z : State) (a0 : Array Value) (hw : ∀ d ∈ tables_1, d.before a0 Z = true) (ws : List Jvm.Cond) (n0 : Nat) (h0 : Heap) (hn0 : n0 ≤ h0.size) (xc : Int32) :
    OC l Z (⟨"org/bindloom/internal/Utf8CharCountPinLaw", "units", "(I)I"⟩ : MethodName) method_4_code 1 (some .int) ws ({ frames := 0, cells := 0, slots := 0, locals := 0 } : Room) n0 #[(.int xc)] h0 (fun r h => r = some (.int (f_un xc)) ∧ h0 = h) := by
  refine OC.of (plainFor_of_name pn_0) hn0 #[.val (.int xc)] (fun m => by first | (simp [entryFrame, mkF, argsToLocals, Value.category, maxLocals]; done) | rfl) ?_
  intro p e s m below meth cd0 T0 X0 Q' hQ
  refine o_iloadN X0 d3_0 rfl 1 rfl ?_
  refine o_ldc (v := (65536 : Int32)) X0 d3_1 (hw _ (List.mem_of_getElem? (i := 4) rfl)) 3 rfl ?_
  refine o_icmpGe X0 d3_3 10 6 (by decide) (by decide) rfl ?_ ?_
  · intro hc3
    refine o_iconst (v := (2 : Int32)) X0 d3_10 rfl 11 rfl ?_
    exact o_retI X0 d3_11 (by decide) (by decide) (hQ _ _ ⟨by show some (Value.int (2 : Int32)) = some (Value.int (f_un xc)); simp [f_un, hc3], rfl⟩)
  · intro hc3
    refine o_iconst (v := (1 : Int32)) X0 d3_6 rfl 7 rfl ?_
    refine o_goto X0 d3_7 11 (by decide) (by decide) ?_
    exact o_retI X0 d3_11 (by decide) (by decide) (hQ _ _ ⟨by show some (Value.int (1 : Int32)) = some (Value.int (f_un xc)); simp [f_un, hc3], rfl⟩)
set_option maxRecDepth 65536 in
set_option maxHeartbeats 40000000 in
theorem c_min (l : Launch) (Z : State) (a0 : Array Value) (hw : ∀ d ∈ tables_1, d.before a0 Z = true) (ws : List Jvm.Cond) (n0 : Nat) (h0 : Heap) (hn0 : n0 ≤ h0.size) (xx : Int32) (xz : Int32) :
    OC l Z (⟨"java/lang/Math", "min", "(II)I"⟩ : MethodName) jdk_29_method_69_code 2 (some .int) ws ({ frames := 0, cells := 0, slots := 0, locals := 0 } : Room) n0 #[(.int xx), (.int xz)] h0 (fun r h => r = some (.int (f_min xx xz)) ∧ h0 = h) := by
  refine OC.of pf_4 hn0 #[.val (.int xx), .val (.int xz)] (fun m => by first | (simp [entryFrame, mkF, argsToLocals, Value.category, maxLocals]; done) | rfl) ?_
  intro p e s m below meth cd0 T0 X0 Q' hQ
  refine o_iloadN X0 d4_0 rfl 1 rfl ?_
  refine o_iloadN X0 d4_1 rfl 2 rfl ?_
  refine o_icmpGt X0 d4_2 9 5 (by decide) (by decide) rfl ?_ ?_
  · intro hc2
    refine o_iloadN X0 d4_9 rfl 10 rfl ?_
    exact o_retI X0 d4_10 (by decide) (by decide) (hQ _ _ ⟨by show some (Value.int xz) = some (Value.int (f_min xx xz)); simp [f_min, hc2], rfl⟩)
  · intro hc2
    refine o_iloadN X0 d4_5 rfl 6 rfl ?_
    refine o_goto X0 d4_6 10 (by decide) (by decide) ?_
    exact o_retI X0 d4_10 (by decide) (by decide) (hQ _ _ ⟨by show some (Value.int xx) = some (Value.int (f_min xx xz)); simp [f_min, hc2], rfl⟩)
set_option maxRecDepth 65536 in
set_option maxHeartbeats 40000000 in
theorem c_max (l : Launch) (Z : State) (a0 : Array Value) (hw : ∀ d ∈ tables_1, d.before a0 Z = true) (ws : List Jvm.Cond) (n0 : Nat) (h0 : Heap) (hn0 : n0 ≤ h0.size) (xx : Int32) (xz : Int32) :
    OC l Z (⟨"java/lang/Math", "max", "(II)I"⟩ : MethodName) jdk_29_method_65_code 2 (some .int) ws ({ frames := 0, cells := 0, slots := 0, locals := 0 } : Room) n0 #[(.int xx), (.int xz)] h0 (fun r h => r = some (.int (f_max xx xz)) ∧ h0 = h) := by
  refine OC.of pf_5 hn0 #[.val (.int xx), .val (.int xz)] (fun m => by first | (simp [entryFrame, mkF, argsToLocals, Value.category, maxLocals]; done) | rfl) ?_
  intro p e s m below meth cd0 T0 X0 Q' hQ
  refine o_iloadN X0 d5_0 rfl 1 rfl ?_
  refine o_iloadN X0 d5_1 rfl 2 rfl ?_
  refine o_icmpLt X0 d5_2 9 5 (by decide) (by decide) rfl ?_ ?_
  · intro hc2
    refine o_iloadN X0 d5_9 rfl 10 rfl ?_
    exact o_retI X0 d5_10 (by decide) (by decide) (hQ _ _ ⟨by show some (Value.int xz) = some (Value.int (f_max xx xz)); simp [f_max, hc2], rfl⟩)
  · intro hc2
    refine o_iloadN X0 d5_5 rfl 6 rfl ?_
    refine o_goto X0 d5_6 10 (by decide) (by decide) ?_
    exact o_retI X0 d5_10 (by decide) (by decide) (hQ _ _ ⟨by show some (Value.int xx) = some (Value.int (f_max xx xz)); simp [f_max, hc2], rfl⟩)
set_option maxRecDepth 65536 in
set_option maxHeartbeats 40000000 in
theorem c_pick (l : Launch) (Z : State) (a0 : Array Value) (hw : ∀ d ∈ tables_1, d.before a0 Z = true) (ws : List Jvm.Cond) (n0 : Nat) (h0 : Heap) (hn0 : n0 ≤ h0.size) (xi : Int32) (x0 : Int32) (x1 : Int32) (x2 : Int32) (x3 : Int32) :
    OC l Z (⟨"org/bindloom/internal/Utf8CharCountPinLaw", "pick", "(IIIII)I"⟩ : MethodName) method_5_code 5 (some .int) ws ({ frames := 0, cells := 0, slots := 0, locals := 0 } : Room) n0 #[(.int xi), (.int x0), (.int x1), (.int x2), (.int x3)] h0 (fun r h => r = some (.int (f_pick xi x0 x1 x2 x3)) ∧ h0 = h) := by
  refine OC.of (plainFor_of_name pn_0) hn0 #[.val (.int xi), .val (.int x0), .val (.int x1), .val (.int x2), .val (.int x3)] (fun m => by first | (simp [entryFrame, mkF, argsToLocals, Value.category, maxLocals]; done) | rfl) ?_
  intro p e s m below meth cd0 T0 X0 Q' hQ
  refine o_iloadN X0 d6_0 rfl 1 rfl ?_
  refine o_ifNe X0 d6_1 6 4 (by decide) (by decide) rfl ?_ ?_
  · intro hc1
    refine o_iloadN X0 d6_6 rfl 7 rfl ?_
    refine o_iconst (v := (1 : Int32)) X0 d6_7 rfl 8 rfl ?_
    refine o_icmpNe X0 d6_8 13 11 (by decide) (by decide) rfl ?_ ?_
    · intro hc8
      refine o_iloadN X0 d6_13 rfl 14 rfl ?_
      refine o_iconst (v := (2 : Int32)) X0 d6_14 rfl 15 rfl ?_
      refine o_icmpNe X0 d6_15 20 18 (by decide) (by decide) rfl ?_ ?_
      · intro hc15
        refine o_iload X0 d6_20 rfl 22 rfl ?_
        exact o_retI X0 d6_22 (by decide) (by decide) (hQ _ _ ⟨by show some (Value.int x3) = some (Value.int (f_pick xi x0 x1 x2 x3)); simp [f_pick, hc1, hc8, hc15], rfl⟩)
      · intro hc15
        refine o_iloadN X0 d6_18 rfl 19 rfl ?_
        exact o_retI X0 d6_19 (by decide) (by decide) (hQ _ _ ⟨by show some (Value.int x2) = some (Value.int (f_pick xi x0 x1 x2 x3)); simp [f_pick, hc1, hc8, hc15], rfl⟩)
    · intro hc8
      refine o_iloadN X0 d6_11 rfl 12 rfl ?_
      exact o_retI X0 d6_12 (by decide) (by decide) (hQ _ _ ⟨by show some (Value.int x1) = some (Value.int (f_pick xi x0 x1 x2 x3)); simp [f_pick, hc1, hc8], rfl⟩)
  · intro hc1
    refine o_iloadN X0 d6_4 rfl 5 rfl ?_
    exact o_retI X0 d6_5 (by decide) (by decide) (hQ _ _ ⟨by show some (Value.int x0) = some (Value.int (f_pick xi x0 x1 x2 x3)); simp [f_pick, hc1], rfl⟩)
set_option maxRecDepth 65536 in
set_option maxHeartbeats 40000000 in
theorem c_put (l : Launch) (Z : State) (a0 : Array Value) (hw : ∀ d ∈ tables_1, d.before a0 Z = true) (ws : List Jvm.Cond) (n0 : Nat) (h0 : Heap) (hn0 : n0 ≤ h0.size) (xa : Addr) (xt xc : Int32) (vs : List Int32) (L' : List (Addr × (Cell → Prop))) (H0 : OL n0 h0 ((xa, OA Z .byte vs) :: L')) (i : Nat) (hi : xt.toInt = i) (hb : i < 50) (hl : i + 4 ≤ vs.length) (hc0 : 0 ≤ xc.toInt) (hc1 : xc.toInt ≤ 1114111) :
    OC l Z (⟨"org/bindloom/internal/Utf8CharCountPinLaw", "put", "([BII)I"⟩ : MethodName) method_3_code 3 (some .int) ws ({ frames := 0, cells := 0, slots := 0, locals := 0 } : Room) n0 #[(.ref xa), (.int xt), (.int xc)] h0 (fun r h => ∃ (vs' : List Int32) (ln : Nat) (z : Int32), r = some (.int z) ∧ OL n0 h ((xa, OA Z .byte vs') :: L') ∧ f_put vs vs' i ln xc z) := by
  refine OC.of (plainFor_of_name pn_0) hn0 #[.val (.ref xa), .val (.int xt), .val (.int xc)] (fun m => by first | (simp [entryFrame, mkF, argsToLocals, Value.category, maxLocals]; done) | rfl) ?_
  intro p e s m below meth cd0 T0 X0 Q' hQ
  refine o_iloadN X0 d2_0 rfl 1 rfl ?_
  refine o_sipush (v := (128 : Int32)) X0 d2_1 rfl 4 rfl ?_
  refine o_icmpGe X0 d2_4 16 7 (by decide) (by decide) rfl ?_ ?_
  · intro hc4
    refine o_iloadN X0 d2_16 rfl 17 rfl ?_
    refine o_sipush (v := (2048 : Int32)) X0 d2_17 rfl 20 rfl ?_
    refine o_icmpGe X0 d2_20 53 23 (by decide) (by decide) rfl ?_ ?_
    · intro hc20
      refine o_iloadN X0 d2_53 rfl 54 rfl ?_
      refine o_ldc (v := (65536 : Int32)) X0 d2_54 (hw _ (List.mem_of_getElem? (i := 4) rfl)) 56 rfl ?_
      refine o_icmpGe X0 d2_56 106 59 (by decide) (by decide) rfl ?_ ?_
      · intro hc56
        refine o_aloadN X0 d2_106 rfl rfl 107 rfl ?_
        refine o_iloadN X0 d2_107 rfl 108 rfl ?_
        refine o_sipush (v := (240 : Int32)) X0 d2_108 rfl 111 rfl ?_
        refine o_iloadN X0 d2_111 rfl 112 rfl ?_
        refine o_bipush (v := (18 : Int32)) X0 d2_112 rfl 114 rfl ?_
        refine o_ishr X0 d2_114 115 rfl ?_
        refine o_ior X0 d2_115 116 rfl ?_
        refine o_i2b X0 d2_116 117 rfl ?_
        refine o_bastoreB X0 H0 0 rfl d2_117 i hi (by omega) (Int8.toInt32 (Int32.toInt8 ((240 : Int32) ||| (xc >>> ((18 : Int32) &&& 31))))) (o_b8 _) 118 rfl ?_
        intro T1 h1 X1 H1
        replace H1 : OL n0 h1 ((xa, OA Z .byte (List.set vs i (Int8.toInt32 (Int32.toInt8 ((240 : Int32) ||| (xc >>> ((18 : Int32) &&& 31))))))) :: L') := H1
        refine o_aloadN X1 d2_118 rfl rfl 119 rfl ?_
        refine o_iloadN X1 d2_119 rfl 120 rfl ?_
        refine o_iconst (v := (1 : Int32)) X1 d2_120 rfl 121 rfl ?_
        refine o_iadd X1 d2_121 122 rfl ?_
        refine o_sipush (v := (128 : Int32)) X1 d2_122 rfl 125 rfl ?_
        refine o_iloadN X1 d2_125 rfl 126 rfl ?_
        refine o_bipush (v := (12 : Int32)) X1 d2_126 rfl 128 rfl ?_
        refine o_ishr X1 d2_128 129 rfl ?_
        refine o_bipush (v := (63 : Int32)) X1 d2_129 rfl 131 rfl ?_
        refine o_iand X1 d2_131 132 rfl ?_
        refine o_ior X1 d2_132 133 rfl ?_
        refine o_i2b X1 d2_133 134 rfl ?_
        refine o_bastoreB X1 H1 0 rfl d2_134 (i + 1) (v_ad xt 1 i 1 hi (by omega) rfl (by decide)) (by first | omega | (simp; omega)) (Int8.toInt32 (Int32.toInt8 ((128 : Int32) ||| ((xc >>> ((12 : Int32) &&& 31)) &&& (63 : Int32))))) (o_b8 _) 135 rfl ?_
        intro T2 h2 X2 H2
        replace H2 : OL n0 h2 ((xa, OA Z .byte (List.set (List.set vs i (Int8.toInt32 (Int32.toInt8 ((240 : Int32) ||| (xc >>> ((18 : Int32) &&& 31)))))) (i + 1) (Int8.toInt32 (Int32.toInt8 ((128 : Int32) ||| ((xc >>> ((12 : Int32) &&& 31)) &&& (63 : Int32))))))) :: L') := H2
        refine o_aloadN X2 d2_135 rfl rfl 136 rfl ?_
        refine o_iloadN X2 d2_136 rfl 137 rfl ?_
        refine o_iconst (v := (2 : Int32)) X2 d2_137 rfl 138 rfl ?_
        refine o_iadd X2 d2_138 139 rfl ?_
        refine o_sipush (v := (128 : Int32)) X2 d2_139 rfl 142 rfl ?_
        refine o_iloadN X2 d2_142 rfl 143 rfl ?_
        refine o_bipush (v := (6 : Int32)) X2 d2_143 rfl 145 rfl ?_
        refine o_ishr X2 d2_145 146 rfl ?_
        refine o_bipush (v := (63 : Int32)) X2 d2_146 rfl 148 rfl ?_
        refine o_iand X2 d2_148 149 rfl ?_
        refine o_ior X2 d2_149 150 rfl ?_
        refine o_i2b X2 d2_150 151 rfl ?_
        refine o_bastoreB X2 H2 0 rfl d2_151 (i + 2) (v_ad xt 2 i 2 hi (by omega) rfl (by decide)) (by first | omega | (simp; omega)) (Int8.toInt32 (Int32.toInt8 ((128 : Int32) ||| ((xc >>> ((6 : Int32) &&& 31)) &&& (63 : Int32))))) (o_b8 _) 152 rfl ?_
        intro T3 h3 X3 H3
        replace H3 : OL n0 h3 ((xa, OA Z .byte (List.set (List.set (List.set vs i (Int8.toInt32 (Int32.toInt8 ((240 : Int32) ||| (xc >>> ((18 : Int32) &&& 31)))))) (i + 1) (Int8.toInt32 (Int32.toInt8 ((128 : Int32) ||| ((xc >>> ((12 : Int32) &&& 31)) &&& (63 : Int32)))))) (i + 2) (Int8.toInt32 (Int32.toInt8 ((128 : Int32) ||| ((xc >>> ((6 : Int32) &&& 31)) &&& (63 : Int32))))))) :: L') := H3
        refine o_aloadN X3 d2_152 rfl rfl 153 rfl ?_
        refine o_iloadN X3 d2_153 rfl 154 rfl ?_
        refine o_iconst (v := (3 : Int32)) X3 d2_154 rfl 155 rfl ?_
        refine o_iadd X3 d2_155 156 rfl ?_
        refine o_sipush (v := (128 : Int32)) X3 d2_156 rfl 159 rfl ?_
        refine o_iloadN X3 d2_159 rfl 160 rfl ?_
        refine o_bipush (v := (63 : Int32)) X3 d2_160 rfl 162 rfl ?_
        refine o_iand X3 d2_162 163 rfl ?_
        refine o_ior X3 d2_163 164 rfl ?_
        refine o_i2b X3 d2_164 165 rfl ?_
        refine o_bastoreB X3 H3 0 rfl d2_165 (i + 3) (v_ad xt 3 i 3 hi (by omega) rfl (by decide)) (by first | omega | (simp; omega)) (Int8.toInt32 (Int32.toInt8 ((128 : Int32) ||| (xc &&& (63 : Int32))))) (o_b8 _) 166 rfl ?_
        intro T4 h4 X4 H4
        replace H4 : OL n0 h4 ((xa, OA Z .byte (List.set (List.set (List.set (List.set vs i (Int8.toInt32 (Int32.toInt8 ((240 : Int32) ||| (xc >>> ((18 : Int32) &&& 31)))))) (i + 1) (Int8.toInt32 (Int32.toInt8 ((128 : Int32) ||| ((xc >>> ((12 : Int32) &&& 31)) &&& (63 : Int32)))))) (i + 2) (Int8.toInt32 (Int32.toInt8 ((128 : Int32) ||| ((xc >>> ((6 : Int32) &&& 31)) &&& (63 : Int32)))))) (i + 3) (Int8.toInt32 (Int32.toInt8 ((128 : Int32) ||| (xc &&& (63 : Int32))))))) :: L') := H4
        refine o_iloadN X4 d2_166 rfl 167 rfl ?_
        refine o_iconst (v := (4 : Int32)) X4 d2_167 rfl 168 rfl ?_
        refine o_iadd X4 d2_168 169 rfl ?_
        exact o_retI X4 d2_169 (by decide) (by decide) (hQ _ _ ⟨_, 4, _, rfl, H4, v_put4 vs xt xc i hi hb (by omega) (by simp only [Int32.lt_iff_toInt_lt, Int32.reduceToInt] at hc4 hc20 hc56; omega) hc1⟩)
      · intro hc56
        refine o_aloadN X0 d2_59 rfl rfl 60 rfl ?_
        refine o_iloadN X0 d2_60 rfl 61 rfl ?_
        refine o_sipush (v := (224 : Int32)) X0 d2_61 rfl 64 rfl ?_
        refine o_iloadN X0 d2_64 rfl 65 rfl ?_
        refine o_bipush (v := (12 : Int32)) X0 d2_65 rfl 67 rfl ?_
        refine o_ishr X0 d2_67 68 rfl ?_
        refine o_ior X0 d2_68 69 rfl ?_
        refine o_i2b X0 d2_69 70 rfl ?_
        refine o_bastoreB X0 H0 0 rfl d2_70 i hi (by omega) (Int8.toInt32 (Int32.toInt8 ((224 : Int32) ||| (xc >>> ((12 : Int32) &&& 31))))) (o_b8 _) 71 rfl ?_
        intro T5 h5 X5 H5
        replace H5 : OL n0 h5 ((xa, OA Z .byte (List.set vs i (Int8.toInt32 (Int32.toInt8 ((224 : Int32) ||| (xc >>> ((12 : Int32) &&& 31))))))) :: L') := H5
        refine o_aloadN X5 d2_71 rfl rfl 72 rfl ?_
        refine o_iloadN X5 d2_72 rfl 73 rfl ?_
        refine o_iconst (v := (1 : Int32)) X5 d2_73 rfl 74 rfl ?_
        refine o_iadd X5 d2_74 75 rfl ?_
        refine o_sipush (v := (128 : Int32)) X5 d2_75 rfl 78 rfl ?_
        refine o_iloadN X5 d2_78 rfl 79 rfl ?_
        refine o_bipush (v := (6 : Int32)) X5 d2_79 rfl 81 rfl ?_
        refine o_ishr X5 d2_81 82 rfl ?_
        refine o_bipush (v := (63 : Int32)) X5 d2_82 rfl 84 rfl ?_
        refine o_iand X5 d2_84 85 rfl ?_
        refine o_ior X5 d2_85 86 rfl ?_
        refine o_i2b X5 d2_86 87 rfl ?_
        refine o_bastoreB X5 H5 0 rfl d2_87 (i + 1) (v_ad xt 1 i 1 hi (by omega) rfl (by decide)) (by first | omega | (simp; omega)) (Int8.toInt32 (Int32.toInt8 ((128 : Int32) ||| ((xc >>> ((6 : Int32) &&& 31)) &&& (63 : Int32))))) (o_b8 _) 88 rfl ?_
        intro T6 h6 X6 H6
        replace H6 : OL n0 h6 ((xa, OA Z .byte (List.set (List.set vs i (Int8.toInt32 (Int32.toInt8 ((224 : Int32) ||| (xc >>> ((12 : Int32) &&& 31)))))) (i + 1) (Int8.toInt32 (Int32.toInt8 ((128 : Int32) ||| ((xc >>> ((6 : Int32) &&& 31)) &&& (63 : Int32))))))) :: L') := H6
        refine o_aloadN X6 d2_88 rfl rfl 89 rfl ?_
        refine o_iloadN X6 d2_89 rfl 90 rfl ?_
        refine o_iconst (v := (2 : Int32)) X6 d2_90 rfl 91 rfl ?_
        refine o_iadd X6 d2_91 92 rfl ?_
        refine o_sipush (v := (128 : Int32)) X6 d2_92 rfl 95 rfl ?_
        refine o_iloadN X6 d2_95 rfl 96 rfl ?_
        refine o_bipush (v := (63 : Int32)) X6 d2_96 rfl 98 rfl ?_
        refine o_iand X6 d2_98 99 rfl ?_
        refine o_ior X6 d2_99 100 rfl ?_
        refine o_i2b X6 d2_100 101 rfl ?_
        refine o_bastoreB X6 H6 0 rfl d2_101 (i + 2) (v_ad xt 2 i 2 hi (by omega) rfl (by decide)) (by first | omega | (simp; omega)) (Int8.toInt32 (Int32.toInt8 ((128 : Int32) ||| (xc &&& (63 : Int32))))) (o_b8 _) 102 rfl ?_
        intro T7 h7 X7 H7
        replace H7 : OL n0 h7 ((xa, OA Z .byte (List.set (List.set (List.set vs i (Int8.toInt32 (Int32.toInt8 ((224 : Int32) ||| (xc >>> ((12 : Int32) &&& 31)))))) (i + 1) (Int8.toInt32 (Int32.toInt8 ((128 : Int32) ||| ((xc >>> ((6 : Int32) &&& 31)) &&& (63 : Int32)))))) (i + 2) (Int8.toInt32 (Int32.toInt8 ((128 : Int32) ||| (xc &&& (63 : Int32))))))) :: L') := H7
        refine o_iloadN X7 d2_102 rfl 103 rfl ?_
        refine o_iconst (v := (3 : Int32)) X7 d2_103 rfl 104 rfl ?_
        refine o_iadd X7 d2_104 105 rfl ?_
        exact o_retI X7 d2_105 (by decide) (by decide) (hQ _ _ ⟨_, 3, _, rfl, H7, v_put3 vs xt xc i hi hb (by omega) (by simp only [Int32.lt_iff_toInt_lt, Int32.reduceToInt] at hc4 hc20 hc56; omega) (by simp only [Int32.lt_iff_toInt_lt, Int32.reduceToInt] at hc4 hc20 hc56; omega)⟩)
    · intro hc20
      refine o_aloadN X0 d2_23 rfl rfl 24 rfl ?_
      refine o_iloadN X0 d2_24 rfl 25 rfl ?_
      refine o_sipush (v := (192 : Int32)) X0 d2_25 rfl 28 rfl ?_
      refine o_iloadN X0 d2_28 rfl 29 rfl ?_
      refine o_bipush (v := (6 : Int32)) X0 d2_29 rfl 31 rfl ?_
      refine o_ishr X0 d2_31 32 rfl ?_
      refine o_ior X0 d2_32 33 rfl ?_
      refine o_i2b X0 d2_33 34 rfl ?_
      refine o_bastoreB X0 H0 0 rfl d2_34 i hi (by omega) (Int8.toInt32 (Int32.toInt8 ((192 : Int32) ||| (xc >>> ((6 : Int32) &&& 31))))) (o_b8 _) 35 rfl ?_
      intro T8 h8 X8 H8
      replace H8 : OL n0 h8 ((xa, OA Z .byte (List.set vs i (Int8.toInt32 (Int32.toInt8 ((192 : Int32) ||| (xc >>> ((6 : Int32) &&& 31))))))) :: L') := H8
      refine o_aloadN X8 d2_35 rfl rfl 36 rfl ?_
      refine o_iloadN X8 d2_36 rfl 37 rfl ?_
      refine o_iconst (v := (1 : Int32)) X8 d2_37 rfl 38 rfl ?_
      refine o_iadd X8 d2_38 39 rfl ?_
      refine o_sipush (v := (128 : Int32)) X8 d2_39 rfl 42 rfl ?_
      refine o_iloadN X8 d2_42 rfl 43 rfl ?_
      refine o_bipush (v := (63 : Int32)) X8 d2_43 rfl 45 rfl ?_
      refine o_iand X8 d2_45 46 rfl ?_
      refine o_ior X8 d2_46 47 rfl ?_
      refine o_i2b X8 d2_47 48 rfl ?_
      refine o_bastoreB X8 H8 0 rfl d2_48 (i + 1) (v_ad xt 1 i 1 hi (by omega) rfl (by decide)) (by first | omega | (simp; omega)) (Int8.toInt32 (Int32.toInt8 ((128 : Int32) ||| (xc &&& (63 : Int32))))) (o_b8 _) 49 rfl ?_
      intro T9 h9 X9 H9
      replace H9 : OL n0 h9 ((xa, OA Z .byte (List.set (List.set vs i (Int8.toInt32 (Int32.toInt8 ((192 : Int32) ||| (xc >>> ((6 : Int32) &&& 31)))))) (i + 1) (Int8.toInt32 (Int32.toInt8 ((128 : Int32) ||| (xc &&& (63 : Int32))))))) :: L') := H9
      refine o_iloadN X9 d2_49 rfl 50 rfl ?_
      refine o_iconst (v := (2 : Int32)) X9 d2_50 rfl 51 rfl ?_
      refine o_iadd X9 d2_51 52 rfl ?_
      exact o_retI X9 d2_52 (by decide) (by decide) (hQ _ _ ⟨_, 2, _, rfl, H9, v_put2 vs xt xc i hi hb (by omega) (by simp only [Int32.lt_iff_toInt_lt, Int32.reduceToInt] at hc4 hc20; omega) (by simp only [Int32.lt_iff_toInt_lt, Int32.reduceToInt] at hc4 hc20; omega)⟩)
  · intro hc4
    refine o_aloadN X0 d2_7 rfl rfl 8 rfl ?_
    refine o_iloadN X0 d2_8 rfl 9 rfl ?_
    refine o_iloadN X0 d2_9 rfl 10 rfl ?_
    refine o_i2b X0 d2_10 11 rfl ?_
    refine o_bastoreB X0 H0 0 rfl d2_11 i hi (by omega) (Int8.toInt32 (Int32.toInt8 xc)) (o_b8 _) 12 rfl ?_
    intro T10 h10 X10 H10
    replace H10 : OL n0 h10 ((xa, OA Z .byte (List.set vs i (Int8.toInt32 (Int32.toInt8 xc)))) :: L') := H10
    refine o_iloadN X10 d2_12 rfl 13 rfl ?_
    refine o_iconst (v := (1 : Int32)) X10 d2_13 rfl 14 rfl ?_
    refine o_iadd X10 d2_14 15 rfl ?_
    exact o_retI X10 d2_15 (by decide) (by decide) (hQ _ _ ⟨_, 1, _, rfl, H10, v_put1 vs xt xc i hi hb (by omega) hc0 (by simp only [Int32.lt_iff_toInt_lt, Int32.reduceToInt] at hc4; omega)⟩)
set_option maxRecDepth 65536 in
set_option maxHeartbeats 40000000 in
theorem c_cc (l : Launch) (Z : State) (a0 : Array Value) (hw : ∀ d ∈ tables_1, d.before a0 Z = true) (ws : List Jvm.Cond) (n0 : Nat) (h0 : Heap) (hn0 : n0 ≤ h0.size) (xa : Addr) (xf xt : Int32) (vs : List Int32) (L' : List (Addr × (Cell → Prop))) (H0 : OL n0 h0 ((xa, OA Z .byte vs) :: L')) (i0 d0 : Nat) (hi0 : xf.toInt = i0) (hj : xt.toInt = ((i0 + d0 : Nat) : Int)) (hl : i0 + d0 ≤ vs.length) (hb : vs.length < 100) :
    OC l Z (⟨"org/bindloom/internal/Utf8", "charCount", "([BII)I"⟩ : MethodName) prog_39_method_7_code 6 (some .int) ws ({ frames := 0, cells := 0, slots := 0, locals := 0 } : Room) n0 #[(.ref xa), (.int xf), (.int xt)] h0 (fun r h => r = some (.int (f_cnt vs i0 d0)) ∧ h0 = h) := by
  refine OC.of (plainFor_of_name pn_2) hn0 #[.val (.ref xa), .val (.int xf), .val (.int xt), .unset, .unset, .unset] (fun m => by first | (simp [entryFrame, mkF, argsToLocals, Value.category, maxLocals]; done) | rfl) ?_
  intro p e s m below meth cd0 T0 X0 Q' hQ
  have J5 : ∀ (d : Nat) (T : State) (i : Nat) (xi acc : Int32) (sl : Slot), OW p l e ({ frames := 0, cells := 0, slots := 0, locals := 0 } : Room) s m #[(.ref xa), (.int xf), (.int xt)] below meth cd0 Z (⟨"org/bindloom/internal/Utf8", "charCount", "([BII)I"⟩ : MethodName) prog_39_method_7_code 6 (some .int) n0 T h0 0 0 → (sl = .unset ∨ ∃ t : Int32, sl = .val (.int t)) → xi.toInt = i → i + d = i0 + d0 → acc + f_cnt vs i d = f_cnt vs i0 d0 → OE p e ({ frames := 0, cells := 0, slots := 0, locals := 0 } : Room) below s n0 Q' T (mkF m 5 #[.val (.ref xa), .val (.int xf), .val (.int xt), .val (.int acc), .val (.int xi), sl] []) := by
    intro d
    induction d with
    | zero =>
      intro T i xi acc sl X hsl hi hd hacc
      refine o_iload X d7_5 rfl 7 rfl ?_
      refine o_iloadN X d7_7 rfl 8 rfl ?_
      refine o_icmpGe X d7_8 59 11 (by decide) (by decide) rfl ?_ (fun q => by exfalso; rw [Int32.lt_iff_toInt_lt] at q; omega)
      intro hc8
      refine o_iloadN X d7_59 rfl 60 rfl ?_
      exact o_retI X d7_60 (by decide) (by decide) (hQ _ _ ⟨by rw [← hacc]; show some (Value.int acc) = some (Value.int (acc + 0)); rw [Int32.add_zero], rfl⟩)
    | succ d ih =>
      intro T i xi acc sl X hsl hi hd hacc
      rcases hsl with rfl | ⟨t, rfl⟩
      · skip
        refine o_iload X d7_5 rfl 7 rfl ?_
        refine o_iloadN X d7_7 rfl 8 rfl ?_
        refine o_icmpGe X d7_8 59 11 (by decide) (by decide) rfl (fun q => by exfalso; apply q; rw [Int32.lt_iff_toInt_lt]; omega) ?_
        intro hc8
        refine o_aloadN X d7_11 rfl rfl 12 rfl ?_
        refine o_iload X d7_12 rfl 14 rfl ?_
        refine o_baloadB X H0 0 rfl d7_14 i hi (List.getD vs i 0) (by rw [List.getD_eq_getElem?_getD, List.getElem?_eq_getElem (by omega)]; rfl) 15 rfl ?_
        refine o_sipush (v := (255 : Int32)) X d7_15 rfl 18 rfl ?_
        refine o_iand X d7_18 19 rfl ?_
        refine o_istore X d7_19 #[.val (.ref xa), .val (.int xf), .val (.int xt), .val (.int acc), .val (.int xi), .val (.int ((List.getD vs i 0) &&& (255 : Int32)))] rfl 21 rfl ?_
        refine o_iload X d7_21 rfl 23 rfl ?_
        refine o_sipush (v := (128 : Int32)) X d7_23 rfl 26 rfl ?_
        refine o_icmpLt X d7_26 37 29 (by decide) (by decide) rfl ?_ ?_
        · intro hc26
          refine o_iloadN X d7_37 rfl 38 rfl ?_
          refine o_iload X d7_38 rfl 40 rfl ?_
          refine o_sipush (v := (240 : Int32)) X d7_40 rfl 43 rfl ?_
          refine o_icmpLt X d7_43 50 46 (by decide) (by decide) rfl ?_ ?_
          · intro hc43
            refine o_iconst (v := (1 : Int32)) X d7_50 rfl 51 rfl ?_
            refine o_iadd X d7_51 52 rfl ?_
            refine o_istoreN X d7_52 #[.val (.ref xa), .val (.int xf), .val (.int xt), .val (.int (acc + (1 : Int32))), .val (.int xi), .val (.int ((List.getD vs i 0) &&& (255 : Int32)))] rfl 53 rfl ?_
            refine o_iinc (v := xi) (w := (xi + (1 : Int32))) X d7_53 rfl rfl #[.val (.ref xa), .val (.int xf), .val (.int xt), .val (.int (acc + (1 : Int32))), .val (.int (xi + (1 : Int32))), .val (.int ((List.getD vs i 0) &&& (255 : Int32)))] rfl 56 rfl ?_
            refine o_goto X d7_56 5 (by decide) (by decide) ?_
            have hw0 : f_w (List.getD vs i 0) = 1 := by simp only [f_w, hc26, hc43, ↓reduceIte]
            exact ih _ (i + 1) _ _ _ X (Or.inr ⟨_, rfl⟩) (v_ad xi 1 i 1 hi (by omega) rfl (by decide)) (by omega) (by rw [← hacc]; show _ = acc + (f_w (List.getD vs i 0) + f_cnt vs (i + 1) d); rw [hw0]; grind)
          · intro hc43
            refine o_iconst (v := (2 : Int32)) X d7_46 rfl 47 rfl ?_
            refine o_goto X d7_47 51 (by decide) (by decide) ?_
            refine o_iadd X d7_51 52 rfl ?_
            refine o_istoreN X d7_52 #[.val (.ref xa), .val (.int xf), .val (.int xt), .val (.int (acc + (2 : Int32))), .val (.int xi), .val (.int ((List.getD vs i 0) &&& (255 : Int32)))] rfl 53 rfl ?_
            refine o_iinc (v := xi) (w := (xi + (1 : Int32))) X d7_53 rfl rfl #[.val (.ref xa), .val (.int xf), .val (.int xt), .val (.int (acc + (2 : Int32))), .val (.int (xi + (1 : Int32))), .val (.int ((List.getD vs i 0) &&& (255 : Int32)))] rfl 56 rfl ?_
            refine o_goto X d7_56 5 (by decide) (by decide) ?_
            have hw0 : f_w (List.getD vs i 0) = 2 := by simp only [f_w, hc26, hc43, ↓reduceIte]
            exact ih _ (i + 1) _ _ _ X (Or.inr ⟨_, rfl⟩) (v_ad xi 1 i 1 hi (by omega) rfl (by decide)) (by omega) (by rw [← hacc]; show _ = acc + (f_w (List.getD vs i 0) + f_cnt vs (i + 1) d); rw [hw0]; grind)
        · intro hc26
          refine o_iload X d7_29 rfl 31 rfl ?_
          refine o_sipush (v := (192 : Int32)) X d7_31 rfl 34 rfl ?_
          refine o_icmpLt X d7_34 53 37 (by decide) (by decide) rfl ?_ ?_
          · intro hc34
            refine o_iinc (v := xi) (w := (xi + (1 : Int32))) X d7_53 rfl rfl #[.val (.ref xa), .val (.int xf), .val (.int xt), .val (.int acc), .val (.int (xi + (1 : Int32))), .val (.int ((List.getD vs i 0) &&& (255 : Int32)))] rfl 56 rfl ?_
            refine o_goto X d7_56 5 (by decide) (by decide) ?_
            have hw0 : f_w (List.getD vs i 0) = 0 := by simp only [f_w, hc26, hc34, ↓reduceIte]
            exact ih _ (i + 1) _ _ _ X (Or.inr ⟨_, rfl⟩) (v_ad xi 1 i 1 hi (by omega) rfl (by decide)) (by omega) (by rw [← hacc]; show _ = acc + (f_w (List.getD vs i 0) + f_cnt vs (i + 1) d); rw [hw0]; grind)
          · intro hc34
            refine o_iloadN X d7_37 rfl 38 rfl ?_
            refine o_iload X d7_38 rfl 40 rfl ?_
            refine o_sipush (v := (240 : Int32)) X d7_40 rfl 43 rfl ?_
            refine o_icmpLt X d7_43 50 46 (by decide) (by decide) rfl ?_ ?_
            · intro hc43
              refine o_iconst (v := (1 : Int32)) X d7_50 rfl 51 rfl ?_
              refine o_iadd X d7_51 52 rfl ?_
              refine o_istoreN X d7_52 #[.val (.ref xa), .val (.int xf), .val (.int xt), .val (.int (acc + (1 : Int32))), .val (.int xi), .val (.int ((List.getD vs i 0) &&& (255 : Int32)))] rfl 53 rfl ?_
              refine o_iinc (v := xi) (w := (xi + (1 : Int32))) X d7_53 rfl rfl #[.val (.ref xa), .val (.int xf), .val (.int xt), .val (.int (acc + (1 : Int32))), .val (.int (xi + (1 : Int32))), .val (.int ((List.getD vs i 0) &&& (255 : Int32)))] rfl 56 rfl ?_
              refine o_goto X d7_56 5 (by decide) (by decide) ?_
              have hw0 : f_w (List.getD vs i 0) = 1 := by simp only [f_w, hc26, hc34, hc43, ↓reduceIte]
              exact ih _ (i + 1) _ _ _ X (Or.inr ⟨_, rfl⟩) (v_ad xi 1 i 1 hi (by omega) rfl (by decide)) (by omega) (by rw [← hacc]; show _ = acc + (f_w (List.getD vs i 0) + f_cnt vs (i + 1) d); rw [hw0]; grind)
            · intro hc43
              refine o_iconst (v := (2 : Int32)) X d7_46 rfl 47 rfl ?_
              refine o_goto X d7_47 51 (by decide) (by decide) ?_
              refine o_iadd X d7_51 52 rfl ?_
              refine o_istoreN X d7_52 #[.val (.ref xa), .val (.int xf), .val (.int xt), .val (.int (acc + (2 : Int32))), .val (.int xi), .val (.int ((List.getD vs i 0) &&& (255 : Int32)))] rfl 53 rfl ?_
              refine o_iinc (v := xi) (w := (xi + (1 : Int32))) X d7_53 rfl rfl #[.val (.ref xa), .val (.int xf), .val (.int xt), .val (.int (acc + (2 : Int32))), .val (.int (xi + (1 : Int32))), .val (.int ((List.getD vs i 0) &&& (255 : Int32)))] rfl 56 rfl ?_
              refine o_goto X d7_56 5 (by decide) (by decide) ?_
              have hw0 : f_w (List.getD vs i 0) = 2 := by simp only [f_w, hc26, hc34, hc43, ↓reduceIte]
              exact ih _ (i + 1) _ _ _ X (Or.inr ⟨_, rfl⟩) (v_ad xi 1 i 1 hi (by omega) rfl (by decide)) (by omega) (by rw [← hacc]; show _ = acc + (f_w (List.getD vs i 0) + f_cnt vs (i + 1) d); rw [hw0]; grind)
      · skip
        refine o_iload X d7_5 rfl 7 rfl ?_
        refine o_iloadN X d7_7 rfl 8 rfl ?_
        refine o_icmpGe X d7_8 59 11 (by decide) (by decide) rfl (fun q => by exfalso; apply q; rw [Int32.lt_iff_toInt_lt]; omega) ?_
        intro hc8
        refine o_aloadN X d7_11 rfl rfl 12 rfl ?_
        refine o_iload X d7_12 rfl 14 rfl ?_
        refine o_baloadB X H0 0 rfl d7_14 i hi (List.getD vs i 0) (by rw [List.getD_eq_getElem?_getD, List.getElem?_eq_getElem (by omega)]; rfl) 15 rfl ?_
        refine o_sipush (v := (255 : Int32)) X d7_15 rfl 18 rfl ?_
        refine o_iand X d7_18 19 rfl ?_
        refine o_istore X d7_19 #[.val (.ref xa), .val (.int xf), .val (.int xt), .val (.int acc), .val (.int xi), .val (.int ((List.getD vs i 0) &&& (255 : Int32)))] rfl 21 rfl ?_
        refine o_iload X d7_21 rfl 23 rfl ?_
        refine o_sipush (v := (128 : Int32)) X d7_23 rfl 26 rfl ?_
        refine o_icmpLt X d7_26 37 29 (by decide) (by decide) rfl ?_ ?_
        · intro hc26
          refine o_iloadN X d7_37 rfl 38 rfl ?_
          refine o_iload X d7_38 rfl 40 rfl ?_
          refine o_sipush (v := (240 : Int32)) X d7_40 rfl 43 rfl ?_
          refine o_icmpLt X d7_43 50 46 (by decide) (by decide) rfl ?_ ?_
          · intro hc43
            refine o_iconst (v := (1 : Int32)) X d7_50 rfl 51 rfl ?_
            refine o_iadd X d7_51 52 rfl ?_
            refine o_istoreN X d7_52 #[.val (.ref xa), .val (.int xf), .val (.int xt), .val (.int (acc + (1 : Int32))), .val (.int xi), .val (.int ((List.getD vs i 0) &&& (255 : Int32)))] rfl 53 rfl ?_
            refine o_iinc (v := xi) (w := (xi + (1 : Int32))) X d7_53 rfl rfl #[.val (.ref xa), .val (.int xf), .val (.int xt), .val (.int (acc + (1 : Int32))), .val (.int (xi + (1 : Int32))), .val (.int ((List.getD vs i 0) &&& (255 : Int32)))] rfl 56 rfl ?_
            refine o_goto X d7_56 5 (by decide) (by decide) ?_
            have hw0 : f_w (List.getD vs i 0) = 1 := by simp only [f_w, hc26, hc43, ↓reduceIte]
            exact ih _ (i + 1) _ _ _ X (Or.inr ⟨_, rfl⟩) (v_ad xi 1 i 1 hi (by omega) rfl (by decide)) (by omega) (by rw [← hacc]; show _ = acc + (f_w (List.getD vs i 0) + f_cnt vs (i + 1) d); rw [hw0]; grind)
          · intro hc43
            refine o_iconst (v := (2 : Int32)) X d7_46 rfl 47 rfl ?_
            refine o_goto X d7_47 51 (by decide) (by decide) ?_
            refine o_iadd X d7_51 52 rfl ?_
            refine o_istoreN X d7_52 #[.val (.ref xa), .val (.int xf), .val (.int xt), .val (.int (acc + (2 : Int32))), .val (.int xi), .val (.int ((List.getD vs i 0) &&& (255 : Int32)))] rfl 53 rfl ?_
            refine o_iinc (v := xi) (w := (xi + (1 : Int32))) X d7_53 rfl rfl #[.val (.ref xa), .val (.int xf), .val (.int xt), .val (.int (acc + (2 : Int32))), .val (.int (xi + (1 : Int32))), .val (.int ((List.getD vs i 0) &&& (255 : Int32)))] rfl 56 rfl ?_
            refine o_goto X d7_56 5 (by decide) (by decide) ?_
            have hw0 : f_w (List.getD vs i 0) = 2 := by simp only [f_w, hc26, hc43, ↓reduceIte]
            exact ih _ (i + 1) _ _ _ X (Or.inr ⟨_, rfl⟩) (v_ad xi 1 i 1 hi (by omega) rfl (by decide)) (by omega) (by rw [← hacc]; show _ = acc + (f_w (List.getD vs i 0) + f_cnt vs (i + 1) d); rw [hw0]; grind)
        · intro hc26
          refine o_iload X d7_29 rfl 31 rfl ?_
          refine o_sipush (v := (192 : Int32)) X d7_31 rfl 34 rfl ?_
          refine o_icmpLt X d7_34 53 37 (by decide) (by decide) rfl ?_ ?_
          · intro hc34
            refine o_iinc (v := xi) (w := (xi + (1 : Int32))) X d7_53 rfl rfl #[.val (.ref xa), .val (.int xf), .val (.int xt), .val (.int acc), .val (.int (xi + (1 : Int32))), .val (.int ((List.getD vs i 0) &&& (255 : Int32)))] rfl 56 rfl ?_
            refine o_goto X d7_56 5 (by decide) (by decide) ?_
            have hw0 : f_w (List.getD vs i 0) = 0 := by simp only [f_w, hc26, hc34, ↓reduceIte]
            exact ih _ (i + 1) _ _ _ X (Or.inr ⟨_, rfl⟩) (v_ad xi 1 i 1 hi (by omega) rfl (by decide)) (by omega) (by rw [← hacc]; show _ = acc + (f_w (List.getD vs i 0) + f_cnt vs (i + 1) d); rw [hw0]; grind)
          · intro hc34
            refine o_iloadN X d7_37 rfl 38 rfl ?_
            refine o_iload X d7_38 rfl 40 rfl ?_
            refine o_sipush (v := (240 : Int32)) X d7_40 rfl 43 rfl ?_
            refine o_icmpLt X d7_43 50 46 (by decide) (by decide) rfl ?_ ?_
            · intro hc43
              refine o_iconst (v := (1 : Int32)) X d7_50 rfl 51 rfl ?_
              refine o_iadd X d7_51 52 rfl ?_
              refine o_istoreN X d7_52 #[.val (.ref xa), .val (.int xf), .val (.int xt), .val (.int (acc + (1 : Int32))), .val (.int xi), .val (.int ((List.getD vs i 0) &&& (255 : Int32)))] rfl 53 rfl ?_
              refine o_iinc (v := xi) (w := (xi + (1 : Int32))) X d7_53 rfl rfl #[.val (.ref xa), .val (.int xf), .val (.int xt), .val (.int (acc + (1 : Int32))), .val (.int (xi + (1 : Int32))), .val (.int ((List.getD vs i 0) &&& (255 : Int32)))] rfl 56 rfl ?_
              refine o_goto X d7_56 5 (by decide) (by decide) ?_
              have hw0 : f_w (List.getD vs i 0) = 1 := by simp only [f_w, hc26, hc34, hc43, ↓reduceIte]
              exact ih _ (i + 1) _ _ _ X (Or.inr ⟨_, rfl⟩) (v_ad xi 1 i 1 hi (by omega) rfl (by decide)) (by omega) (by rw [← hacc]; show _ = acc + (f_w (List.getD vs i 0) + f_cnt vs (i + 1) d); rw [hw0]; grind)
            · intro hc43
              refine o_iconst (v := (2 : Int32)) X d7_46 rfl 47 rfl ?_
              refine o_goto X d7_47 51 (by decide) (by decide) ?_
              refine o_iadd X d7_51 52 rfl ?_
              refine o_istoreN X d7_52 #[.val (.ref xa), .val (.int xf), .val (.int xt), .val (.int (acc + (2 : Int32))), .val (.int xi), .val (.int ((List.getD vs i 0) &&& (255 : Int32)))] rfl 53 rfl ?_
              refine o_iinc (v := xi) (w := (xi + (1 : Int32))) X d7_53 rfl rfl #[.val (.ref xa), .val (.int xf), .val (.int xt), .val (.int (acc + (2 : Int32))), .val (.int (xi + (1 : Int32))), .val (.int ((List.getD vs i 0) &&& (255 : Int32)))] rfl 56 rfl ?_
              refine o_goto X d7_56 5 (by decide) (by decide) ?_
              have hw0 : f_w (List.getD vs i 0) = 2 := by simp only [f_w, hc26, hc34, hc43, ↓reduceIte]
              exact ih _ (i + 1) _ _ _ X (Or.inr ⟨_, rfl⟩) (v_ad xi 1 i 1 hi (by omega) rfl (by decide)) (by omega) (by rw [← hacc]; show _ = acc + (f_w (List.getD vs i 0) + f_cnt vs (i + 1) d); rw [hw0]; grind)
  refine o_iconst (v := (0 : Int32)) X0 d7_0 rfl 1 rfl ?_
  refine o_istoreN X0 d7_1 #[.val (.ref xa), .val (.int xf), .val (.int xt), .val (.int (0 : Int32)), .unset, .unset] rfl 2 rfl ?_
  refine o_iloadN X0 d7_2 rfl 3 rfl ?_
  refine o_istore X0 d7_3 #[.val (.ref xa), .val (.int xf), .val (.int xt), .val (.int (0 : Int32)), .val (.int xf), .unset] rfl 5 rfl ?_
  exact J5 d0 _ i0 _ _ _ X0 (Or.inl rfl) hi0 rfl (by rw [Int32.zero_add])
set_option maxRecDepth 65536 in
set_option maxHeartbeats 40000000 in
theorem c_law (l : Launch) (Z : State) (a0 : Array Value) (hw : ∀ d ∈ tables_1, d.before a0 Z = true) (ws : List Jvm.Cond) (n0 : Nat) (h0 : Heap) (hn0 : n0 ≤ h0.size) (xp0 : Int32) (xp1 : Int32) (xp2 : Int32) (xs : Int32) :
    OC l Z x code maxLocals ret ws room_1 n0 #[(.int xp0), (.int xp1), (.int xp2), (.int xs)] h0 (fun r h => r = some (.int 1)) := by
  refine OC.of (plainFor_of_name pn_0) hn0 #[.val (.int xp0), .val (.int xp1), .val (.int xp2), .val (.int xs), .unset, .unset, .unset, .unset, .unset, .unset, .unset, .unset, .unset, .unset, .unset, .unset, .unset, .unset, .unset, .unset, .unset] (fun m => by first | (simp [entryFrame, mkF, argsToLocals, Value.category, maxLocals]; done) | rfl) ?_
  intro p e s m below meth cd0 T0 X0 Q' hQ
  refine o_iloadN X0 at_0 rfl 1 rfl ?_
  refine o_callS X0 at_1 (rest := []) (c_cp l Z a0 hw [] n0 _ X0.size xp0 ) (hw _ (List.mem_of_getElem? (i := 0) rfl)) (hw _ (List.mem_of_getElem? (i := 1) rfl)) (hw _ (List.mem_of_getElem? (i := 2) rfl)) (hw _ (List.mem_of_getElem? (i := 3) rfl)) (by decide) 0 (by decide) (by decide) rfl [(.int xp0)] rfl pd_1 rfl rfl (Nat.le_of_eq rfl) 0 0 rfl rfl (by decide) (by decide) 4 rfl ?_
  rintro _ T1 _ X1 ⟨rfl, rfl⟩
  show OE p e room_1 below s n0 Q' T1 (mkF m 4 #[.val (.int xp0), .val (.int xp1), .val (.int xp2), .val (.int xs), .unset, .unset, .unset, .unset, .unset, .unset, .unset, .unset, .unset, .unset, .unset, .unset, .unset, .unset, .unset, .unset, .unset] [(.int (f_cp xp0))])
  refine o_istore X1 at_4 #[.val (.int xp0), .val (.int xp1), .val (.int xp2), .val (.int xs), .val (.int (f_cp xp0)), .unset, .unset, .unset, .unset, .unset, .unset, .unset, .unset, .unset, .unset, .unset, .unset, .unset, .unset, .unset, .unset] rfl 6 rfl ?_
  refine o_iloadN X1 at_6 rfl 7 rfl ?_
  refine o_callS X1 at_7 (rest := []) (c_cp l Z a0 hw [] n0 _ X1.size xp1 ) (hw _ (List.mem_of_getElem? (i := 0) rfl)) (hw _ (List.mem_of_getElem? (i := 1) rfl)) (hw _ (List.mem_of_getElem? (i := 2) rfl)) (hw _ (List.mem_of_getElem? (i := 3) rfl)) (by decide) 0 (by decide) (by decide) rfl [(.int xp1)] rfl pd_1 rfl rfl (Nat.le_of_eq rfl) 0 0 rfl rfl (by decide) (by decide) 10 rfl ?_
  rintro _ T2 _ X2 ⟨rfl, rfl⟩
  show OE p e room_1 below s n0 Q' T2 (mkF m 10 #[.val (.int xp0), .val (.int xp1), .val (.int xp2), .val (.int xs), .val (.int (f_cp xp0)), .unset, .unset, .unset, .unset, .unset, .unset, .unset, .unset, .unset, .unset, .unset, .unset, .unset, .unset, .unset, .unset] [(.int (f_cp xp1))])
  refine o_istore X2 at_10 #[.val (.int xp0), .val (.int xp1), .val (.int xp2), .val (.int xs), .val (.int (f_cp xp0)), .val (.int (f_cp xp1)), .unset, .unset, .unset, .unset, .unset, .unset, .unset, .unset, .unset, .unset, .unset, .unset, .unset, .unset, .unset] rfl 12 rfl ?_
  refine o_iloadN X2 at_12 rfl 13 rfl ?_
  refine o_callS X2 at_13 (rest := []) (c_cp l Z a0 hw [] n0 _ X2.size xp2 ) (hw _ (List.mem_of_getElem? (i := 0) rfl)) (hw _ (List.mem_of_getElem? (i := 1) rfl)) (hw _ (List.mem_of_getElem? (i := 2) rfl)) (hw _ (List.mem_of_getElem? (i := 3) rfl)) (by decide) 0 (by decide) (by decide) rfl [(.int xp2)] rfl pd_1 rfl rfl (Nat.le_of_eq rfl) 0 0 rfl rfl (by decide) (by decide) 16 rfl ?_
  rintro _ T3 _ X3 ⟨rfl, rfl⟩
  show OE p e room_1 below s n0 Q' T3 (mkF m 16 #[.val (.int xp0), .val (.int xp1), .val (.int xp2), .val (.int xs), .val (.int (f_cp xp0)), .val (.int (f_cp xp1)), .unset, .unset, .unset, .unset, .unset, .unset, .unset, .unset, .unset, .unset, .unset, .unset, .unset, .unset, .unset] [(.int (f_cp xp2))])
  refine o_istore X3 at_16 #[.val (.int xp0), .val (.int xp1), .val (.int xp2), .val (.int xs), .val (.int (f_cp xp0)), .val (.int (f_cp xp1)), .val (.int (f_cp xp2)), .unset, .unset, .unset, .unset, .unset, .unset, .unset, .unset, .unset, .unset, .unset, .unset, .unset, .unset] rfl 18 rfl ?_
  refine o_bipush (v := (12 : Int32)) X3 at_18 rfl 20 rfl ?_
  refine o_newarray (L := []) X3 OL.nil at_20 (hw _ (List.mem_of_getElem? (i := 8) rfl)) rfl rfl 12 12 rfl (by decide) (by decide) 1 12 rfl rfl (by decide) (by decide) 22 rfl ?_
  intro T4 h4 b4 X4 H4
  replace H4 : OL n0 h4 ((b4, OA Z .byte [(0 : Int32), (0 : Int32), (0 : Int32), (0 : Int32), (0 : Int32), (0 : Int32), (0 : Int32), (0 : Int32), (0 : Int32), (0 : Int32), (0 : Int32), (0 : Int32)]) :: []) := H4
  refine o_astore X4 at_22 rfl #[.val (.int xp0), .val (.int xp1), .val (.int xp2), .val (.int xs), .val (.int (f_cp xp0)), .val (.int (f_cp xp1)), .val (.int (f_cp xp2)), .val (.ref b4), .unset, .unset, .unset, .unset, .unset, .unset, .unset, .unset, .unset, .unset, .unset, .unset, .unset] rfl 24 rfl ?_
  refine o_aload X4 at_24 rfl rfl 26 rfl ?_
  refine o_iconst (v := (0 : Int32)) X4 at_26 rfl 27 rfl ?_
  refine o_iload X4 at_27 rfl 29 rfl ?_
  refine o_callS X4 at_29 (rest := []) (c_put l Z a0 hw [] n0 _ X4.size b4 (0 : Int32) (f_cp xp0) [(0 : Int32), (0 : Int32), (0 : Int32), (0 : Int32), (0 : Int32), (0 : Int32), (0 : Int32), (0 : Int32), (0 : Int32), (0 : Int32), (0 : Int32), (0 : Int32)] [] H4 0 rfl (by omega) (by decide) (v_cpr _).1 (v_cpr _).2) (hw _ (List.mem_of_getElem? (i := 9) rfl)) (hw _ (List.mem_of_getElem? (i := 10) rfl)) (hw _ (List.mem_of_getElem? (i := 2) rfl)) (hw _ (List.mem_of_getElem? (i := 11) rfl)) (by decide) 0 (by decide) (by decide) rfl [(.ref b4), (.int (0 : Int32)), (.int (f_cp xp0))] rfl pd_2 rfl rfl (Nat.le_of_eq rfl) 1 12 rfl rfl (by decide) (by decide) 32 rfl ?_
  rintro _ T5 h5 X5 ⟨vs5, ln5, z5, rfl, H5, hp5⟩
  replace H5 : OL n0 h5 ((b4, OA Z .byte vs5) :: []) := H5
  show OE p e room_1 below s n0 Q' T5 (mkF m 32 #[.val (.int xp0), .val (.int xp1), .val (.int xp2), .val (.int xs), .val (.int (f_cp xp0)), .val (.int (f_cp xp1)), .val (.int (f_cp xp2)), .val (.ref b4), .unset, .unset, .unset, .unset, .unset, .unset, .unset, .unset, .unset, .unset, .unset, .unset, .unset] [(.int z5)])
  obtain ⟨hz5, hlo5, hhi5, hle5, hcn5, hcu5⟩ := hp5
  have hL5 : vs5.length = 12 := hle5
  refine o_istore X5 at_32 #[.val (.int xp0), .val (.int xp1), .val (.int xp2), .val (.int xs), .val (.int (f_cp xp0)), .val (.int (f_cp xp1)), .val (.int (f_cp xp2)), .val (.ref b4), .val (.int z5), .unset, .unset, .unset, .unset, .unset, .unset, .unset, .unset, .unset, .unset, .unset, .unset] rfl 34 rfl ?_
  refine o_aload X5 at_34 rfl rfl 36 rfl ?_
  refine o_iload X5 at_36 rfl 38 rfl ?_
  refine o_iload X5 at_38 rfl 40 rfl ?_
  refine o_callS X5 at_40 (rest := []) (c_put l Z a0 hw [] n0 _ X5.size b4 z5 (f_cp xp1) vs5 [] H5 (0 + ln5) hz5 (by omega) (by omega) (v_cpr _).1 (v_cpr _).2) (hw _ (List.mem_of_getElem? (i := 9) rfl)) (hw _ (List.mem_of_getElem? (i := 10) rfl)) (hw _ (List.mem_of_getElem? (i := 2) rfl)) (hw _ (List.mem_of_getElem? (i := 11) rfl)) (by decide) 0 (by decide) (by decide) rfl [(.ref b4), (.int z5), (.int (f_cp xp1))] rfl pd_2 rfl rfl (Nat.le_of_eq rfl) 1 12 rfl rfl (by decide) (by decide) 43 rfl ?_
  rintro _ T6 h6 X6 ⟨vs6, ln6, z6, rfl, H6, hp6⟩
  replace H6 : OL n0 h6 ((b4, OA Z .byte vs6) :: []) := H6
  show OE p e room_1 below s n0 Q' T6 (mkF m 43 #[.val (.int xp0), .val (.int xp1), .val (.int xp2), .val (.int xs), .val (.int (f_cp xp0)), .val (.int (f_cp xp1)), .val (.int (f_cp xp2)), .val (.ref b4), .val (.int z5), .unset, .unset, .unset, .unset, .unset, .unset, .unset, .unset, .unset, .unset, .unset, .unset] [(.int z6)])
  obtain ⟨hz6, hlo6, hhi6, hle6, hcn6, hcu6⟩ := hp6
  have hL6 : vs6.length = 12 := hle6.trans hL5
  refine o_istore X6 at_43 #[.val (.int xp0), .val (.int xp1), .val (.int xp2), .val (.int xs), .val (.int (f_cp xp0)), .val (.int (f_cp xp1)), .val (.int (f_cp xp2)), .val (.ref b4), .val (.int z5), .val (.int z6), .unset, .unset, .unset, .unset, .unset, .unset, .unset, .unset, .unset, .unset, .unset] rfl 45 rfl ?_
  refine o_aload X6 at_45 rfl rfl 47 rfl ?_
  refine o_iload X6 at_47 rfl 49 rfl ?_
  refine o_iload X6 at_49 rfl 51 rfl ?_
  refine o_callS X6 at_51 (rest := []) (c_put l Z a0 hw [] n0 _ X6.size b4 z6 (f_cp xp2) vs6 [] H6 ((0 + ln5) + ln6) hz6 (by omega) (by omega) (v_cpr _).1 (v_cpr _).2) (hw _ (List.mem_of_getElem? (i := 9) rfl)) (hw _ (List.mem_of_getElem? (i := 10) rfl)) (hw _ (List.mem_of_getElem? (i := 2) rfl)) (hw _ (List.mem_of_getElem? (i := 11) rfl)) (by decide) 0 (by decide) (by decide) rfl [(.ref b4), (.int z6), (.int (f_cp xp2))] rfl pd_2 rfl rfl (Nat.le_of_eq rfl) 1 12 rfl rfl (by decide) (by decide) 54 rfl ?_
  rintro _ T7 h7 X7 ⟨vs7, ln7, z7, rfl, H7, hp7⟩
  replace H7 : OL n0 h7 ((b4, OA Z .byte vs7) :: []) := H7
  show OE p e room_1 below s n0 Q' T7 (mkF m 54 #[.val (.int xp0), .val (.int xp1), .val (.int xp2), .val (.int xs), .val (.int (f_cp xp0)), .val (.int (f_cp xp1)), .val (.int (f_cp xp2)), .val (.ref b4), .val (.int z5), .val (.int z6), .unset, .unset, .unset, .unset, .unset, .unset, .unset, .unset, .unset, .unset, .unset] [(.int z7)])
  obtain ⟨hz7, hlo7, hhi7, hle7, hcn7, hcu7⟩ := hp7
  have hL7 : vs7.length = 12 := hle7.trans hL6
  refine o_istore X7 at_54 #[.val (.int xp0), .val (.int xp1), .val (.int xp2), .val (.int xs), .val (.int (f_cp xp0)), .val (.int (f_cp xp1)), .val (.int (f_cp xp2)), .val (.ref b4), .val (.int z5), .val (.int z6), .val (.int z7), .unset, .unset, .unset, .unset, .unset, .unset, .unset, .unset, .unset, .unset] rfl 56 rfl ?_
  have B1 : ∀ k, k = 0 → f_cnt vs7 k ln5 = f_un (f_cp xp0) := fun k e => by subst e; rw [hcn7 0 ln5 (by omega), hcn6 0 ln5 (by omega), hcu5]
  have B2 : ∀ k, k = 0 + ln5 → f_cnt vs7 k ln6 = f_un (f_cp xp1) := fun k e => by subst e; rw [hcn7 _ _ (by omega), hcu6]
  have B3 : ∀ k, k = 0 + ln5 + ln6 → f_cnt vs7 k ln7 = f_un (f_cp xp2) := fun k e => by subst e; exact hcu7
  refine o_iload X7 at_56 rfl 58 rfl ?_
  refine o_callS X7 at_58 (rest := []) (c_un l Z a0 hw [] n0 _ X7.size (f_cp xp0) ) (hw _ (List.mem_of_getElem? (i := 12) rfl)) (hw _ (List.mem_of_getElem? (i := 13) rfl)) (hw _ (List.mem_of_getElem? (i := 2) rfl)) (hw _ (List.mem_of_getElem? (i := 14) rfl)) (by decide) 0 (by decide) (by decide) rfl [(.int (f_cp xp0))] rfl pd_3 rfl rfl (Nat.le_of_eq rfl) 1 12 rfl rfl (by decide) (by decide) 61 rfl ?_
  rintro _ T8 _ X8 ⟨rfl, rfl⟩
  show OE p e room_1 below s n0 Q' T8 (mkF m 61 #[.val (.int xp0), .val (.int xp1), .val (.int xp2), .val (.int xs), .val (.int (f_cp xp0)), .val (.int (f_cp xp1)), .val (.int (f_cp xp2)), .val (.ref b4), .val (.int z5), .val (.int z6), .val (.int z7), .unset, .unset, .unset, .unset, .unset, .unset, .unset, .unset, .unset, .unset] [(.int (f_un (f_cp xp0)))])
  refine o_istore X8 at_61 #[.val (.int xp0), .val (.int xp1), .val (.int xp2), .val (.int xs), .val (.int (f_cp xp0)), .val (.int (f_cp xp1)), .val (.int (f_cp xp2)), .val (.ref b4), .val (.int z5), .val (.int z6), .val (.int z7), .val (.int (f_un (f_cp xp0))), .unset, .unset, .unset, .unset, .unset, .unset, .unset, .unset, .unset] rfl 63 rfl ?_
  refine o_iload X8 at_63 rfl 65 rfl ?_
  refine o_iload X8 at_65 rfl 67 rfl ?_
  refine o_callS X8 at_67 (rest := [(.int (f_un (f_cp xp0)))]) (c_un l Z a0 hw [] n0 _ X8.size (f_cp xp1) ) (hw _ (List.mem_of_getElem? (i := 12) rfl)) (hw _ (List.mem_of_getElem? (i := 13) rfl)) (hw _ (List.mem_of_getElem? (i := 2) rfl)) (hw _ (List.mem_of_getElem? (i := 14) rfl)) (by decide) 1 (by decide) (by decide) rfl [(.int (f_cp xp1))] rfl pd_3 rfl rfl (Nat.le_of_eq rfl) 1 12 rfl rfl (by decide) (by decide) 70 rfl ?_
  rintro _ T9 _ X9 ⟨rfl, rfl⟩
  show OE p e room_1 below s n0 Q' T9 (mkF m 70 #[.val (.int xp0), .val (.int xp1), .val (.int xp2), .val (.int xs), .val (.int (f_cp xp0)), .val (.int (f_cp xp1)), .val (.int (f_cp xp2)), .val (.ref b4), .val (.int z5), .val (.int z6), .val (.int z7), .val (.int (f_un (f_cp xp0))), .unset, .unset, .unset, .unset, .unset, .unset, .unset, .unset, .unset] [(.int (f_un (f_cp xp1))), (.int (f_un (f_cp xp0)))])
  refine o_iadd X9 at_70 71 rfl ?_
  refine o_istore X9 at_71 #[.val (.int xp0), .val (.int xp1), .val (.int xp2), .val (.int xs), .val (.int (f_cp xp0)), .val (.int (f_cp xp1)), .val (.int (f_cp xp2)), .val (.ref b4), .val (.int z5), .val (.int z6), .val (.int z7), .val (.int (f_un (f_cp xp0))), .val (.int ((f_un (f_cp xp0)) + (f_un (f_cp xp1)))), .unset, .unset, .unset, .unset, .unset, .unset, .unset, .unset] rfl 73 rfl ?_
  refine o_iload X9 at_73 rfl 75 rfl ?_
  refine o_iload X9 at_75 rfl 77 rfl ?_
  refine o_callS X9 at_77 (rest := [(.int ((f_un (f_cp xp0)) + (f_un (f_cp xp1))))]) (c_un l Z a0 hw [] n0 _ X9.size (f_cp xp2) ) (hw _ (List.mem_of_getElem? (i := 12) rfl)) (hw _ (List.mem_of_getElem? (i := 13) rfl)) (hw _ (List.mem_of_getElem? (i := 2) rfl)) (hw _ (List.mem_of_getElem? (i := 14) rfl)) (by decide) 1 (by decide) (by decide) rfl [(.int (f_cp xp2))] rfl pd_3 rfl rfl (Nat.le_of_eq rfl) 1 12 rfl rfl (by decide) (by decide) 80 rfl ?_
  rintro _ T10 _ X10 ⟨rfl, rfl⟩
  show OE p e room_1 below s n0 Q' T10 (mkF m 80 #[.val (.int xp0), .val (.int xp1), .val (.int xp2), .val (.int xs), .val (.int (f_cp xp0)), .val (.int (f_cp xp1)), .val (.int (f_cp xp2)), .val (.ref b4), .val (.int z5), .val (.int z6), .val (.int z7), .val (.int (f_un (f_cp xp0))), .val (.int ((f_un (f_cp xp0)) + (f_un (f_cp xp1)))), .unset, .unset, .unset, .unset, .unset, .unset, .unset, .unset] [(.int (f_un (f_cp xp2))), (.int ((f_un (f_cp xp0)) + (f_un (f_cp xp1))))])
  refine o_iadd X10 at_80 81 rfl ?_
  refine o_istore X10 at_81 #[.val (.int xp0), .val (.int xp1), .val (.int xp2), .val (.int xs), .val (.int (f_cp xp0)), .val (.int (f_cp xp1)), .val (.int (f_cp xp2)), .val (.ref b4), .val (.int z5), .val (.int z6), .val (.int z7), .val (.int (f_un (f_cp xp0))), .val (.int ((f_un (f_cp xp0)) + (f_un (f_cp xp1)))), .val (.int (((f_un (f_cp xp0)) + (f_un (f_cp xp1))) + (f_un (f_cp xp2)))), .unset, .unset, .unset, .unset, .unset, .unset, .unset] rfl 83 rfl ?_
  refine o_iloadN X10 at_83 rfl 84 rfl ?_
  refine o_iconst (v := (3 : Int32)) X10 at_84 rfl 85 rfl ?_
  refine o_iand X10 at_85 86 rfl ?_
  refine o_istore X10 at_86 #[.val (.int xp0), .val (.int xp1), .val (.int xp2), .val (.int xs), .val (.int (f_cp xp0)), .val (.int (f_cp xp1)), .val (.int (f_cp xp2)), .val (.ref b4), .val (.int z5), .val (.int z6), .val (.int z7), .val (.int (f_un (f_cp xp0))), .val (.int ((f_un (f_cp xp0)) + (f_un (f_cp xp1)))), .val (.int (((f_un (f_cp xp0)) + (f_un (f_cp xp1))) + (f_un (f_cp xp2)))), .val (.int (xs &&& (3 : Int32))), .unset, .unset, .unset, .unset, .unset, .unset] rfl 88 rfl ?_
  refine o_iloadN X10 at_88 rfl 89 rfl ?_
  refine o_iconst (v := (2 : Int32)) X10 at_89 rfl 90 rfl ?_
  refine o_iushr X10 at_90 91 rfl ?_
  refine o_iconst (v := (3 : Int32)) X10 at_91 rfl 92 rfl ?_
  refine o_iand X10 at_92 93 rfl ?_
  refine o_istore X10 at_93 #[.val (.int xp0), .val (.int xp1), .val (.int xp2), .val (.int xs), .val (.int (f_cp xp0)), .val (.int (f_cp xp1)), .val (.int (f_cp xp2)), .val (.ref b4), .val (.int z5), .val (.int z6), .val (.int z7), .val (.int (f_un (f_cp xp0))), .val (.int ((f_un (f_cp xp0)) + (f_un (f_cp xp1)))), .val (.int (((f_un (f_cp xp0)) + (f_un (f_cp xp1))) + (f_un (f_cp xp2)))), .val (.int (xs &&& (3 : Int32))), .val (.int ((XT.ushr xs (2 : Int32)) &&& (3 : Int32))), .unset, .unset, .unset, .unset, .unset] rfl 95 rfl ?_
  rcases v_k (XT.ushr xs 2) with hv | hv | hv | hv
  · rw [hv]
    rcases v_k xs with hv | hv | hv | hv
    · rw [hv]
      refine o_iload X10 at_95 rfl 97 rfl ?_
      refine o_iload X10 at_97 rfl 99 rfl ?_
      refine o_callS X10 at_99 (rest := []) (c_min l Z a0 hw [] n0 _ X10.size (0 : Int32) (0 : Int32) ) (hw _ (List.mem_of_getElem? (i := 15) rfl)) (hw _ (List.mem_of_getElem? (i := 16) rfl)) (hw _ (List.mem_of_getElem? (i := 17) rfl)) (hw _ (List.mem_of_getElem? (i := 18) rfl)) (by decide) 0 (by decide) (by decide) rfl [(.int (0 : Int32)), (.int (0 : Int32))] rfl pd_4 rfl rfl (Nat.le_of_eq rfl) 1 12 rfl rfl (by decide) (by decide) 102 rfl ?_
      rintro _ T11 _ X11 ⟨rfl, rfl⟩
      rw [show (f_min (0 : Int32) (0 : Int32)) = (0 : Int32) from rfl]
      show OE p e room_1 below s n0 Q' T11 (mkF m 102 #[.val (.int xp0), .val (.int xp1), .val (.int xp2), .val (.int xs), .val (.int (f_cp xp0)), .val (.int (f_cp xp1)), .val (.int (f_cp xp2)), .val (.ref b4), .val (.int z5), .val (.int z6), .val (.int z7), .val (.int (f_un (f_cp xp0))), .val (.int ((f_un (f_cp xp0)) + (f_un (f_cp xp1)))), .val (.int (((f_un (f_cp xp0)) + (f_un (f_cp xp1))) + (f_un (f_cp xp2)))), .val (.int (0 : Int32)), .val (.int (0 : Int32)), .unset, .unset, .unset, .unset, .unset] [(.int (0 : Int32))])
      refine o_istore X11 at_102 #[.val (.int xp0), .val (.int xp1), .val (.int xp2), .val (.int xs), .val (.int (f_cp xp0)), .val (.int (f_cp xp1)), .val (.int (f_cp xp2)), .val (.ref b4), .val (.int z5), .val (.int z6), .val (.int z7), .val (.int (f_un (f_cp xp0))), .val (.int ((f_un (f_cp xp0)) + (f_un (f_cp xp1)))), .val (.int (((f_un (f_cp xp0)) + (f_un (f_cp xp1))) + (f_un (f_cp xp2)))), .val (.int (0 : Int32)), .val (.int (0 : Int32)), .val (.int (0 : Int32)), .unset, .unset, .unset, .unset] rfl 104 rfl ?_
      refine o_iload X11 at_104 rfl 106 rfl ?_
      refine o_iload X11 at_106 rfl 108 rfl ?_
      refine o_callS X11 at_108 (rest := []) (c_max l Z a0 hw [] n0 _ X11.size (0 : Int32) (0 : Int32) ) (hw _ (List.mem_of_getElem? (i := 19) rfl)) (hw _ (List.mem_of_getElem? (i := 20) rfl)) (hw _ (List.mem_of_getElem? (i := 17) rfl)) (hw _ (List.mem_of_getElem? (i := 21) rfl)) (by decide) 0 (by decide) (by decide) rfl [(.int (0 : Int32)), (.int (0 : Int32))] rfl pd_5 rfl rfl (Nat.le_of_eq rfl) 1 12 rfl rfl (by decide) (by decide) 111 rfl ?_
      rintro _ T12 _ X12 ⟨rfl, rfl⟩
      rw [show (f_max (0 : Int32) (0 : Int32)) = (0 : Int32) from rfl]
      show OE p e room_1 below s n0 Q' T12 (mkF m 111 #[.val (.int xp0), .val (.int xp1), .val (.int xp2), .val (.int xs), .val (.int (f_cp xp0)), .val (.int (f_cp xp1)), .val (.int (f_cp xp2)), .val (.ref b4), .val (.int z5), .val (.int z6), .val (.int z7), .val (.int (f_un (f_cp xp0))), .val (.int ((f_un (f_cp xp0)) + (f_un (f_cp xp1)))), .val (.int (((f_un (f_cp xp0)) + (f_un (f_cp xp1))) + (f_un (f_cp xp2)))), .val (.int (0 : Int32)), .val (.int (0 : Int32)), .val (.int (0 : Int32)), .unset, .unset, .unset, .unset] [(.int (0 : Int32))])
      refine o_istore X12 at_111 #[.val (.int xp0), .val (.int xp1), .val (.int xp2), .val (.int xs), .val (.int (f_cp xp0)), .val (.int (f_cp xp1)), .val (.int (f_cp xp2)), .val (.ref b4), .val (.int z5), .val (.int z6), .val (.int z7), .val (.int (f_un (f_cp xp0))), .val (.int ((f_un (f_cp xp0)) + (f_un (f_cp xp1)))), .val (.int (((f_un (f_cp xp0)) + (f_un (f_cp xp1))) + (f_un (f_cp xp2)))), .val (.int (0 : Int32)), .val (.int (0 : Int32)), .val (.int (0 : Int32)), .val (.int (0 : Int32)), .unset, .unset, .unset] rfl 113 rfl ?_
      refine o_iload X12 at_113 rfl 115 rfl ?_
      refine o_iconst (v := (0 : Int32)) X12 at_115 rfl 116 rfl ?_
      refine o_iload X12 at_116 rfl 118 rfl ?_
      refine o_iload X12 at_118 rfl 120 rfl ?_
      refine o_iload X12 at_120 rfl 122 rfl ?_
      refine o_callS X12 at_122 (rest := []) (c_pick l Z a0 hw [] n0 _ X12.size (0 : Int32) (0 : Int32) z5 z6 z7 ) (hw _ (List.mem_of_getElem? (i := 22) rfl)) (hw _ (List.mem_of_getElem? (i := 23) rfl)) (hw _ (List.mem_of_getElem? (i := 2) rfl)) (hw _ (List.mem_of_getElem? (i := 24) rfl)) (by decide) 0 (by decide) (by decide) rfl [(.int (0 : Int32)), (.int (0 : Int32)), (.int z5), (.int z6), (.int z7)] rfl pd_6 rfl rfl (Nat.le_of_eq rfl) 1 12 rfl rfl (by decide) (by decide) 125 rfl ?_
      rintro _ T13 _ X13 ⟨rfl, rfl⟩
      rw [show (f_pick (0 : Int32) (0 : Int32) z5 z6 z7) = (0 : Int32) from rfl]
      show OE p e room_1 below s n0 Q' T13 (mkF m 125 #[.val (.int xp0), .val (.int xp1), .val (.int xp2), .val (.int xs), .val (.int (f_cp xp0)), .val (.int (f_cp xp1)), .val (.int (f_cp xp2)), .val (.ref b4), .val (.int z5), .val (.int z6), .val (.int z7), .val (.int (f_un (f_cp xp0))), .val (.int ((f_un (f_cp xp0)) + (f_un (f_cp xp1)))), .val (.int (((f_un (f_cp xp0)) + (f_un (f_cp xp1))) + (f_un (f_cp xp2)))), .val (.int (0 : Int32)), .val (.int (0 : Int32)), .val (.int (0 : Int32)), .val (.int (0 : Int32)), .unset, .unset, .unset] [(.int (0 : Int32))])
      refine o_istore X13 at_125 #[.val (.int xp0), .val (.int xp1), .val (.int xp2), .val (.int xs), .val (.int (f_cp xp0)), .val (.int (f_cp xp1)), .val (.int (f_cp xp2)), .val (.ref b4), .val (.int z5), .val (.int z6), .val (.int z7), .val (.int (f_un (f_cp xp0))), .val (.int ((f_un (f_cp xp0)) + (f_un (f_cp xp1)))), .val (.int (((f_un (f_cp xp0)) + (f_un (f_cp xp1))) + (f_un (f_cp xp2)))), .val (.int (0 : Int32)), .val (.int (0 : Int32)), .val (.int (0 : Int32)), .val (.int (0 : Int32)), .val (.int (0 : Int32)), .unset, .unset] rfl 127 rfl ?_
      refine o_iload X13 at_127 rfl 129 rfl ?_
      refine o_iconst (v := (0 : Int32)) X13 at_129 rfl 130 rfl ?_
      refine o_iload X13 at_130 rfl 132 rfl ?_
      refine o_iload X13 at_132 rfl 134 rfl ?_
      refine o_iload X13 at_134 rfl 136 rfl ?_
      refine o_callS X13 at_136 (rest := []) (c_pick l Z a0 hw [] n0 _ X13.size (0 : Int32) (0 : Int32) z5 z6 z7 ) (hw _ (List.mem_of_getElem? (i := 22) rfl)) (hw _ (List.mem_of_getElem? (i := 23) rfl)) (hw _ (List.mem_of_getElem? (i := 2) rfl)) (hw _ (List.mem_of_getElem? (i := 24) rfl)) (by decide) 0 (by decide) (by decide) rfl [(.int (0 : Int32)), (.int (0 : Int32)), (.int z5), (.int z6), (.int z7)] rfl pd_6 rfl rfl (Nat.le_of_eq rfl) 1 12 rfl rfl (by decide) (by decide) 139 rfl ?_
      rintro _ T14 _ X14 ⟨rfl, rfl⟩
      rw [show (f_pick (0 : Int32) (0 : Int32) z5 z6 z7) = (0 : Int32) from rfl]
      show OE p e room_1 below s n0 Q' T14 (mkF m 139 #[.val (.int xp0), .val (.int xp1), .val (.int xp2), .val (.int xs), .val (.int (f_cp xp0)), .val (.int (f_cp xp1)), .val (.int (f_cp xp2)), .val (.ref b4), .val (.int z5), .val (.int z6), .val (.int z7), .val (.int (f_un (f_cp xp0))), .val (.int ((f_un (f_cp xp0)) + (f_un (f_cp xp1)))), .val (.int (((f_un (f_cp xp0)) + (f_un (f_cp xp1))) + (f_un (f_cp xp2)))), .val (.int (0 : Int32)), .val (.int (0 : Int32)), .val (.int (0 : Int32)), .val (.int (0 : Int32)), .val (.int (0 : Int32)), .unset, .unset] [(.int (0 : Int32))])
      refine o_istore X14 at_139 #[.val (.int xp0), .val (.int xp1), .val (.int xp2), .val (.int xs), .val (.int (f_cp xp0)), .val (.int (f_cp xp1)), .val (.int (f_cp xp2)), .val (.ref b4), .val (.int z5), .val (.int z6), .val (.int z7), .val (.int (f_un (f_cp xp0))), .val (.int ((f_un (f_cp xp0)) + (f_un (f_cp xp1)))), .val (.int (((f_un (f_cp xp0)) + (f_un (f_cp xp1))) + (f_un (f_cp xp2)))), .val (.int (0 : Int32)), .val (.int (0 : Int32)), .val (.int (0 : Int32)), .val (.int (0 : Int32)), .val (.int (0 : Int32)), .val (.int (0 : Int32)), .unset] rfl 141 rfl ?_
      refine o_iload X14 at_141 rfl 143 rfl ?_
      refine o_iconst (v := (0 : Int32)) X14 at_143 rfl 144 rfl ?_
      refine o_iload X14 at_144 rfl 146 rfl ?_
      refine o_iload X14 at_146 rfl 148 rfl ?_
      refine o_iload X14 at_148 rfl 150 rfl ?_
      refine o_callS X14 at_150 (rest := []) (c_pick l Z a0 hw [] n0 _ X14.size (0 : Int32) (0 : Int32) (f_un (f_cp xp0)) ((f_un (f_cp xp0)) + (f_un (f_cp xp1))) (((f_un (f_cp xp0)) + (f_un (f_cp xp1))) + (f_un (f_cp xp2))) ) (hw _ (List.mem_of_getElem? (i := 22) rfl)) (hw _ (List.mem_of_getElem? (i := 23) rfl)) (hw _ (List.mem_of_getElem? (i := 2) rfl)) (hw _ (List.mem_of_getElem? (i := 24) rfl)) (by decide) 0 (by decide) (by decide) rfl [(.int (0 : Int32)), (.int (0 : Int32)), (.int (f_un (f_cp xp0))), (.int ((f_un (f_cp xp0)) + (f_un (f_cp xp1)))), (.int (((f_un (f_cp xp0)) + (f_un (f_cp xp1))) + (f_un (f_cp xp2))))] rfl pd_6 rfl rfl (Nat.le_of_eq rfl) 1 12 rfl rfl (by decide) (by decide) 153 rfl ?_
      rintro _ T15 _ X15 ⟨rfl, rfl⟩
      rw [show (f_pick (0 : Int32) (0 : Int32) (f_un (f_cp xp0)) ((f_un (f_cp xp0)) + (f_un (f_cp xp1))) (((f_un (f_cp xp0)) + (f_un (f_cp xp1))) + (f_un (f_cp xp2)))) = (0 : Int32) from rfl]
      show OE p e room_1 below s n0 Q' T15 (mkF m 153 #[.val (.int xp0), .val (.int xp1), .val (.int xp2), .val (.int xs), .val (.int (f_cp xp0)), .val (.int (f_cp xp1)), .val (.int (f_cp xp2)), .val (.ref b4), .val (.int z5), .val (.int z6), .val (.int z7), .val (.int (f_un (f_cp xp0))), .val (.int ((f_un (f_cp xp0)) + (f_un (f_cp xp1)))), .val (.int (((f_un (f_cp xp0)) + (f_un (f_cp xp1))) + (f_un (f_cp xp2)))), .val (.int (0 : Int32)), .val (.int (0 : Int32)), .val (.int (0 : Int32)), .val (.int (0 : Int32)), .val (.int (0 : Int32)), .val (.int (0 : Int32)), .unset] [(.int (0 : Int32))])
      refine o_iload X15 at_153 rfl 155 rfl ?_
      refine o_iconst (v := (0 : Int32)) X15 at_155 rfl 156 rfl ?_
      refine o_iload X15 at_156 rfl 158 rfl ?_
      refine o_iload X15 at_158 rfl 160 rfl ?_
      refine o_iload X15 at_160 rfl 162 rfl ?_
      refine o_callS X15 at_162 (rest := [(.int (0 : Int32))]) (c_pick l Z a0 hw [] n0 _ X15.size (0 : Int32) (0 : Int32) (f_un (f_cp xp0)) ((f_un (f_cp xp0)) + (f_un (f_cp xp1))) (((f_un (f_cp xp0)) + (f_un (f_cp xp1))) + (f_un (f_cp xp2))) ) (hw _ (List.mem_of_getElem? (i := 22) rfl)) (hw _ (List.mem_of_getElem? (i := 23) rfl)) (hw _ (List.mem_of_getElem? (i := 2) rfl)) (hw _ (List.mem_of_getElem? (i := 24) rfl)) (by decide) 1 (by decide) (by decide) rfl [(.int (0 : Int32)), (.int (0 : Int32)), (.int (f_un (f_cp xp0))), (.int ((f_un (f_cp xp0)) + (f_un (f_cp xp1)))), (.int (((f_un (f_cp xp0)) + (f_un (f_cp xp1))) + (f_un (f_cp xp2))))] rfl pd_6 rfl rfl (Nat.le_of_eq rfl) 1 12 rfl rfl (by decide) (by decide) 165 rfl ?_
      rintro _ T16 _ X16 ⟨rfl, rfl⟩
      rw [show (f_pick (0 : Int32) (0 : Int32) (f_un (f_cp xp0)) ((f_un (f_cp xp0)) + (f_un (f_cp xp1))) (((f_un (f_cp xp0)) + (f_un (f_cp xp1))) + (f_un (f_cp xp2)))) = (0 : Int32) from rfl]
      show OE p e room_1 below s n0 Q' T16 (mkF m 165 #[.val (.int xp0), .val (.int xp1), .val (.int xp2), .val (.int xs), .val (.int (f_cp xp0)), .val (.int (f_cp xp1)), .val (.int (f_cp xp2)), .val (.ref b4), .val (.int z5), .val (.int z6), .val (.int z7), .val (.int (f_un (f_cp xp0))), .val (.int ((f_un (f_cp xp0)) + (f_un (f_cp xp1)))), .val (.int (((f_un (f_cp xp0)) + (f_un (f_cp xp1))) + (f_un (f_cp xp2)))), .val (.int (0 : Int32)), .val (.int (0 : Int32)), .val (.int (0 : Int32)), .val (.int (0 : Int32)), .val (.int (0 : Int32)), .val (.int (0 : Int32)), .unset] [(.int (0 : Int32)), (.int (0 : Int32))])
      refine o_isub X16 at_165 166 rfl ?_
      refine o_istore X16 at_166 #[.val (.int xp0), .val (.int xp1), .val (.int xp2), .val (.int xs), .val (.int (f_cp xp0)), .val (.int (f_cp xp1)), .val (.int (f_cp xp2)), .val (.ref b4), .val (.int z5), .val (.int z6), .val (.int z7), .val (.int (f_un (f_cp xp0))), .val (.int ((f_un (f_cp xp0)) + (f_un (f_cp xp1)))), .val (.int (((f_un (f_cp xp0)) + (f_un (f_cp xp1))) + (f_un (f_cp xp2)))), .val (.int (0 : Int32)), .val (.int (0 : Int32)), .val (.int (0 : Int32)), .val (.int (0 : Int32)), .val (.int (0 : Int32)), .val (.int (0 : Int32)), .val (.int ((0 : Int32) - (0 : Int32)))] rfl 168 rfl ?_
      rw [show ((0 : Int32) - (0 : Int32)) = (0 : Int32) from rfl]
      refine o_aload X16 at_168 rfl rfl 170 rfl ?_
      refine o_iload X16 at_170 rfl 172 rfl ?_
      refine o_iload X16 at_172 rfl 174 rfl ?_
      refine o_callS X16 at_174 (rest := []) (c_cc l Z a0 hw [] n0 _ X16.size b4 (0 : Int32) (0 : Int32) vs7 [] H7 0 0 rfl rfl (by omega) (by omega)) (hw _ (List.mem_of_getElem? (i := 25) rfl)) (hw _ (List.mem_of_getElem? (i := 26) rfl)) (hw _ (List.mem_of_getElem? (i := 27) rfl)) (hw _ (List.mem_of_getElem? (i := 28) rfl)) (by decide) 0 (by decide) (by decide) rfl [(.ref b4), (.int (0 : Int32)), (.int (0 : Int32))] rfl pd_7 rfl rfl (Nat.le_of_eq rfl) 1 12 rfl rfl (by decide) (by decide) 177 rfl ?_
      rintro _ T17 _ X17 ⟨rfl, rfl⟩
      show OE p e room_1 below s n0 Q' T17 (mkF m 177 #[.val (.int xp0), .val (.int xp1), .val (.int xp2), .val (.int xs), .val (.int (f_cp xp0)), .val (.int (f_cp xp1)), .val (.int (f_cp xp2)), .val (.ref b4), .val (.int z5), .val (.int z6), .val (.int z7), .val (.int (f_un (f_cp xp0))), .val (.int ((f_un (f_cp xp0)) + (f_un (f_cp xp1)))), .val (.int (((f_un (f_cp xp0)) + (f_un (f_cp xp1))) + (f_un (f_cp xp2)))), .val (.int (0 : Int32)), .val (.int (0 : Int32)), .val (.int (0 : Int32)), .val (.int (0 : Int32)), .val (.int (0 : Int32)), .val (.int (0 : Int32)), .val (.int (0 : Int32))] [(.int (f_cnt vs7 0 0))])
      refine o_iload X17 at_177 rfl 179 rfl ?_
      refine o_icmpNe X17 at_179 186 182 (by decide) (by decide) rfl (fun q => by exfalso; apply q; show (0 : Int32) = _; grind) ?_
      intro hc179
      refine o_iconst (v := (1 : Int32)) X17 at_182 rfl 183 rfl ?_
      refine o_goto X17 at_183 187 (by decide) (by decide) ?_
      exact o_retZ X17 at_187 (by decide) (by decide) (hQ _ _ rfl)
    · rw [hv]
      refine o_iload X10 at_95 rfl 97 rfl ?_
      refine o_iload X10 at_97 rfl 99 rfl ?_
      refine o_callS X10 at_99 (rest := []) (c_min l Z a0 hw [] n0 _ X10.size (1 : Int32) (0 : Int32) ) (hw _ (List.mem_of_getElem? (i := 15) rfl)) (hw _ (List.mem_of_getElem? (i := 16) rfl)) (hw _ (List.mem_of_getElem? (i := 17) rfl)) (hw _ (List.mem_of_getElem? (i := 18) rfl)) (by decide) 0 (by decide) (by decide) rfl [(.int (1 : Int32)), (.int (0 : Int32))] rfl pd_4 rfl rfl (Nat.le_of_eq rfl) 1 12 rfl rfl (by decide) (by decide) 102 rfl ?_
      rintro _ T18 _ X18 ⟨rfl, rfl⟩
      rw [show (f_min (1 : Int32) (0 : Int32)) = (0 : Int32) from rfl]
      show OE p e room_1 below s n0 Q' T18 (mkF m 102 #[.val (.int xp0), .val (.int xp1), .val (.int xp2), .val (.int xs), .val (.int (f_cp xp0)), .val (.int (f_cp xp1)), .val (.int (f_cp xp2)), .val (.ref b4), .val (.int z5), .val (.int z6), .val (.int z7), .val (.int (f_un (f_cp xp0))), .val (.int ((f_un (f_cp xp0)) + (f_un (f_cp xp1)))), .val (.int (((f_un (f_cp xp0)) + (f_un (f_cp xp1))) + (f_un (f_cp xp2)))), .val (.int (1 : Int32)), .val (.int (0 : Int32)), .unset, .unset, .unset, .unset, .unset] [(.int (0 : Int32))])
      refine o_istore X18 at_102 #[.val (.int xp0), .val (.int xp1), .val (.int xp2), .val (.int xs), .val (.int (f_cp xp0)), .val (.int (f_cp xp1)), .val (.int (f_cp xp2)), .val (.ref b4), .val (.int z5), .val (.int z6), .val (.int z7), .val (.int (f_un (f_cp xp0))), .val (.int ((f_un (f_cp xp0)) + (f_un (f_cp xp1)))), .val (.int (((f_un (f_cp xp0)) + (f_un (f_cp xp1))) + (f_un (f_cp xp2)))), .val (.int (1 : Int32)), .val (.int (0 : Int32)), .val (.int (0 : Int32)), .unset, .unset, .unset, .unset] rfl 104 rfl ?_
      refine o_iload X18 at_104 rfl 106 rfl ?_
      refine o_iload X18 at_106 rfl 108 rfl ?_
      refine o_callS X18 at_108 (rest := []) (c_max l Z a0 hw [] n0 _ X18.size (1 : Int32) (0 : Int32) ) (hw _ (List.mem_of_getElem? (i := 19) rfl)) (hw _ (List.mem_of_getElem? (i := 20) rfl)) (hw _ (List.mem_of_getElem? (i := 17) rfl)) (hw _ (List.mem_of_getElem? (i := 21) rfl)) (by decide) 0 (by decide) (by decide) rfl [(.int (1 : Int32)), (.int (0 : Int32))] rfl pd_5 rfl rfl (Nat.le_of_eq rfl) 1 12 rfl rfl (by decide) (by decide) 111 rfl ?_
      rintro _ T19 _ X19 ⟨rfl, rfl⟩
      rw [show (f_max (1 : Int32) (0 : Int32)) = (1 : Int32) from rfl]
      show OE p e room_1 below s n0 Q' T19 (mkF m 111 #[.val (.int xp0), .val (.int xp1), .val (.int xp2), .val (.int xs), .val (.int (f_cp xp0)), .val (.int (f_cp xp1)), .val (.int (f_cp xp2)), .val (.ref b4), .val (.int z5), .val (.int z6), .val (.int z7), .val (.int (f_un (f_cp xp0))), .val (.int ((f_un (f_cp xp0)) + (f_un (f_cp xp1)))), .val (.int (((f_un (f_cp xp0)) + (f_un (f_cp xp1))) + (f_un (f_cp xp2)))), .val (.int (1 : Int32)), .val (.int (0 : Int32)), .val (.int (0 : Int32)), .unset, .unset, .unset, .unset] [(.int (1 : Int32))])
      refine o_istore X19 at_111 #[.val (.int xp0), .val (.int xp1), .val (.int xp2), .val (.int xs), .val (.int (f_cp xp0)), .val (.int (f_cp xp1)), .val (.int (f_cp xp2)), .val (.ref b4), .val (.int z5), .val (.int z6), .val (.int z7), .val (.int (f_un (f_cp xp0))), .val (.int ((f_un (f_cp xp0)) + (f_un (f_cp xp1)))), .val (.int (((f_un (f_cp xp0)) + (f_un (f_cp xp1))) + (f_un (f_cp xp2)))), .val (.int (1 : Int32)), .val (.int (0 : Int32)), .val (.int (0 : Int32)), .val (.int (1 : Int32)), .unset, .unset, .unset] rfl 113 rfl ?_
      refine o_iload X19 at_113 rfl 115 rfl ?_
      refine o_iconst (v := (0 : Int32)) X19 at_115 rfl 116 rfl ?_
      refine o_iload X19 at_116 rfl 118 rfl ?_
      refine o_iload X19 at_118 rfl 120 rfl ?_
      refine o_iload X19 at_120 rfl 122 rfl ?_
      refine o_callS X19 at_122 (rest := []) (c_pick l Z a0 hw [] n0 _ X19.size (0 : Int32) (0 : Int32) z5 z6 z7 ) (hw _ (List.mem_of_getElem? (i := 22) rfl)) (hw _ (List.mem_of_getElem? (i := 23) rfl)) (hw _ (List.mem_of_getElem? (i := 2) rfl)) (hw _ (List.mem_of_getElem? (i := 24) rfl)) (by decide) 0 (by decide) (by decide) rfl [(.int (0 : Int32)), (.int (0 : Int32)), (.int z5), (.int z6), (.int z7)] rfl pd_6 rfl rfl (Nat.le_of_eq rfl) 1 12 rfl rfl (by decide) (by decide) 125 rfl ?_
      rintro _ T20 _ X20 ⟨rfl, rfl⟩
      rw [show (f_pick (0 : Int32) (0 : Int32) z5 z6 z7) = (0 : Int32) from rfl]
      show OE p e room_1 below s n0 Q' T20 (mkF m 125 #[.val (.int xp0), .val (.int xp1), .val (.int xp2), .val (.int xs), .val (.int (f_cp xp0)), .val (.int (f_cp xp1)), .val (.int (f_cp xp2)), .val (.ref b4), .val (.int z5), .val (.int z6), .val (.int z7), .val (.int (f_un (f_cp xp0))), .val (.int ((f_un (f_cp xp0)) + (f_un (f_cp xp1)))), .val (.int (((f_un (f_cp xp0)) + (f_un (f_cp xp1))) + (f_un (f_cp xp2)))), .val (.int (1 : Int32)), .val (.int (0 : Int32)), .val (.int (0 : Int32)), .val (.int (1 : Int32)), .unset, .unset, .unset] [(.int (0 : Int32))])
      refine o_istore X20 at_125 #[.val (.int xp0), .val (.int xp1), .val (.int xp2), .val (.int xs), .val (.int (f_cp xp0)), .val (.int (f_cp xp1)), .val (.int (f_cp xp2)), .val (.ref b4), .val (.int z5), .val (.int z6), .val (.int z7), .val (.int (f_un (f_cp xp0))), .val (.int ((f_un (f_cp xp0)) + (f_un (f_cp xp1)))), .val (.int (((f_un (f_cp xp0)) + (f_un (f_cp xp1))) + (f_un (f_cp xp2)))), .val (.int (1 : Int32)), .val (.int (0 : Int32)), .val (.int (0 : Int32)), .val (.int (1 : Int32)), .val (.int (0 : Int32)), .unset, .unset] rfl 127 rfl ?_
      refine o_iload X20 at_127 rfl 129 rfl ?_
      refine o_iconst (v := (0 : Int32)) X20 at_129 rfl 130 rfl ?_
      refine o_iload X20 at_130 rfl 132 rfl ?_
      refine o_iload X20 at_132 rfl 134 rfl ?_
      refine o_iload X20 at_134 rfl 136 rfl ?_
      refine o_callS X20 at_136 (rest := []) (c_pick l Z a0 hw [] n0 _ X20.size (1 : Int32) (0 : Int32) z5 z6 z7 ) (hw _ (List.mem_of_getElem? (i := 22) rfl)) (hw _ (List.mem_of_getElem? (i := 23) rfl)) (hw _ (List.mem_of_getElem? (i := 2) rfl)) (hw _ (List.mem_of_getElem? (i := 24) rfl)) (by decide) 0 (by decide) (by decide) rfl [(.int (1 : Int32)), (.int (0 : Int32)), (.int z5), (.int z6), (.int z7)] rfl pd_6 rfl rfl (Nat.le_of_eq rfl) 1 12 rfl rfl (by decide) (by decide) 139 rfl ?_
      rintro _ T21 _ X21 ⟨rfl, rfl⟩
      rw [show (f_pick (1 : Int32) (0 : Int32) z5 z6 z7) = z5 from rfl]
      show OE p e room_1 below s n0 Q' T21 (mkF m 139 #[.val (.int xp0), .val (.int xp1), .val (.int xp2), .val (.int xs), .val (.int (f_cp xp0)), .val (.int (f_cp xp1)), .val (.int (f_cp xp2)), .val (.ref b4), .val (.int z5), .val (.int z6), .val (.int z7), .val (.int (f_un (f_cp xp0))), .val (.int ((f_un (f_cp xp0)) + (f_un (f_cp xp1)))), .val (.int (((f_un (f_cp xp0)) + (f_un (f_cp xp1))) + (f_un (f_cp xp2)))), .val (.int (1 : Int32)), .val (.int (0 : Int32)), .val (.int (0 : Int32)), .val (.int (1 : Int32)), .val (.int (0 : Int32)), .unset, .unset] [(.int z5)])
      refine o_istore X21 at_139 #[.val (.int xp0), .val (.int xp1), .val (.int xp2), .val (.int xs), .val (.int (f_cp xp0)), .val (.int (f_cp xp1)), .val (.int (f_cp xp2)), .val (.ref b4), .val (.int z5), .val (.int z6), .val (.int z7), .val (.int (f_un (f_cp xp0))), .val (.int ((f_un (f_cp xp0)) + (f_un (f_cp xp1)))), .val (.int (((f_un (f_cp xp0)) + (f_un (f_cp xp1))) + (f_un (f_cp xp2)))), .val (.int (1 : Int32)), .val (.int (0 : Int32)), .val (.int (0 : Int32)), .val (.int (1 : Int32)), .val (.int (0 : Int32)), .val (.int z5), .unset] rfl 141 rfl ?_
      refine o_iload X21 at_141 rfl 143 rfl ?_
      refine o_iconst (v := (0 : Int32)) X21 at_143 rfl 144 rfl ?_
      refine o_iload X21 at_144 rfl 146 rfl ?_
      refine o_iload X21 at_146 rfl 148 rfl ?_
      refine o_iload X21 at_148 rfl 150 rfl ?_
      refine o_callS X21 at_150 (rest := []) (c_pick l Z a0 hw [] n0 _ X21.size (1 : Int32) (0 : Int32) (f_un (f_cp xp0)) ((f_un (f_cp xp0)) + (f_un (f_cp xp1))) (((f_un (f_cp xp0)) + (f_un (f_cp xp1))) + (f_un (f_cp xp2))) ) (hw _ (List.mem_of_getElem? (i := 22) rfl)) (hw _ (List.mem_of_getElem? (i := 23) rfl)) (hw _ (List.mem_of_getElem? (i := 2) rfl)) (hw _ (List.mem_of_getElem? (i := 24) rfl)) (by decide) 0 (by decide) (by decide) rfl [(.int (1 : Int32)), (.int (0 : Int32)), (.int (f_un (f_cp xp0))), (.int ((f_un (f_cp xp0)) + (f_un (f_cp xp1)))), (.int (((f_un (f_cp xp0)) + (f_un (f_cp xp1))) + (f_un (f_cp xp2))))] rfl pd_6 rfl rfl (Nat.le_of_eq rfl) 1 12 rfl rfl (by decide) (by decide) 153 rfl ?_
      rintro _ T22 _ X22 ⟨rfl, rfl⟩
      rw [show (f_pick (1 : Int32) (0 : Int32) (f_un (f_cp xp0)) ((f_un (f_cp xp0)) + (f_un (f_cp xp1))) (((f_un (f_cp xp0)) + (f_un (f_cp xp1))) + (f_un (f_cp xp2)))) = (f_un (f_cp xp0)) from rfl]
      show OE p e room_1 below s n0 Q' T22 (mkF m 153 #[.val (.int xp0), .val (.int xp1), .val (.int xp2), .val (.int xs), .val (.int (f_cp xp0)), .val (.int (f_cp xp1)), .val (.int (f_cp xp2)), .val (.ref b4), .val (.int z5), .val (.int z6), .val (.int z7), .val (.int (f_un (f_cp xp0))), .val (.int ((f_un (f_cp xp0)) + (f_un (f_cp xp1)))), .val (.int (((f_un (f_cp xp0)) + (f_un (f_cp xp1))) + (f_un (f_cp xp2)))), .val (.int (1 : Int32)), .val (.int (0 : Int32)), .val (.int (0 : Int32)), .val (.int (1 : Int32)), .val (.int (0 : Int32)), .val (.int z5), .unset] [(.int (f_un (f_cp xp0)))])
      refine o_iload X22 at_153 rfl 155 rfl ?_
      refine o_iconst (v := (0 : Int32)) X22 at_155 rfl 156 rfl ?_
      refine o_iload X22 at_156 rfl 158 rfl ?_
      refine o_iload X22 at_158 rfl 160 rfl ?_
      refine o_iload X22 at_160 rfl 162 rfl ?_
      refine o_callS X22 at_162 (rest := [(.int (f_un (f_cp xp0)))]) (c_pick l Z a0 hw [] n0 _ X22.size (0 : Int32) (0 : Int32) (f_un (f_cp xp0)) ((f_un (f_cp xp0)) + (f_un (f_cp xp1))) (((f_un (f_cp xp0)) + (f_un (f_cp xp1))) + (f_un (f_cp xp2))) ) (hw _ (List.mem_of_getElem? (i := 22) rfl)) (hw _ (List.mem_of_getElem? (i := 23) rfl)) (hw _ (List.mem_of_getElem? (i := 2) rfl)) (hw _ (List.mem_of_getElem? (i := 24) rfl)) (by decide) 1 (by decide) (by decide) rfl [(.int (0 : Int32)), (.int (0 : Int32)), (.int (f_un (f_cp xp0))), (.int ((f_un (f_cp xp0)) + (f_un (f_cp xp1)))), (.int (((f_un (f_cp xp0)) + (f_un (f_cp xp1))) + (f_un (f_cp xp2))))] rfl pd_6 rfl rfl (Nat.le_of_eq rfl) 1 12 rfl rfl (by decide) (by decide) 165 rfl ?_
      rintro _ T23 _ X23 ⟨rfl, rfl⟩
      rw [show (f_pick (0 : Int32) (0 : Int32) (f_un (f_cp xp0)) ((f_un (f_cp xp0)) + (f_un (f_cp xp1))) (((f_un (f_cp xp0)) + (f_un (f_cp xp1))) + (f_un (f_cp xp2)))) = (0 : Int32) from rfl]
      show OE p e room_1 below s n0 Q' T23 (mkF m 165 #[.val (.int xp0), .val (.int xp1), .val (.int xp2), .val (.int xs), .val (.int (f_cp xp0)), .val (.int (f_cp xp1)), .val (.int (f_cp xp2)), .val (.ref b4), .val (.int z5), .val (.int z6), .val (.int z7), .val (.int (f_un (f_cp xp0))), .val (.int ((f_un (f_cp xp0)) + (f_un (f_cp xp1)))), .val (.int (((f_un (f_cp xp0)) + (f_un (f_cp xp1))) + (f_un (f_cp xp2)))), .val (.int (1 : Int32)), .val (.int (0 : Int32)), .val (.int (0 : Int32)), .val (.int (1 : Int32)), .val (.int (0 : Int32)), .val (.int z5), .unset] [(.int (0 : Int32)), (.int (f_un (f_cp xp0)))])
      refine o_isub X23 at_165 166 rfl ?_
      refine o_istore X23 at_166 #[.val (.int xp0), .val (.int xp1), .val (.int xp2), .val (.int xs), .val (.int (f_cp xp0)), .val (.int (f_cp xp1)), .val (.int (f_cp xp2)), .val (.ref b4), .val (.int z5), .val (.int z6), .val (.int z7), .val (.int (f_un (f_cp xp0))), .val (.int ((f_un (f_cp xp0)) + (f_un (f_cp xp1)))), .val (.int (((f_un (f_cp xp0)) + (f_un (f_cp xp1))) + (f_un (f_cp xp2)))), .val (.int (1 : Int32)), .val (.int (0 : Int32)), .val (.int (0 : Int32)), .val (.int (1 : Int32)), .val (.int (0 : Int32)), .val (.int z5), .val (.int ((f_un (f_cp xp0)) - (0 : Int32)))] rfl 168 rfl ?_
      refine o_aload X23 at_168 rfl rfl 170 rfl ?_
      refine o_iload X23 at_170 rfl 172 rfl ?_
      refine o_iload X23 at_172 rfl 174 rfl ?_
      refine o_callS X23 at_174 (rest := []) (c_cc l Z a0 hw [] n0 _ X23.size b4 (0 : Int32) z5 vs7 [] H7 0 (ln5) rfl (by have := hz5; omega) (by omega) (by omega)) (hw _ (List.mem_of_getElem? (i := 25) rfl)) (hw _ (List.mem_of_getElem? (i := 26) rfl)) (hw _ (List.mem_of_getElem? (i := 27) rfl)) (hw _ (List.mem_of_getElem? (i := 28) rfl)) (by decide) 0 (by decide) (by decide) rfl [(.ref b4), (.int (0 : Int32)), (.int z5)] rfl pd_7 rfl rfl (Nat.le_of_eq rfl) 1 12 rfl rfl (by decide) (by decide) 177 rfl ?_
      rintro _ T24 _ X24 ⟨rfl, rfl⟩
      show OE p e room_1 below s n0 Q' T24 (mkF m 177 #[.val (.int xp0), .val (.int xp1), .val (.int xp2), .val (.int xs), .val (.int (f_cp xp0)), .val (.int (f_cp xp1)), .val (.int (f_cp xp2)), .val (.ref b4), .val (.int z5), .val (.int z6), .val (.int z7), .val (.int (f_un (f_cp xp0))), .val (.int ((f_un (f_cp xp0)) + (f_un (f_cp xp1)))), .val (.int (((f_un (f_cp xp0)) + (f_un (f_cp xp1))) + (f_un (f_cp xp2)))), .val (.int (1 : Int32)), .val (.int (0 : Int32)), .val (.int (0 : Int32)), .val (.int (1 : Int32)), .val (.int (0 : Int32)), .val (.int z5), .val (.int ((f_un (f_cp xp0)) - (0 : Int32)))] [(.int (f_cnt vs7 0 (ln5)))])
      refine o_iload X24 at_177 rfl 179 rfl ?_
      refine o_icmpNe X24 at_179 186 182 (by decide) (by decide) rfl (fun q => by exfalso; apply q; rw [B1 _ (by omega)]; grind) ?_
      intro hc179
      refine o_iconst (v := (1 : Int32)) X24 at_182 rfl 183 rfl ?_
      refine o_goto X24 at_183 187 (by decide) (by decide) ?_
      exact o_retZ X24 at_187 (by decide) (by decide) (hQ _ _ rfl)
    · rw [hv]
      refine o_iload X10 at_95 rfl 97 rfl ?_
      refine o_iload X10 at_97 rfl 99 rfl ?_
      refine o_callS X10 at_99 (rest := []) (c_min l Z a0 hw [] n0 _ X10.size (2 : Int32) (0 : Int32) ) (hw _ (List.mem_of_getElem? (i := 15) rfl)) (hw _ (List.mem_of_getElem? (i := 16) rfl)) (hw _ (List.mem_of_getElem? (i := 17) rfl)) (hw _ (List.mem_of_getElem? (i := 18) rfl)) (by decide) 0 (by decide) (by decide) rfl [(.int (2 : Int32)), (.int (0 : Int32))] rfl pd_4 rfl rfl (Nat.le_of_eq rfl) 1 12 rfl rfl (by decide) (by decide) 102 rfl ?_
      rintro _ T25 _ X25 ⟨rfl, rfl⟩
      rw [show (f_min (2 : Int32) (0 : Int32)) = (0 : Int32) from rfl]
      show OE p e room_1 below s n0 Q' T25 (mkF m 102 #[.val (.int xp0), .val (.int xp1), .val (.int xp2), .val (.int xs), .val (.int (f_cp xp0)), .val (.int (f_cp xp1)), .val (.int (f_cp xp2)), .val (.ref b4), .val (.int z5), .val (.int z6), .val (.int z7), .val (.int (f_un (f_cp xp0))), .val (.int ((f_un (f_cp xp0)) + (f_un (f_cp xp1)))), .val (.int (((f_un (f_cp xp0)) + (f_un (f_cp xp1))) + (f_un (f_cp xp2)))), .val (.int (2 : Int32)), .val (.int (0 : Int32)), .unset, .unset, .unset, .unset, .unset] [(.int (0 : Int32))])
      refine o_istore X25 at_102 #[.val (.int xp0), .val (.int xp1), .val (.int xp2), .val (.int xs), .val (.int (f_cp xp0)), .val (.int (f_cp xp1)), .val (.int (f_cp xp2)), .val (.ref b4), .val (.int z5), .val (.int z6), .val (.int z7), .val (.int (f_un (f_cp xp0))), .val (.int ((f_un (f_cp xp0)) + (f_un (f_cp xp1)))), .val (.int (((f_un (f_cp xp0)) + (f_un (f_cp xp1))) + (f_un (f_cp xp2)))), .val (.int (2 : Int32)), .val (.int (0 : Int32)), .val (.int (0 : Int32)), .unset, .unset, .unset, .unset] rfl 104 rfl ?_
      refine o_iload X25 at_104 rfl 106 rfl ?_
      refine o_iload X25 at_106 rfl 108 rfl ?_
      refine o_callS X25 at_108 (rest := []) (c_max l Z a0 hw [] n0 _ X25.size (2 : Int32) (0 : Int32) ) (hw _ (List.mem_of_getElem? (i := 19) rfl)) (hw _ (List.mem_of_getElem? (i := 20) rfl)) (hw _ (List.mem_of_getElem? (i := 17) rfl)) (hw _ (List.mem_of_getElem? (i := 21) rfl)) (by decide) 0 (by decide) (by decide) rfl [(.int (2 : Int32)), (.int (0 : Int32))] rfl pd_5 rfl rfl (Nat.le_of_eq rfl) 1 12 rfl rfl (by decide) (by decide) 111 rfl ?_
      rintro _ T26 _ X26 ⟨rfl, rfl⟩
      rw [show (f_max (2 : Int32) (0 : Int32)) = (2 : Int32) from rfl]
      show OE p e room_1 below s n0 Q' T26 (mkF m 111 #[.val (.int xp0), .val (.int xp1), .val (.int xp2), .val (.int xs), .val (.int (f_cp xp0)), .val (.int (f_cp xp1)), .val (.int (f_cp xp2)), .val (.ref b4), .val (.int z5), .val (.int z6), .val (.int z7), .val (.int (f_un (f_cp xp0))), .val (.int ((f_un (f_cp xp0)) + (f_un (f_cp xp1)))), .val (.int (((f_un (f_cp xp0)) + (f_un (f_cp xp1))) + (f_un (f_cp xp2)))), .val (.int (2 : Int32)), .val (.int (0 : Int32)), .val (.int (0 : Int32)), .unset, .unset, .unset, .unset] [(.int (2 : Int32))])
      refine o_istore X26 at_111 #[.val (.int xp0), .val (.int xp1), .val (.int xp2), .val (.int xs), .val (.int (f_cp xp0)), .val (.int (f_cp xp1)), .val (.int (f_cp xp2)), .val (.ref b4), .val (.int z5), .val (.int z6), .val (.int z7), .val (.int (f_un (f_cp xp0))), .val (.int ((f_un (f_cp xp0)) + (f_un (f_cp xp1)))), .val (.int (((f_un (f_cp xp0)) + (f_un (f_cp xp1))) + (f_un (f_cp xp2)))), .val (.int (2 : Int32)), .val (.int (0 : Int32)), .val (.int (0 : Int32)), .val (.int (2 : Int32)), .unset, .unset, .unset] rfl 113 rfl ?_
      refine o_iload X26 at_113 rfl 115 rfl ?_
      refine o_iconst (v := (0 : Int32)) X26 at_115 rfl 116 rfl ?_
      refine o_iload X26 at_116 rfl 118 rfl ?_
      refine o_iload X26 at_118 rfl 120 rfl ?_
      refine o_iload X26 at_120 rfl 122 rfl ?_
      refine o_callS X26 at_122 (rest := []) (c_pick l Z a0 hw [] n0 _ X26.size (0 : Int32) (0 : Int32) z5 z6 z7 ) (hw _ (List.mem_of_getElem? (i := 22) rfl)) (hw _ (List.mem_of_getElem? (i := 23) rfl)) (hw _ (List.mem_of_getElem? (i := 2) rfl)) (hw _ (List.mem_of_getElem? (i := 24) rfl)) (by decide) 0 (by decide) (by decide) rfl [(.int (0 : Int32)), (.int (0 : Int32)), (.int z5), (.int z6), (.int z7)] rfl pd_6 rfl rfl (Nat.le_of_eq rfl) 1 12 rfl rfl (by decide) (by decide) 125 rfl ?_
      rintro _ T27 _ X27 ⟨rfl, rfl⟩
      rw [show (f_pick (0 : Int32) (0 : Int32) z5 z6 z7) = (0 : Int32) from rfl]
      show OE p e room_1 below s n0 Q' T27 (mkF m 125 #[.val (.int xp0), .val (.int xp1), .val (.int xp2), .val (.int xs), .val (.int (f_cp xp0)), .val (.int (f_cp xp1)), .val (.int (f_cp xp2)), .val (.ref b4), .val (.int z5), .val (.int z6), .val (.int z7), .val (.int (f_un (f_cp xp0))), .val (.int ((f_un (f_cp xp0)) + (f_un (f_cp xp1)))), .val (.int (((f_un (f_cp xp0)) + (f_un (f_cp xp1))) + (f_un (f_cp xp2)))), .val (.int (2 : Int32)), .val (.int (0 : Int32)), .val (.int (0 : Int32)), .val (.int (2 : Int32)), .unset, .unset, .unset] [(.int (0 : Int32))])
      refine o_istore X27 at_125 #[.val (.int xp0), .val (.int xp1), .val (.int xp2), .val (.int xs), .val (.int (f_cp xp0)), .val (.int (f_cp xp1)), .val (.int (f_cp xp2)), .val (.ref b4), .val (.int z5), .val (.int z6), .val (.int z7), .val (.int (f_un (f_cp xp0))), .val (.int ((f_un (f_cp xp0)) + (f_un (f_cp xp1)))), .val (.int (((f_un (f_cp xp0)) + (f_un (f_cp xp1))) + (f_un (f_cp xp2)))), .val (.int (2 : Int32)), .val (.int (0 : Int32)), .val (.int (0 : Int32)), .val (.int (2 : Int32)), .val (.int (0 : Int32)), .unset, .unset] rfl 127 rfl ?_
      refine o_iload X27 at_127 rfl 129 rfl ?_
      refine o_iconst (v := (0 : Int32)) X27 at_129 rfl 130 rfl ?_
      refine o_iload X27 at_130 rfl 132 rfl ?_
      refine o_iload X27 at_132 rfl 134 rfl ?_
      refine o_iload X27 at_134 rfl 136 rfl ?_
      refine o_callS X27 at_136 (rest := []) (c_pick l Z a0 hw [] n0 _ X27.size (2 : Int32) (0 : Int32) z5 z6 z7 ) (hw _ (List.mem_of_getElem? (i := 22) rfl)) (hw _ (List.mem_of_getElem? (i := 23) rfl)) (hw _ (List.mem_of_getElem? (i := 2) rfl)) (hw _ (List.mem_of_getElem? (i := 24) rfl)) (by decide) 0 (by decide) (by decide) rfl [(.int (2 : Int32)), (.int (0 : Int32)), (.int z5), (.int z6), (.int z7)] rfl pd_6 rfl rfl (Nat.le_of_eq rfl) 1 12 rfl rfl (by decide) (by decide) 139 rfl ?_
      rintro _ T28 _ X28 ⟨rfl, rfl⟩
      rw [show (f_pick (2 : Int32) (0 : Int32) z5 z6 z7) = z6 from rfl]
      show OE p e room_1 below s n0 Q' T28 (mkF m 139 #[.val (.int xp0), .val (.int xp1), .val (.int xp2), .val (.int xs), .val (.int (f_cp xp0)), .val (.int (f_cp xp1)), .val (.int (f_cp xp2)), .val (.ref b4), .val (.int z5), .val (.int z6), .val (.int z7), .val (.int (f_un (f_cp xp0))), .val (.int ((f_un (f_cp xp0)) + (f_un (f_cp xp1)))), .val (.int (((f_un (f_cp xp0)) + (f_un (f_cp xp1))) + (f_un (f_cp xp2)))), .val (.int (2 : Int32)), .val (.int (0 : Int32)), .val (.int (0 : Int32)), .val (.int (2 : Int32)), .val (.int (0 : Int32)), .unset, .unset] [(.int z6)])
      refine o_istore X28 at_139 #[.val (.int xp0), .val (.int xp1), .val (.int xp2), .val (.int xs), .val (.int (f_cp xp0)), .val (.int (f_cp xp1)), .val (.int (f_cp xp2)), .val (.ref b4), .val (.int z5), .val (.int z6), .val (.int z7), .val (.int (f_un (f_cp xp0))), .val (.int ((f_un (f_cp xp0)) + (f_un (f_cp xp1)))), .val (.int (((f_un (f_cp xp0)) + (f_un (f_cp xp1))) + (f_un (f_cp xp2)))), .val (.int (2 : Int32)), .val (.int (0 : Int32)), .val (.int (0 : Int32)), .val (.int (2 : Int32)), .val (.int (0 : Int32)), .val (.int z6), .unset] rfl 141 rfl ?_
      refine o_iload X28 at_141 rfl 143 rfl ?_
      refine o_iconst (v := (0 : Int32)) X28 at_143 rfl 144 rfl ?_
      refine o_iload X28 at_144 rfl 146 rfl ?_
      refine o_iload X28 at_146 rfl 148 rfl ?_
      refine o_iload X28 at_148 rfl 150 rfl ?_
      refine o_callS X28 at_150 (rest := []) (c_pick l Z a0 hw [] n0 _ X28.size (2 : Int32) (0 : Int32) (f_un (f_cp xp0)) ((f_un (f_cp xp0)) + (f_un (f_cp xp1))) (((f_un (f_cp xp0)) + (f_un (f_cp xp1))) + (f_un (f_cp xp2))) ) (hw _ (List.mem_of_getElem? (i := 22) rfl)) (hw _ (List.mem_of_getElem? (i := 23) rfl)) (hw _ (List.mem_of_getElem? (i := 2) rfl)) (hw _ (List.mem_of_getElem? (i := 24) rfl)) (by decide) 0 (by decide) (by decide) rfl [(.int (2 : Int32)), (.int (0 : Int32)), (.int (f_un (f_cp xp0))), (.int ((f_un (f_cp xp0)) + (f_un (f_cp xp1)))), (.int (((f_un (f_cp xp0)) + (f_un (f_cp xp1))) + (f_un (f_cp xp2))))] rfl pd_6 rfl rfl (Nat.le_of_eq rfl) 1 12 rfl rfl (by decide) (by decide) 153 rfl ?_
      rintro _ T29 _ X29 ⟨rfl, rfl⟩
      rw [show (f_pick (2 : Int32) (0 : Int32) (f_un (f_cp xp0)) ((f_un (f_cp xp0)) + (f_un (f_cp xp1))) (((f_un (f_cp xp0)) + (f_un (f_cp xp1))) + (f_un (f_cp xp2)))) = ((f_un (f_cp xp0)) + (f_un (f_cp xp1))) from rfl]
      show OE p e room_1 below s n0 Q' T29 (mkF m 153 #[.val (.int xp0), .val (.int xp1), .val (.int xp2), .val (.int xs), .val (.int (f_cp xp0)), .val (.int (f_cp xp1)), .val (.int (f_cp xp2)), .val (.ref b4), .val (.int z5), .val (.int z6), .val (.int z7), .val (.int (f_un (f_cp xp0))), .val (.int ((f_un (f_cp xp0)) + (f_un (f_cp xp1)))), .val (.int (((f_un (f_cp xp0)) + (f_un (f_cp xp1))) + (f_un (f_cp xp2)))), .val (.int (2 : Int32)), .val (.int (0 : Int32)), .val (.int (0 : Int32)), .val (.int (2 : Int32)), .val (.int (0 : Int32)), .val (.int z6), .unset] [(.int ((f_un (f_cp xp0)) + (f_un (f_cp xp1))))])
      refine o_iload X29 at_153 rfl 155 rfl ?_
      refine o_iconst (v := (0 : Int32)) X29 at_155 rfl 156 rfl ?_
      refine o_iload X29 at_156 rfl 158 rfl ?_
      refine o_iload X29 at_158 rfl 160 rfl ?_
      refine o_iload X29 at_160 rfl 162 rfl ?_
      refine o_callS X29 at_162 (rest := [(.int ((f_un (f_cp xp0)) + (f_un (f_cp xp1))))]) (c_pick l Z a0 hw [] n0 _ X29.size (0 : Int32) (0 : Int32) (f_un (f_cp xp0)) ((f_un (f_cp xp0)) + (f_un (f_cp xp1))) (((f_un (f_cp xp0)) + (f_un (f_cp xp1))) + (f_un (f_cp xp2))) ) (hw _ (List.mem_of_getElem? (i := 22) rfl)) (hw _ (List.mem_of_getElem? (i := 23) rfl)) (hw _ (List.mem_of_getElem? (i := 2) rfl)) (hw _ (List.mem_of_getElem? (i := 24) rfl)) (by decide) 1 (by decide) (by decide) rfl [(.int (0 : Int32)), (.int (0 : Int32)), (.int (f_un (f_cp xp0))), (.int ((f_un (f_cp xp0)) + (f_un (f_cp xp1)))), (.int (((f_un (f_cp xp0)) + (f_un (f_cp xp1))) + (f_un (f_cp xp2))))] rfl pd_6 rfl rfl (Nat.le_of_eq rfl) 1 12 rfl rfl (by decide) (by decide) 165 rfl ?_
      rintro _ T30 _ X30 ⟨rfl, rfl⟩
      rw [show (f_pick (0 : Int32) (0 : Int32) (f_un (f_cp xp0)) ((f_un (f_cp xp0)) + (f_un (f_cp xp1))) (((f_un (f_cp xp0)) + (f_un (f_cp xp1))) + (f_un (f_cp xp2)))) = (0 : Int32) from rfl]
      show OE p e room_1 below s n0 Q' T30 (mkF m 165 #[.val (.int xp0), .val (.int xp1), .val (.int xp2), .val (.int xs), .val (.int (f_cp xp0)), .val (.int (f_cp xp1)), .val (.int (f_cp xp2)), .val (.ref b4), .val (.int z5), .val (.int z6), .val (.int z7), .val (.int (f_un (f_cp xp0))), .val (.int ((f_un (f_cp xp0)) + (f_un (f_cp xp1)))), .val (.int (((f_un (f_cp xp0)) + (f_un (f_cp xp1))) + (f_un (f_cp xp2)))), .val (.int (2 : Int32)), .val (.int (0 : Int32)), .val (.int (0 : Int32)), .val (.int (2 : Int32)), .val (.int (0 : Int32)), .val (.int z6), .unset] [(.int (0 : Int32)), (.int ((f_un (f_cp xp0)) + (f_un (f_cp xp1))))])
      refine o_isub X30 at_165 166 rfl ?_
      refine o_istore X30 at_166 #[.val (.int xp0), .val (.int xp1), .val (.int xp2), .val (.int xs), .val (.int (f_cp xp0)), .val (.int (f_cp xp1)), .val (.int (f_cp xp2)), .val (.ref b4), .val (.int z5), .val (.int z6), .val (.int z7), .val (.int (f_un (f_cp xp0))), .val (.int ((f_un (f_cp xp0)) + (f_un (f_cp xp1)))), .val (.int (((f_un (f_cp xp0)) + (f_un (f_cp xp1))) + (f_un (f_cp xp2)))), .val (.int (2 : Int32)), .val (.int (0 : Int32)), .val (.int (0 : Int32)), .val (.int (2 : Int32)), .val (.int (0 : Int32)), .val (.int z6), .val (.int (((f_un (f_cp xp0)) + (f_un (f_cp xp1))) - (0 : Int32)))] rfl 168 rfl ?_
      refine o_aload X30 at_168 rfl rfl 170 rfl ?_
      refine o_iload X30 at_170 rfl 172 rfl ?_
      refine o_iload X30 at_172 rfl 174 rfl ?_
      refine o_callS X30 at_174 (rest := []) (c_cc l Z a0 hw [] n0 _ X30.size b4 (0 : Int32) z6 vs7 [] H7 0 (ln5 + ln6) rfl (by have := hz6; omega) (by omega) (by omega)) (hw _ (List.mem_of_getElem? (i := 25) rfl)) (hw _ (List.mem_of_getElem? (i := 26) rfl)) (hw _ (List.mem_of_getElem? (i := 27) rfl)) (hw _ (List.mem_of_getElem? (i := 28) rfl)) (by decide) 0 (by decide) (by decide) rfl [(.ref b4), (.int (0 : Int32)), (.int z6)] rfl pd_7 rfl rfl (Nat.le_of_eq rfl) 1 12 rfl rfl (by decide) (by decide) 177 rfl ?_
      rintro _ T31 _ X31 ⟨rfl, rfl⟩
      show OE p e room_1 below s n0 Q' T31 (mkF m 177 #[.val (.int xp0), .val (.int xp1), .val (.int xp2), .val (.int xs), .val (.int (f_cp xp0)), .val (.int (f_cp xp1)), .val (.int (f_cp xp2)), .val (.ref b4), .val (.int z5), .val (.int z6), .val (.int z7), .val (.int (f_un (f_cp xp0))), .val (.int ((f_un (f_cp xp0)) + (f_un (f_cp xp1)))), .val (.int (((f_un (f_cp xp0)) + (f_un (f_cp xp1))) + (f_un (f_cp xp2)))), .val (.int (2 : Int32)), .val (.int (0 : Int32)), .val (.int (0 : Int32)), .val (.int (2 : Int32)), .val (.int (0 : Int32)), .val (.int z6), .val (.int (((f_un (f_cp xp0)) + (f_un (f_cp xp1))) - (0 : Int32)))] [(.int (f_cnt vs7 0 (ln5 + ln6)))])
      refine o_iload X31 at_177 rfl 179 rfl ?_
      refine o_icmpNe X31 at_179 186 182 (by decide) (by decide) rfl (fun q => by exfalso; apply q; rw [v_cnt_add, B1 _ (by omega), B2 _ (by omega)]; grind) ?_
      intro hc179
      refine o_iconst (v := (1 : Int32)) X31 at_182 rfl 183 rfl ?_
      refine o_goto X31 at_183 187 (by decide) (by decide) ?_
      exact o_retZ X31 at_187 (by decide) (by decide) (hQ _ _ rfl)
    · rw [hv]
      refine o_iload X10 at_95 rfl 97 rfl ?_
      refine o_iload X10 at_97 rfl 99 rfl ?_
      refine o_callS X10 at_99 (rest := []) (c_min l Z a0 hw [] n0 _ X10.size (3 : Int32) (0 : Int32) ) (hw _ (List.mem_of_getElem? (i := 15) rfl)) (hw _ (List.mem_of_getElem? (i := 16) rfl)) (hw _ (List.mem_of_getElem? (i := 17) rfl)) (hw _ (List.mem_of_getElem? (i := 18) rfl)) (by decide) 0 (by decide) (by decide) rfl [(.int (3 : Int32)), (.int (0 : Int32))] rfl pd_4 rfl rfl (Nat.le_of_eq rfl) 1 12 rfl rfl (by decide) (by decide) 102 rfl ?_
      rintro _ T32 _ X32 ⟨rfl, rfl⟩
      rw [show (f_min (3 : Int32) (0 : Int32)) = (0 : Int32) from rfl]
      show OE p e room_1 below s n0 Q' T32 (mkF m 102 #[.val (.int xp0), .val (.int xp1), .val (.int xp2), .val (.int xs), .val (.int (f_cp xp0)), .val (.int (f_cp xp1)), .val (.int (f_cp xp2)), .val (.ref b4), .val (.int z5), .val (.int z6), .val (.int z7), .val (.int (f_un (f_cp xp0))), .val (.int ((f_un (f_cp xp0)) + (f_un (f_cp xp1)))), .val (.int (((f_un (f_cp xp0)) + (f_un (f_cp xp1))) + (f_un (f_cp xp2)))), .val (.int (3 : Int32)), .val (.int (0 : Int32)), .unset, .unset, .unset, .unset, .unset] [(.int (0 : Int32))])
      refine o_istore X32 at_102 #[.val (.int xp0), .val (.int xp1), .val (.int xp2), .val (.int xs), .val (.int (f_cp xp0)), .val (.int (f_cp xp1)), .val (.int (f_cp xp2)), .val (.ref b4), .val (.int z5), .val (.int z6), .val (.int z7), .val (.int (f_un (f_cp xp0))), .val (.int ((f_un (f_cp xp0)) + (f_un (f_cp xp1)))), .val (.int (((f_un (f_cp xp0)) + (f_un (f_cp xp1))) + (f_un (f_cp xp2)))), .val (.int (3 : Int32)), .val (.int (0 : Int32)), .val (.int (0 : Int32)), .unset, .unset, .unset, .unset] rfl 104 rfl ?_
      refine o_iload X32 at_104 rfl 106 rfl ?_
      refine o_iload X32 at_106 rfl 108 rfl ?_
      refine o_callS X32 at_108 (rest := []) (c_max l Z a0 hw [] n0 _ X32.size (3 : Int32) (0 : Int32) ) (hw _ (List.mem_of_getElem? (i := 19) rfl)) (hw _ (List.mem_of_getElem? (i := 20) rfl)) (hw _ (List.mem_of_getElem? (i := 17) rfl)) (hw _ (List.mem_of_getElem? (i := 21) rfl)) (by decide) 0 (by decide) (by decide) rfl [(.int (3 : Int32)), (.int (0 : Int32))] rfl pd_5 rfl rfl (Nat.le_of_eq rfl) 1 12 rfl rfl (by decide) (by decide) 111 rfl ?_
      rintro _ T33 _ X33 ⟨rfl, rfl⟩
      rw [show (f_max (3 : Int32) (0 : Int32)) = (3 : Int32) from rfl]
      show OE p e room_1 below s n0 Q' T33 (mkF m 111 #[.val (.int xp0), .val (.int xp1), .val (.int xp2), .val (.int xs), .val (.int (f_cp xp0)), .val (.int (f_cp xp1)), .val (.int (f_cp xp2)), .val (.ref b4), .val (.int z5), .val (.int z6), .val (.int z7), .val (.int (f_un (f_cp xp0))), .val (.int ((f_un (f_cp xp0)) + (f_un (f_cp xp1)))), .val (.int (((f_un (f_cp xp0)) + (f_un (f_cp xp1))) + (f_un (f_cp xp2)))), .val (.int (3 : Int32)), .val (.int (0 : Int32)), .val (.int (0 : Int32)), .unset, .unset, .unset, .unset] [(.int (3 : Int32))])
      refine o_istore X33 at_111 #[.val (.int xp0), .val (.int xp1), .val (.int xp2), .val (.int xs), .val (.int (f_cp xp0)), .val (.int (f_cp xp1)), .val (.int (f_cp xp2)), .val (.ref b4), .val (.int z5), .val (.int z6), .val (.int z7), .val (.int (f_un (f_cp xp0))), .val (.int ((f_un (f_cp xp0)) + (f_un (f_cp xp1)))), .val (.int (((f_un (f_cp xp0)) + (f_un (f_cp xp1))) + (f_un (f_cp xp2)))), .val (.int (3 : Int32)), .val (.int (0 : Int32)), .val (.int (0 : Int32)), .val (.int (3 : Int32)), .unset, .unset, .unset] rfl 113 rfl ?_
      refine o_iload X33 at_113 rfl 115 rfl ?_
      refine o_iconst (v := (0 : Int32)) X33 at_115 rfl 116 rfl ?_
      refine o_iload X33 at_116 rfl 118 rfl ?_
      refine o_iload X33 at_118 rfl 120 rfl ?_
      refine o_iload X33 at_120 rfl 122 rfl ?_
      refine o_callS X33 at_122 (rest := []) (c_pick l Z a0 hw [] n0 _ X33.size (0 : Int32) (0 : Int32) z5 z6 z7 ) (hw _ (List.mem_of_getElem? (i := 22) rfl)) (hw _ (List.mem_of_getElem? (i := 23) rfl)) (hw _ (List.mem_of_getElem? (i := 2) rfl)) (hw _ (List.mem_of_getElem? (i := 24) rfl)) (by decide) 0 (by decide) (by decide) rfl [(.int (0 : Int32)), (.int (0 : Int32)), (.int z5), (.int z6), (.int z7)] rfl pd_6 rfl rfl (Nat.le_of_eq rfl) 1 12 rfl rfl (by decide) (by decide) 125 rfl ?_
      rintro _ T34 _ X34 ⟨rfl, rfl⟩
      rw [show (f_pick (0 : Int32) (0 : Int32) z5 z6 z7) = (0 : Int32) from rfl]
      show OE p e room_1 below s n0 Q' T34 (mkF m 125 #[.val (.int xp0), .val (.int xp1), .val (.int xp2), .val (.int xs), .val (.int (f_cp xp0)), .val (.int (f_cp xp1)), .val (.int (f_cp xp2)), .val (.ref b4), .val (.int z5), .val (.int z6), .val (.int z7), .val (.int (f_un (f_cp xp0))), .val (.int ((f_un (f_cp xp0)) + (f_un (f_cp xp1)))), .val (.int (((f_un (f_cp xp0)) + (f_un (f_cp xp1))) + (f_un (f_cp xp2)))), .val (.int (3 : Int32)), .val (.int (0 : Int32)), .val (.int (0 : Int32)), .val (.int (3 : Int32)), .unset, .unset, .unset] [(.int (0 : Int32))])
      refine o_istore X34 at_125 #[.val (.int xp0), .val (.int xp1), .val (.int xp2), .val (.int xs), .val (.int (f_cp xp0)), .val (.int (f_cp xp1)), .val (.int (f_cp xp2)), .val (.ref b4), .val (.int z5), .val (.int z6), .val (.int z7), .val (.int (f_un (f_cp xp0))), .val (.int ((f_un (f_cp xp0)) + (f_un (f_cp xp1)))), .val (.int (((f_un (f_cp xp0)) + (f_un (f_cp xp1))) + (f_un (f_cp xp2)))), .val (.int (3 : Int32)), .val (.int (0 : Int32)), .val (.int (0 : Int32)), .val (.int (3 : Int32)), .val (.int (0 : Int32)), .unset, .unset] rfl 127 rfl ?_
      refine o_iload X34 at_127 rfl 129 rfl ?_
      refine o_iconst (v := (0 : Int32)) X34 at_129 rfl 130 rfl ?_
      refine o_iload X34 at_130 rfl 132 rfl ?_
      refine o_iload X34 at_132 rfl 134 rfl ?_
      refine o_iload X34 at_134 rfl 136 rfl ?_
      refine o_callS X34 at_136 (rest := []) (c_pick l Z a0 hw [] n0 _ X34.size (3 : Int32) (0 : Int32) z5 z6 z7 ) (hw _ (List.mem_of_getElem? (i := 22) rfl)) (hw _ (List.mem_of_getElem? (i := 23) rfl)) (hw _ (List.mem_of_getElem? (i := 2) rfl)) (hw _ (List.mem_of_getElem? (i := 24) rfl)) (by decide) 0 (by decide) (by decide) rfl [(.int (3 : Int32)), (.int (0 : Int32)), (.int z5), (.int z6), (.int z7)] rfl pd_6 rfl rfl (Nat.le_of_eq rfl) 1 12 rfl rfl (by decide) (by decide) 139 rfl ?_
      rintro _ T35 _ X35 ⟨rfl, rfl⟩
      rw [show (f_pick (3 : Int32) (0 : Int32) z5 z6 z7) = z7 from rfl]
      show OE p e room_1 below s n0 Q' T35 (mkF m 139 #[.val (.int xp0), .val (.int xp1), .val (.int xp2), .val (.int xs), .val (.int (f_cp xp0)), .val (.int (f_cp xp1)), .val (.int (f_cp xp2)), .val (.ref b4), .val (.int z5), .val (.int z6), .val (.int z7), .val (.int (f_un (f_cp xp0))), .val (.int ((f_un (f_cp xp0)) + (f_un (f_cp xp1)))), .val (.int (((f_un (f_cp xp0)) + (f_un (f_cp xp1))) + (f_un (f_cp xp2)))), .val (.int (3 : Int32)), .val (.int (0 : Int32)), .val (.int (0 : Int32)), .val (.int (3 : Int32)), .val (.int (0 : Int32)), .unset, .unset] [(.int z7)])
      refine o_istore X35 at_139 #[.val (.int xp0), .val (.int xp1), .val (.int xp2), .val (.int xs), .val (.int (f_cp xp0)), .val (.int (f_cp xp1)), .val (.int (f_cp xp2)), .val (.ref b4), .val (.int z5), .val (.int z6), .val (.int z7), .val (.int (f_un (f_cp xp0))), .val (.int ((f_un (f_cp xp0)) + (f_un (f_cp xp1)))), .val (.int (((f_un (f_cp xp0)) + (f_un (f_cp xp1))) + (f_un (f_cp xp2)))), .val (.int (3 : Int32)), .val (.int (0 : Int32)), .val (.int (0 : Int32)), .val (.int (3 : Int32)), .val (.int (0 : Int32)), .val (.int z7), .unset] rfl 141 rfl ?_
      refine o_iload X35 at_141 rfl 143 rfl ?_
      refine o_iconst (v := (0 : Int32)) X35 at_143 rfl 144 rfl ?_
      refine o_iload X35 at_144 rfl 146 rfl ?_
      refine o_iload X35 at_146 rfl 148 rfl ?_
      refine o_iload X35 at_148 rfl 150 rfl ?_
      refine o_callS X35 at_150 (rest := []) (c_pick l Z a0 hw [] n0 _ X35.size (3 : Int32) (0 : Int32) (f_un (f_cp xp0)) ((f_un (f_cp xp0)) + (f_un (f_cp xp1))) (((f_un (f_cp xp0)) + (f_un (f_cp xp1))) + (f_un (f_cp xp2))) ) (hw _ (List.mem_of_getElem? (i := 22) rfl)) (hw _ (List.mem_of_getElem? (i := 23) rfl)) (hw _ (List.mem_of_getElem? (i := 2) rfl)) (hw _ (List.mem_of_getElem? (i := 24) rfl)) (by decide) 0 (by decide) (by decide) rfl [(.int (3 : Int32)), (.int (0 : Int32)), (.int (f_un (f_cp xp0))), (.int ((f_un (f_cp xp0)) + (f_un (f_cp xp1)))), (.int (((f_un (f_cp xp0)) + (f_un (f_cp xp1))) + (f_un (f_cp xp2))))] rfl pd_6 rfl rfl (Nat.le_of_eq rfl) 1 12 rfl rfl (by decide) (by decide) 153 rfl ?_
      rintro _ T36 _ X36 ⟨rfl, rfl⟩
      rw [show (f_pick (3 : Int32) (0 : Int32) (f_un (f_cp xp0)) ((f_un (f_cp xp0)) + (f_un (f_cp xp1))) (((f_un (f_cp xp0)) + (f_un (f_cp xp1))) + (f_un (f_cp xp2)))) = (((f_un (f_cp xp0)) + (f_un (f_cp xp1))) + (f_un (f_cp xp2))) from rfl]
      show OE p e room_1 below s n0 Q' T36 (mkF m 153 #[.val (.int xp0), .val (.int xp1), .val (.int xp2), .val (.int xs), .val (.int (f_cp xp0)), .val (.int (f_cp xp1)), .val (.int (f_cp xp2)), .val (.ref b4), .val (.int z5), .val (.int z6), .val (.int z7), .val (.int (f_un (f_cp xp0))), .val (.int ((f_un (f_cp xp0)) + (f_un (f_cp xp1)))), .val (.int (((f_un (f_cp xp0)) + (f_un (f_cp xp1))) + (f_un (f_cp xp2)))), .val (.int (3 : Int32)), .val (.int (0 : Int32)), .val (.int (0 : Int32)), .val (.int (3 : Int32)), .val (.int (0 : Int32)), .val (.int z7), .unset] [(.int (((f_un (f_cp xp0)) + (f_un (f_cp xp1))) + (f_un (f_cp xp2))))])
      refine o_iload X36 at_153 rfl 155 rfl ?_
      refine o_iconst (v := (0 : Int32)) X36 at_155 rfl 156 rfl ?_
      refine o_iload X36 at_156 rfl 158 rfl ?_
      refine o_iload X36 at_158 rfl 160 rfl ?_
      refine o_iload X36 at_160 rfl 162 rfl ?_
      refine o_callS X36 at_162 (rest := [(.int (((f_un (f_cp xp0)) + (f_un (f_cp xp1))) + (f_un (f_cp xp2))))]) (c_pick l Z a0 hw [] n0 _ X36.size (0 : Int32) (0 : Int32) (f_un (f_cp xp0)) ((f_un (f_cp xp0)) + (f_un (f_cp xp1))) (((f_un (f_cp xp0)) + (f_un (f_cp xp1))) + (f_un (f_cp xp2))) ) (hw _ (List.mem_of_getElem? (i := 22) rfl)) (hw _ (List.mem_of_getElem? (i := 23) rfl)) (hw _ (List.mem_of_getElem? (i := 2) rfl)) (hw _ (List.mem_of_getElem? (i := 24) rfl)) (by decide) 1 (by decide) (by decide) rfl [(.int (0 : Int32)), (.int (0 : Int32)), (.int (f_un (f_cp xp0))), (.int ((f_un (f_cp xp0)) + (f_un (f_cp xp1)))), (.int (((f_un (f_cp xp0)) + (f_un (f_cp xp1))) + (f_un (f_cp xp2))))] rfl pd_6 rfl rfl (Nat.le_of_eq rfl) 1 12 rfl rfl (by decide) (by decide) 165 rfl ?_
      rintro _ T37 _ X37 ⟨rfl, rfl⟩
      rw [show (f_pick (0 : Int32) (0 : Int32) (f_un (f_cp xp0)) ((f_un (f_cp xp0)) + (f_un (f_cp xp1))) (((f_un (f_cp xp0)) + (f_un (f_cp xp1))) + (f_un (f_cp xp2)))) = (0 : Int32) from rfl]
      show OE p e room_1 below s n0 Q' T37 (mkF m 165 #[.val (.int xp0), .val (.int xp1), .val (.int xp2), .val (.int xs), .val (.int (f_cp xp0)), .val (.int (f_cp xp1)), .val (.int (f_cp xp2)), .val (.ref b4), .val (.int z5), .val (.int z6), .val (.int z7), .val (.int (f_un (f_cp xp0))), .val (.int ((f_un (f_cp xp0)) + (f_un (f_cp xp1)))), .val (.int (((f_un (f_cp xp0)) + (f_un (f_cp xp1))) + (f_un (f_cp xp2)))), .val (.int (3 : Int32)), .val (.int (0 : Int32)), .val (.int (0 : Int32)), .val (.int (3 : Int32)), .val (.int (0 : Int32)), .val (.int z7), .unset] [(.int (0 : Int32)), (.int (((f_un (f_cp xp0)) + (f_un (f_cp xp1))) + (f_un (f_cp xp2))))])
      refine o_isub X37 at_165 166 rfl ?_
      refine o_istore X37 at_166 #[.val (.int xp0), .val (.int xp1), .val (.int xp2), .val (.int xs), .val (.int (f_cp xp0)), .val (.int (f_cp xp1)), .val (.int (f_cp xp2)), .val (.ref b4), .val (.int z5), .val (.int z6), .val (.int z7), .val (.int (f_un (f_cp xp0))), .val (.int ((f_un (f_cp xp0)) + (f_un (f_cp xp1)))), .val (.int (((f_un (f_cp xp0)) + (f_un (f_cp xp1))) + (f_un (f_cp xp2)))), .val (.int (3 : Int32)), .val (.int (0 : Int32)), .val (.int (0 : Int32)), .val (.int (3 : Int32)), .val (.int (0 : Int32)), .val (.int z7), .val (.int ((((f_un (f_cp xp0)) + (f_un (f_cp xp1))) + (f_un (f_cp xp2))) - (0 : Int32)))] rfl 168 rfl ?_
      refine o_aload X37 at_168 rfl rfl 170 rfl ?_
      refine o_iload X37 at_170 rfl 172 rfl ?_
      refine o_iload X37 at_172 rfl 174 rfl ?_
      refine o_callS X37 at_174 (rest := []) (c_cc l Z a0 hw [] n0 _ X37.size b4 (0 : Int32) z7 vs7 [] H7 0 (ln5 + ln6 + ln7) rfl (by have := hz7; omega) (by omega) (by omega)) (hw _ (List.mem_of_getElem? (i := 25) rfl)) (hw _ (List.mem_of_getElem? (i := 26) rfl)) (hw _ (List.mem_of_getElem? (i := 27) rfl)) (hw _ (List.mem_of_getElem? (i := 28) rfl)) (by decide) 0 (by decide) (by decide) rfl [(.ref b4), (.int (0 : Int32)), (.int z7)] rfl pd_7 rfl rfl (Nat.le_of_eq rfl) 1 12 rfl rfl (by decide) (by decide) 177 rfl ?_
      rintro _ T38 _ X38 ⟨rfl, rfl⟩
      show OE p e room_1 below s n0 Q' T38 (mkF m 177 #[.val (.int xp0), .val (.int xp1), .val (.int xp2), .val (.int xs), .val (.int (f_cp xp0)), .val (.int (f_cp xp1)), .val (.int (f_cp xp2)), .val (.ref b4), .val (.int z5), .val (.int z6), .val (.int z7), .val (.int (f_un (f_cp xp0))), .val (.int ((f_un (f_cp xp0)) + (f_un (f_cp xp1)))), .val (.int (((f_un (f_cp xp0)) + (f_un (f_cp xp1))) + (f_un (f_cp xp2)))), .val (.int (3 : Int32)), .val (.int (0 : Int32)), .val (.int (0 : Int32)), .val (.int (3 : Int32)), .val (.int (0 : Int32)), .val (.int z7), .val (.int ((((f_un (f_cp xp0)) + (f_un (f_cp xp1))) + (f_un (f_cp xp2))) - (0 : Int32)))] [(.int (f_cnt vs7 0 (ln5 + ln6 + ln7)))])
      refine o_iload X38 at_177 rfl 179 rfl ?_
      refine o_icmpNe X38 at_179 186 182 (by decide) (by decide) rfl (fun q => by exfalso; apply q; rw [v_cnt_add, v_cnt_add, B1 _ (by omega), B2 _ (by omega), B3 _ (by omega)]; grind) ?_
      intro hc179
      refine o_iconst (v := (1 : Int32)) X38 at_182 rfl 183 rfl ?_
      refine o_goto X38 at_183 187 (by decide) (by decide) ?_
      exact o_retZ X38 at_187 (by decide) (by decide) (hQ _ _ rfl)
  · rw [hv]
    rcases v_k xs with hv | hv | hv | hv
    · rw [hv]
      refine o_iload X10 at_95 rfl 97 rfl ?_
      refine o_iload X10 at_97 rfl 99 rfl ?_
      refine o_callS X10 at_99 (rest := []) (c_min l Z a0 hw [] n0 _ X10.size (0 : Int32) (1 : Int32) ) (hw _ (List.mem_of_getElem? (i := 15) rfl)) (hw _ (List.mem_of_getElem? (i := 16) rfl)) (hw _ (List.mem_of_getElem? (i := 17) rfl)) (hw _ (List.mem_of_getElem? (i := 18) rfl)) (by decide) 0 (by decide) (by decide) rfl [(.int (0 : Int32)), (.int (1 : Int32))] rfl pd_4 rfl rfl (Nat.le_of_eq rfl) 1 12 rfl rfl (by decide) (by decide) 102 rfl ?_
      rintro _ T39 _ X39 ⟨rfl, rfl⟩
      rw [show (f_min (0 : Int32) (1 : Int32)) = (0 : Int32) from rfl]
      show OE p e room_1 below s n0 Q' T39 (mkF m 102 #[.val (.int xp0), .val (.int xp1), .val (.int xp2), .val (.int xs), .val (.int (f_cp xp0)), .val (.int (f_cp xp1)), .val (.int (f_cp xp2)), .val (.ref b4), .val (.int z5), .val (.int z6), .val (.int z7), .val (.int (f_un (f_cp xp0))), .val (.int ((f_un (f_cp xp0)) + (f_un (f_cp xp1)))), .val (.int (((f_un (f_cp xp0)) + (f_un (f_cp xp1))) + (f_un (f_cp xp2)))), .val (.int (0 : Int32)), .val (.int (1 : Int32)), .unset, .unset, .unset, .unset, .unset] [(.int (0 : Int32))])
      refine o_istore X39 at_102 #[.val (.int xp0), .val (.int xp1), .val (.int xp2), .val (.int xs), .val (.int (f_cp xp0)), .val (.int (f_cp xp1)), .val (.int (f_cp xp2)), .val (.ref b4), .val (.int z5), .val (.int z6), .val (.int z7), .val (.int (f_un (f_cp xp0))), .val (.int ((f_un (f_cp xp0)) + (f_un (f_cp xp1)))), .val (.int (((f_un (f_cp xp0)) + (f_un (f_cp xp1))) + (f_un (f_cp xp2)))), .val (.int (0 : Int32)), .val (.int (1 : Int32)), .val (.int (0 : Int32)), .unset, .unset, .unset, .unset] rfl 104 rfl ?_
      refine o_iload X39 at_104 rfl 106 rfl ?_
      refine o_iload X39 at_106 rfl 108 rfl ?_
      refine o_callS X39 at_108 (rest := []) (c_max l Z a0 hw [] n0 _ X39.size (0 : Int32) (1 : Int32) ) (hw _ (List.mem_of_getElem? (i := 19) rfl)) (hw _ (List.mem_of_getElem? (i := 20) rfl)) (hw _ (List.mem_of_getElem? (i := 17) rfl)) (hw _ (List.mem_of_getElem? (i := 21) rfl)) (by decide) 0 (by decide) (by decide) rfl [(.int (0 : Int32)), (.int (1 : Int32))] rfl pd_5 rfl rfl (Nat.le_of_eq rfl) 1 12 rfl rfl (by decide) (by decide) 111 rfl ?_
      rintro _ T40 _ X40 ⟨rfl, rfl⟩
      rw [show (f_max (0 : Int32) (1 : Int32)) = (1 : Int32) from rfl]
      show OE p e room_1 below s n0 Q' T40 (mkF m 111 #[.val (.int xp0), .val (.int xp1), .val (.int xp2), .val (.int xs), .val (.int (f_cp xp0)), .val (.int (f_cp xp1)), .val (.int (f_cp xp2)), .val (.ref b4), .val (.int z5), .val (.int z6), .val (.int z7), .val (.int (f_un (f_cp xp0))), .val (.int ((f_un (f_cp xp0)) + (f_un (f_cp xp1)))), .val (.int (((f_un (f_cp xp0)) + (f_un (f_cp xp1))) + (f_un (f_cp xp2)))), .val (.int (0 : Int32)), .val (.int (1 : Int32)), .val (.int (0 : Int32)), .unset, .unset, .unset, .unset] [(.int (1 : Int32))])
      refine o_istore X40 at_111 #[.val (.int xp0), .val (.int xp1), .val (.int xp2), .val (.int xs), .val (.int (f_cp xp0)), .val (.int (f_cp xp1)), .val (.int (f_cp xp2)), .val (.ref b4), .val (.int z5), .val (.int z6), .val (.int z7), .val (.int (f_un (f_cp xp0))), .val (.int ((f_un (f_cp xp0)) + (f_un (f_cp xp1)))), .val (.int (((f_un (f_cp xp0)) + (f_un (f_cp xp1))) + (f_un (f_cp xp2)))), .val (.int (0 : Int32)), .val (.int (1 : Int32)), .val (.int (0 : Int32)), .val (.int (1 : Int32)), .unset, .unset, .unset] rfl 113 rfl ?_
      refine o_iload X40 at_113 rfl 115 rfl ?_
      refine o_iconst (v := (0 : Int32)) X40 at_115 rfl 116 rfl ?_
      refine o_iload X40 at_116 rfl 118 rfl ?_
      refine o_iload X40 at_118 rfl 120 rfl ?_
      refine o_iload X40 at_120 rfl 122 rfl ?_
      refine o_callS X40 at_122 (rest := []) (c_pick l Z a0 hw [] n0 _ X40.size (0 : Int32) (0 : Int32) z5 z6 z7 ) (hw _ (List.mem_of_getElem? (i := 22) rfl)) (hw _ (List.mem_of_getElem? (i := 23) rfl)) (hw _ (List.mem_of_getElem? (i := 2) rfl)) (hw _ (List.mem_of_getElem? (i := 24) rfl)) (by decide) 0 (by decide) (by decide) rfl [(.int (0 : Int32)), (.int (0 : Int32)), (.int z5), (.int z6), (.int z7)] rfl pd_6 rfl rfl (Nat.le_of_eq rfl) 1 12 rfl rfl (by decide) (by decide) 125 rfl ?_
      rintro _ T41 _ X41 ⟨rfl, rfl⟩
      rw [show (f_pick (0 : Int32) (0 : Int32) z5 z6 z7) = (0 : Int32) from rfl]
      show OE p e room_1 below s n0 Q' T41 (mkF m 125 #[.val (.int xp0), .val (.int xp1), .val (.int xp2), .val (.int xs), .val (.int (f_cp xp0)), .val (.int (f_cp xp1)), .val (.int (f_cp xp2)), .val (.ref b4), .val (.int z5), .val (.int z6), .val (.int z7), .val (.int (f_un (f_cp xp0))), .val (.int ((f_un (f_cp xp0)) + (f_un (f_cp xp1)))), .val (.int (((f_un (f_cp xp0)) + (f_un (f_cp xp1))) + (f_un (f_cp xp2)))), .val (.int (0 : Int32)), .val (.int (1 : Int32)), .val (.int (0 : Int32)), .val (.int (1 : Int32)), .unset, .unset, .unset] [(.int (0 : Int32))])
      refine o_istore X41 at_125 #[.val (.int xp0), .val (.int xp1), .val (.int xp2), .val (.int xs), .val (.int (f_cp xp0)), .val (.int (f_cp xp1)), .val (.int (f_cp xp2)), .val (.ref b4), .val (.int z5), .val (.int z6), .val (.int z7), .val (.int (f_un (f_cp xp0))), .val (.int ((f_un (f_cp xp0)) + (f_un (f_cp xp1)))), .val (.int (((f_un (f_cp xp0)) + (f_un (f_cp xp1))) + (f_un (f_cp xp2)))), .val (.int (0 : Int32)), .val (.int (1 : Int32)), .val (.int (0 : Int32)), .val (.int (1 : Int32)), .val (.int (0 : Int32)), .unset, .unset] rfl 127 rfl ?_
      refine o_iload X41 at_127 rfl 129 rfl ?_
      refine o_iconst (v := (0 : Int32)) X41 at_129 rfl 130 rfl ?_
      refine o_iload X41 at_130 rfl 132 rfl ?_
      refine o_iload X41 at_132 rfl 134 rfl ?_
      refine o_iload X41 at_134 rfl 136 rfl ?_
      refine o_callS X41 at_136 (rest := []) (c_pick l Z a0 hw [] n0 _ X41.size (1 : Int32) (0 : Int32) z5 z6 z7 ) (hw _ (List.mem_of_getElem? (i := 22) rfl)) (hw _ (List.mem_of_getElem? (i := 23) rfl)) (hw _ (List.mem_of_getElem? (i := 2) rfl)) (hw _ (List.mem_of_getElem? (i := 24) rfl)) (by decide) 0 (by decide) (by decide) rfl [(.int (1 : Int32)), (.int (0 : Int32)), (.int z5), (.int z6), (.int z7)] rfl pd_6 rfl rfl (Nat.le_of_eq rfl) 1 12 rfl rfl (by decide) (by decide) 139 rfl ?_
      rintro _ T42 _ X42 ⟨rfl, rfl⟩
      rw [show (f_pick (1 : Int32) (0 : Int32) z5 z6 z7) = z5 from rfl]
      show OE p e room_1 below s n0 Q' T42 (mkF m 139 #[.val (.int xp0), .val (.int xp1), .val (.int xp2), .val (.int xs), .val (.int (f_cp xp0)), .val (.int (f_cp xp1)), .val (.int (f_cp xp2)), .val (.ref b4), .val (.int z5), .val (.int z6), .val (.int z7), .val (.int (f_un (f_cp xp0))), .val (.int ((f_un (f_cp xp0)) + (f_un (f_cp xp1)))), .val (.int (((f_un (f_cp xp0)) + (f_un (f_cp xp1))) + (f_un (f_cp xp2)))), .val (.int (0 : Int32)), .val (.int (1 : Int32)), .val (.int (0 : Int32)), .val (.int (1 : Int32)), .val (.int (0 : Int32)), .unset, .unset] [(.int z5)])
      refine o_istore X42 at_139 #[.val (.int xp0), .val (.int xp1), .val (.int xp2), .val (.int xs), .val (.int (f_cp xp0)), .val (.int (f_cp xp1)), .val (.int (f_cp xp2)), .val (.ref b4), .val (.int z5), .val (.int z6), .val (.int z7), .val (.int (f_un (f_cp xp0))), .val (.int ((f_un (f_cp xp0)) + (f_un (f_cp xp1)))), .val (.int (((f_un (f_cp xp0)) + (f_un (f_cp xp1))) + (f_un (f_cp xp2)))), .val (.int (0 : Int32)), .val (.int (1 : Int32)), .val (.int (0 : Int32)), .val (.int (1 : Int32)), .val (.int (0 : Int32)), .val (.int z5), .unset] rfl 141 rfl ?_
      refine o_iload X42 at_141 rfl 143 rfl ?_
      refine o_iconst (v := (0 : Int32)) X42 at_143 rfl 144 rfl ?_
      refine o_iload X42 at_144 rfl 146 rfl ?_
      refine o_iload X42 at_146 rfl 148 rfl ?_
      refine o_iload X42 at_148 rfl 150 rfl ?_
      refine o_callS X42 at_150 (rest := []) (c_pick l Z a0 hw [] n0 _ X42.size (1 : Int32) (0 : Int32) (f_un (f_cp xp0)) ((f_un (f_cp xp0)) + (f_un (f_cp xp1))) (((f_un (f_cp xp0)) + (f_un (f_cp xp1))) + (f_un (f_cp xp2))) ) (hw _ (List.mem_of_getElem? (i := 22) rfl)) (hw _ (List.mem_of_getElem? (i := 23) rfl)) (hw _ (List.mem_of_getElem? (i := 2) rfl)) (hw _ (List.mem_of_getElem? (i := 24) rfl)) (by decide) 0 (by decide) (by decide) rfl [(.int (1 : Int32)), (.int (0 : Int32)), (.int (f_un (f_cp xp0))), (.int ((f_un (f_cp xp0)) + (f_un (f_cp xp1)))), (.int (((f_un (f_cp xp0)) + (f_un (f_cp xp1))) + (f_un (f_cp xp2))))] rfl pd_6 rfl rfl (Nat.le_of_eq rfl) 1 12 rfl rfl (by decide) (by decide) 153 rfl ?_
      rintro _ T43 _ X43 ⟨rfl, rfl⟩
      rw [show (f_pick (1 : Int32) (0 : Int32) (f_un (f_cp xp0)) ((f_un (f_cp xp0)) + (f_un (f_cp xp1))) (((f_un (f_cp xp0)) + (f_un (f_cp xp1))) + (f_un (f_cp xp2)))) = (f_un (f_cp xp0)) from rfl]
      show OE p e room_1 below s n0 Q' T43 (mkF m 153 #[.val (.int xp0), .val (.int xp1), .val (.int xp2), .val (.int xs), .val (.int (f_cp xp0)), .val (.int (f_cp xp1)), .val (.int (f_cp xp2)), .val (.ref b4), .val (.int z5), .val (.int z6), .val (.int z7), .val (.int (f_un (f_cp xp0))), .val (.int ((f_un (f_cp xp0)) + (f_un (f_cp xp1)))), .val (.int (((f_un (f_cp xp0)) + (f_un (f_cp xp1))) + (f_un (f_cp xp2)))), .val (.int (0 : Int32)), .val (.int (1 : Int32)), .val (.int (0 : Int32)), .val (.int (1 : Int32)), .val (.int (0 : Int32)), .val (.int z5), .unset] [(.int (f_un (f_cp xp0)))])
      refine o_iload X43 at_153 rfl 155 rfl ?_
      refine o_iconst (v := (0 : Int32)) X43 at_155 rfl 156 rfl ?_
      refine o_iload X43 at_156 rfl 158 rfl ?_
      refine o_iload X43 at_158 rfl 160 rfl ?_
      refine o_iload X43 at_160 rfl 162 rfl ?_
      refine o_callS X43 at_162 (rest := [(.int (f_un (f_cp xp0)))]) (c_pick l Z a0 hw [] n0 _ X43.size (0 : Int32) (0 : Int32) (f_un (f_cp xp0)) ((f_un (f_cp xp0)) + (f_un (f_cp xp1))) (((f_un (f_cp xp0)) + (f_un (f_cp xp1))) + (f_un (f_cp xp2))) ) (hw _ (List.mem_of_getElem? (i := 22) rfl)) (hw _ (List.mem_of_getElem? (i := 23) rfl)) (hw _ (List.mem_of_getElem? (i := 2) rfl)) (hw _ (List.mem_of_getElem? (i := 24) rfl)) (by decide) 1 (by decide) (by decide) rfl [(.int (0 : Int32)), (.int (0 : Int32)), (.int (f_un (f_cp xp0))), (.int ((f_un (f_cp xp0)) + (f_un (f_cp xp1)))), (.int (((f_un (f_cp xp0)) + (f_un (f_cp xp1))) + (f_un (f_cp xp2))))] rfl pd_6 rfl rfl (Nat.le_of_eq rfl) 1 12 rfl rfl (by decide) (by decide) 165 rfl ?_
      rintro _ T44 _ X44 ⟨rfl, rfl⟩
      rw [show (f_pick (0 : Int32) (0 : Int32) (f_un (f_cp xp0)) ((f_un (f_cp xp0)) + (f_un (f_cp xp1))) (((f_un (f_cp xp0)) + (f_un (f_cp xp1))) + (f_un (f_cp xp2)))) = (0 : Int32) from rfl]
      show OE p e room_1 below s n0 Q' T44 (mkF m 165 #[.val (.int xp0), .val (.int xp1), .val (.int xp2), .val (.int xs), .val (.int (f_cp xp0)), .val (.int (f_cp xp1)), .val (.int (f_cp xp2)), .val (.ref b4), .val (.int z5), .val (.int z6), .val (.int z7), .val (.int (f_un (f_cp xp0))), .val (.int ((f_un (f_cp xp0)) + (f_un (f_cp xp1)))), .val (.int (((f_un (f_cp xp0)) + (f_un (f_cp xp1))) + (f_un (f_cp xp2)))), .val (.int (0 : Int32)), .val (.int (1 : Int32)), .val (.int (0 : Int32)), .val (.int (1 : Int32)), .val (.int (0 : Int32)), .val (.int z5), .unset] [(.int (0 : Int32)), (.int (f_un (f_cp xp0)))])
      refine o_isub X44 at_165 166 rfl ?_
      refine o_istore X44 at_166 #[.val (.int xp0), .val (.int xp1), .val (.int xp2), .val (.int xs), .val (.int (f_cp xp0)), .val (.int (f_cp xp1)), .val (.int (f_cp xp2)), .val (.ref b4), .val (.int z5), .val (.int z6), .val (.int z7), .val (.int (f_un (f_cp xp0))), .val (.int ((f_un (f_cp xp0)) + (f_un (f_cp xp1)))), .val (.int (((f_un (f_cp xp0)) + (f_un (f_cp xp1))) + (f_un (f_cp xp2)))), .val (.int (0 : Int32)), .val (.int (1 : Int32)), .val (.int (0 : Int32)), .val (.int (1 : Int32)), .val (.int (0 : Int32)), .val (.int z5), .val (.int ((f_un (f_cp xp0)) - (0 : Int32)))] rfl 168 rfl ?_
      refine o_aload X44 at_168 rfl rfl 170 rfl ?_
      refine o_iload X44 at_170 rfl 172 rfl ?_
      refine o_iload X44 at_172 rfl 174 rfl ?_
      refine o_callS X44 at_174 (rest := []) (c_cc l Z a0 hw [] n0 _ X44.size b4 (0 : Int32) z5 vs7 [] H7 0 (ln5) rfl (by have := hz5; omega) (by omega) (by omega)) (hw _ (List.mem_of_getElem? (i := 25) rfl)) (hw _ (List.mem_of_getElem? (i := 26) rfl)) (hw _ (List.mem_of_getElem? (i := 27) rfl)) (hw _ (List.mem_of_getElem? (i := 28) rfl)) (by decide) 0 (by decide) (by decide) rfl [(.ref b4), (.int (0 : Int32)), (.int z5)] rfl pd_7 rfl rfl (Nat.le_of_eq rfl) 1 12 rfl rfl (by decide) (by decide) 177 rfl ?_
      rintro _ T45 _ X45 ⟨rfl, rfl⟩
      show OE p e room_1 below s n0 Q' T45 (mkF m 177 #[.val (.int xp0), .val (.int xp1), .val (.int xp2), .val (.int xs), .val (.int (f_cp xp0)), .val (.int (f_cp xp1)), .val (.int (f_cp xp2)), .val (.ref b4), .val (.int z5), .val (.int z6), .val (.int z7), .val (.int (f_un (f_cp xp0))), .val (.int ((f_un (f_cp xp0)) + (f_un (f_cp xp1)))), .val (.int (((f_un (f_cp xp0)) + (f_un (f_cp xp1))) + (f_un (f_cp xp2)))), .val (.int (0 : Int32)), .val (.int (1 : Int32)), .val (.int (0 : Int32)), .val (.int (1 : Int32)), .val (.int (0 : Int32)), .val (.int z5), .val (.int ((f_un (f_cp xp0)) - (0 : Int32)))] [(.int (f_cnt vs7 0 (ln5)))])
      refine o_iload X45 at_177 rfl 179 rfl ?_
      refine o_icmpNe X45 at_179 186 182 (by decide) (by decide) rfl (fun q => by exfalso; apply q; rw [B1 _ (by omega)]; grind) ?_
      intro hc179
      refine o_iconst (v := (1 : Int32)) X45 at_182 rfl 183 rfl ?_
      refine o_goto X45 at_183 187 (by decide) (by decide) ?_
      exact o_retZ X45 at_187 (by decide) (by decide) (hQ _ _ rfl)
    · rw [hv]
      refine o_iload X10 at_95 rfl 97 rfl ?_
      refine o_iload X10 at_97 rfl 99 rfl ?_
      refine o_callS X10 at_99 (rest := []) (c_min l Z a0 hw [] n0 _ X10.size (1 : Int32) (1 : Int32) ) (hw _ (List.mem_of_getElem? (i := 15) rfl)) (hw _ (List.mem_of_getElem? (i := 16) rfl)) (hw _ (List.mem_of_getElem? (i := 17) rfl)) (hw _ (List.mem_of_getElem? (i := 18) rfl)) (by decide) 0 (by decide) (by decide) rfl [(.int (1 : Int32)), (.int (1 : Int32))] rfl pd_4 rfl rfl (Nat.le_of_eq rfl) 1 12 rfl rfl (by decide) (by decide) 102 rfl ?_
      rintro _ T46 _ X46 ⟨rfl, rfl⟩
      rw [show (f_min (1 : Int32) (1 : Int32)) = (1 : Int32) from rfl]
      show OE p e room_1 below s n0 Q' T46 (mkF m 102 #[.val (.int xp0), .val (.int xp1), .val (.int xp2), .val (.int xs), .val (.int (f_cp xp0)), .val (.int (f_cp xp1)), .val (.int (f_cp xp2)), .val (.ref b4), .val (.int z5), .val (.int z6), .val (.int z7), .val (.int (f_un (f_cp xp0))), .val (.int ((f_un (f_cp xp0)) + (f_un (f_cp xp1)))), .val (.int (((f_un (f_cp xp0)) + (f_un (f_cp xp1))) + (f_un (f_cp xp2)))), .val (.int (1 : Int32)), .val (.int (1 : Int32)), .unset, .unset, .unset, .unset, .unset] [(.int (1 : Int32))])
      refine o_istore X46 at_102 #[.val (.int xp0), .val (.int xp1), .val (.int xp2), .val (.int xs), .val (.int (f_cp xp0)), .val (.int (f_cp xp1)), .val (.int (f_cp xp2)), .val (.ref b4), .val (.int z5), .val (.int z6), .val (.int z7), .val (.int (f_un (f_cp xp0))), .val (.int ((f_un (f_cp xp0)) + (f_un (f_cp xp1)))), .val (.int (((f_un (f_cp xp0)) + (f_un (f_cp xp1))) + (f_un (f_cp xp2)))), .val (.int (1 : Int32)), .val (.int (1 : Int32)), .val (.int (1 : Int32)), .unset, .unset, .unset, .unset] rfl 104 rfl ?_
      refine o_iload X46 at_104 rfl 106 rfl ?_
      refine o_iload X46 at_106 rfl 108 rfl ?_
      refine o_callS X46 at_108 (rest := []) (c_max l Z a0 hw [] n0 _ X46.size (1 : Int32) (1 : Int32) ) (hw _ (List.mem_of_getElem? (i := 19) rfl)) (hw _ (List.mem_of_getElem? (i := 20) rfl)) (hw _ (List.mem_of_getElem? (i := 17) rfl)) (hw _ (List.mem_of_getElem? (i := 21) rfl)) (by decide) 0 (by decide) (by decide) rfl [(.int (1 : Int32)), (.int (1 : Int32))] rfl pd_5 rfl rfl (Nat.le_of_eq rfl) 1 12 rfl rfl (by decide) (by decide) 111 rfl ?_
      rintro _ T47 _ X47 ⟨rfl, rfl⟩
      rw [show (f_max (1 : Int32) (1 : Int32)) = (1 : Int32) from rfl]
      show OE p e room_1 below s n0 Q' T47 (mkF m 111 #[.val (.int xp0), .val (.int xp1), .val (.int xp2), .val (.int xs), .val (.int (f_cp xp0)), .val (.int (f_cp xp1)), .val (.int (f_cp xp2)), .val (.ref b4), .val (.int z5), .val (.int z6), .val (.int z7), .val (.int (f_un (f_cp xp0))), .val (.int ((f_un (f_cp xp0)) + (f_un (f_cp xp1)))), .val (.int (((f_un (f_cp xp0)) + (f_un (f_cp xp1))) + (f_un (f_cp xp2)))), .val (.int (1 : Int32)), .val (.int (1 : Int32)), .val (.int (1 : Int32)), .unset, .unset, .unset, .unset] [(.int (1 : Int32))])
      refine o_istore X47 at_111 #[.val (.int xp0), .val (.int xp1), .val (.int xp2), .val (.int xs), .val (.int (f_cp xp0)), .val (.int (f_cp xp1)), .val (.int (f_cp xp2)), .val (.ref b4), .val (.int z5), .val (.int z6), .val (.int z7), .val (.int (f_un (f_cp xp0))), .val (.int ((f_un (f_cp xp0)) + (f_un (f_cp xp1)))), .val (.int (((f_un (f_cp xp0)) + (f_un (f_cp xp1))) + (f_un (f_cp xp2)))), .val (.int (1 : Int32)), .val (.int (1 : Int32)), .val (.int (1 : Int32)), .val (.int (1 : Int32)), .unset, .unset, .unset] rfl 113 rfl ?_
      refine o_iload X47 at_113 rfl 115 rfl ?_
      refine o_iconst (v := (0 : Int32)) X47 at_115 rfl 116 rfl ?_
      refine o_iload X47 at_116 rfl 118 rfl ?_
      refine o_iload X47 at_118 rfl 120 rfl ?_
      refine o_iload X47 at_120 rfl 122 rfl ?_
      refine o_callS X47 at_122 (rest := []) (c_pick l Z a0 hw [] n0 _ X47.size (1 : Int32) (0 : Int32) z5 z6 z7 ) (hw _ (List.mem_of_getElem? (i := 22) rfl)) (hw _ (List.mem_of_getElem? (i := 23) rfl)) (hw _ (List.mem_of_getElem? (i := 2) rfl)) (hw _ (List.mem_of_getElem? (i := 24) rfl)) (by decide) 0 (by decide) (by decide) rfl [(.int (1 : Int32)), (.int (0 : Int32)), (.int z5), (.int z6), (.int z7)] rfl pd_6 rfl rfl (Nat.le_of_eq rfl) 1 12 rfl rfl (by decide) (by decide) 125 rfl ?_
      rintro _ T48 _ X48 ⟨rfl, rfl⟩
      rw [show (f_pick (1 : Int32) (0 : Int32) z5 z6 z7) = z5 from rfl]
      show OE p e room_1 below s n0 Q' T48 (mkF m 125 #[.val (.int xp0), .val (.int xp1), .val (.int xp2), .val (.int xs), .val (.int (f_cp xp0)), .val (.int (f_cp xp1)), .val (.int (f_cp xp2)), .val (.ref b4), .val (.int z5), .val (.int z6), .val (.int z7), .val (.int (f_un (f_cp xp0))), .val (.int ((f_un (f_cp xp0)) + (f_un (f_cp xp1)))), .val (.int (((f_un (f_cp xp0)) + (f_un (f_cp xp1))) + (f_un (f_cp xp2)))), .val (.int (1 : Int32)), .val (.int (1 : Int32)), .val (.int (1 : Int32)), .val (.int (1 : Int32)), .unset, .unset, .unset] [(.int z5)])
      refine o_istore X48 at_125 #[.val (.int xp0), .val (.int xp1), .val (.int xp2), .val (.int xs), .val (.int (f_cp xp0)), .val (.int (f_cp xp1)), .val (.int (f_cp xp2)), .val (.ref b4), .val (.int z5), .val (.int z6), .val (.int z7), .val (.int (f_un (f_cp xp0))), .val (.int ((f_un (f_cp xp0)) + (f_un (f_cp xp1)))), .val (.int (((f_un (f_cp xp0)) + (f_un (f_cp xp1))) + (f_un (f_cp xp2)))), .val (.int (1 : Int32)), .val (.int (1 : Int32)), .val (.int (1 : Int32)), .val (.int (1 : Int32)), .val (.int z5), .unset, .unset] rfl 127 rfl ?_
      refine o_iload X48 at_127 rfl 129 rfl ?_
      refine o_iconst (v := (0 : Int32)) X48 at_129 rfl 130 rfl ?_
      refine o_iload X48 at_130 rfl 132 rfl ?_
      refine o_iload X48 at_132 rfl 134 rfl ?_
      refine o_iload X48 at_134 rfl 136 rfl ?_
      refine o_callS X48 at_136 (rest := []) (c_pick l Z a0 hw [] n0 _ X48.size (1 : Int32) (0 : Int32) z5 z6 z7 ) (hw _ (List.mem_of_getElem? (i := 22) rfl)) (hw _ (List.mem_of_getElem? (i := 23) rfl)) (hw _ (List.mem_of_getElem? (i := 2) rfl)) (hw _ (List.mem_of_getElem? (i := 24) rfl)) (by decide) 0 (by decide) (by decide) rfl [(.int (1 : Int32)), (.int (0 : Int32)), (.int z5), (.int z6), (.int z7)] rfl pd_6 rfl rfl (Nat.le_of_eq rfl) 1 12 rfl rfl (by decide) (by decide) 139 rfl ?_
      rintro _ T49 _ X49 ⟨rfl, rfl⟩
      rw [show (f_pick (1 : Int32) (0 : Int32) z5 z6 z7) = z5 from rfl]
      show OE p e room_1 below s n0 Q' T49 (mkF m 139 #[.val (.int xp0), .val (.int xp1), .val (.int xp2), .val (.int xs), .val (.int (f_cp xp0)), .val (.int (f_cp xp1)), .val (.int (f_cp xp2)), .val (.ref b4), .val (.int z5), .val (.int z6), .val (.int z7), .val (.int (f_un (f_cp xp0))), .val (.int ((f_un (f_cp xp0)) + (f_un (f_cp xp1)))), .val (.int (((f_un (f_cp xp0)) + (f_un (f_cp xp1))) + (f_un (f_cp xp2)))), .val (.int (1 : Int32)), .val (.int (1 : Int32)), .val (.int (1 : Int32)), .val (.int (1 : Int32)), .val (.int z5), .unset, .unset] [(.int z5)])
      refine o_istore X49 at_139 #[.val (.int xp0), .val (.int xp1), .val (.int xp2), .val (.int xs), .val (.int (f_cp xp0)), .val (.int (f_cp xp1)), .val (.int (f_cp xp2)), .val (.ref b4), .val (.int z5), .val (.int z6), .val (.int z7), .val (.int (f_un (f_cp xp0))), .val (.int ((f_un (f_cp xp0)) + (f_un (f_cp xp1)))), .val (.int (((f_un (f_cp xp0)) + (f_un (f_cp xp1))) + (f_un (f_cp xp2)))), .val (.int (1 : Int32)), .val (.int (1 : Int32)), .val (.int (1 : Int32)), .val (.int (1 : Int32)), .val (.int z5), .val (.int z5), .unset] rfl 141 rfl ?_
      refine o_iload X49 at_141 rfl 143 rfl ?_
      refine o_iconst (v := (0 : Int32)) X49 at_143 rfl 144 rfl ?_
      refine o_iload X49 at_144 rfl 146 rfl ?_
      refine o_iload X49 at_146 rfl 148 rfl ?_
      refine o_iload X49 at_148 rfl 150 rfl ?_
      refine o_callS X49 at_150 (rest := []) (c_pick l Z a0 hw [] n0 _ X49.size (1 : Int32) (0 : Int32) (f_un (f_cp xp0)) ((f_un (f_cp xp0)) + (f_un (f_cp xp1))) (((f_un (f_cp xp0)) + (f_un (f_cp xp1))) + (f_un (f_cp xp2))) ) (hw _ (List.mem_of_getElem? (i := 22) rfl)) (hw _ (List.mem_of_getElem? (i := 23) rfl)) (hw _ (List.mem_of_getElem? (i := 2) rfl)) (hw _ (List.mem_of_getElem? (i := 24) rfl)) (by decide) 0 (by decide) (by decide) rfl [(.int (1 : Int32)), (.int (0 : Int32)), (.int (f_un (f_cp xp0))), (.int ((f_un (f_cp xp0)) + (f_un (f_cp xp1)))), (.int (((f_un (f_cp xp0)) + (f_un (f_cp xp1))) + (f_un (f_cp xp2))))] rfl pd_6 rfl rfl (Nat.le_of_eq rfl) 1 12 rfl rfl (by decide) (by decide) 153 rfl ?_
      rintro _ T50 _ X50 ⟨rfl, rfl⟩
      rw [show (f_pick (1 : Int32) (0 : Int32) (f_un (f_cp xp0)) ((f_un (f_cp xp0)) + (f_un (f_cp xp1))) (((f_un (f_cp xp0)) + (f_un (f_cp xp1))) + (f_un (f_cp xp2)))) = (f_un (f_cp xp0)) from rfl]
      show OE p e room_1 below s n0 Q' T50 (mkF m 153 #[.val (.int xp0), .val (.int xp1), .val (.int xp2), .val (.int xs), .val (.int (f_cp xp0)), .val (.int (f_cp xp1)), .val (.int (f_cp xp2)), .val (.ref b4), .val (.int z5), .val (.int z6), .val (.int z7), .val (.int (f_un (f_cp xp0))), .val (.int ((f_un (f_cp xp0)) + (f_un (f_cp xp1)))), .val (.int (((f_un (f_cp xp0)) + (f_un (f_cp xp1))) + (f_un (f_cp xp2)))), .val (.int (1 : Int32)), .val (.int (1 : Int32)), .val (.int (1 : Int32)), .val (.int (1 : Int32)), .val (.int z5), .val (.int z5), .unset] [(.int (f_un (f_cp xp0)))])
      refine o_iload X50 at_153 rfl 155 rfl ?_
      refine o_iconst (v := (0 : Int32)) X50 at_155 rfl 156 rfl ?_
      refine o_iload X50 at_156 rfl 158 rfl ?_
      refine o_iload X50 at_158 rfl 160 rfl ?_
      refine o_iload X50 at_160 rfl 162 rfl ?_
      refine o_callS X50 at_162 (rest := [(.int (f_un (f_cp xp0)))]) (c_pick l Z a0 hw [] n0 _ X50.size (1 : Int32) (0 : Int32) (f_un (f_cp xp0)) ((f_un (f_cp xp0)) + (f_un (f_cp xp1))) (((f_un (f_cp xp0)) + (f_un (f_cp xp1))) + (f_un (f_cp xp2))) ) (hw _ (List.mem_of_getElem? (i := 22) rfl)) (hw _ (List.mem_of_getElem? (i := 23) rfl)) (hw _ (List.mem_of_getElem? (i := 2) rfl)) (hw _ (List.mem_of_getElem? (i := 24) rfl)) (by decide) 1 (by decide) (by decide) rfl [(.int (1 : Int32)), (.int (0 : Int32)), (.int (f_un (f_cp xp0))), (.int ((f_un (f_cp xp0)) + (f_un (f_cp xp1)))), (.int (((f_un (f_cp xp0)) + (f_un (f_cp xp1))) + (f_un (f_cp xp2))))] rfl pd_6 rfl rfl (Nat.le_of_eq rfl) 1 12 rfl rfl (by decide) (by decide) 165 rfl ?_
      rintro _ T51 _ X51 ⟨rfl, rfl⟩
      rw [show (f_pick (1 : Int32) (0 : Int32) (f_un (f_cp xp0)) ((f_un (f_cp xp0)) + (f_un (f_cp xp1))) (((f_un (f_cp xp0)) + (f_un (f_cp xp1))) + (f_un (f_cp xp2)))) = (f_un (f_cp xp0)) from rfl]
      show OE p e room_1 below s n0 Q' T51 (mkF m 165 #[.val (.int xp0), .val (.int xp1), .val (.int xp2), .val (.int xs), .val (.int (f_cp xp0)), .val (.int (f_cp xp1)), .val (.int (f_cp xp2)), .val (.ref b4), .val (.int z5), .val (.int z6), .val (.int z7), .val (.int (f_un (f_cp xp0))), .val (.int ((f_un (f_cp xp0)) + (f_un (f_cp xp1)))), .val (.int (((f_un (f_cp xp0)) + (f_un (f_cp xp1))) + (f_un (f_cp xp2)))), .val (.int (1 : Int32)), .val (.int (1 : Int32)), .val (.int (1 : Int32)), .val (.int (1 : Int32)), .val (.int z5), .val (.int z5), .unset] [(.int (f_un (f_cp xp0))), (.int (f_un (f_cp xp0)))])
      refine o_isub X51 at_165 166 rfl ?_
      refine o_istore X51 at_166 #[.val (.int xp0), .val (.int xp1), .val (.int xp2), .val (.int xs), .val (.int (f_cp xp0)), .val (.int (f_cp xp1)), .val (.int (f_cp xp2)), .val (.ref b4), .val (.int z5), .val (.int z6), .val (.int z7), .val (.int (f_un (f_cp xp0))), .val (.int ((f_un (f_cp xp0)) + (f_un (f_cp xp1)))), .val (.int (((f_un (f_cp xp0)) + (f_un (f_cp xp1))) + (f_un (f_cp xp2)))), .val (.int (1 : Int32)), .val (.int (1 : Int32)), .val (.int (1 : Int32)), .val (.int (1 : Int32)), .val (.int z5), .val (.int z5), .val (.int ((f_un (f_cp xp0)) - (f_un (f_cp xp0))))] rfl 168 rfl ?_
      refine o_aload X51 at_168 rfl rfl 170 rfl ?_
      refine o_iload X51 at_170 rfl 172 rfl ?_
      refine o_iload X51 at_172 rfl 174 rfl ?_
      refine o_callS X51 at_174 (rest := []) (c_cc l Z a0 hw [] n0 _ X51.size b4 z5 z5 vs7 [] H7 (0 + ln5) 0 (by have := hz5; omega) (by have := hz5; omega) (by omega) (by omega)) (hw _ (List.mem_of_getElem? (i := 25) rfl)) (hw _ (List.mem_of_getElem? (i := 26) rfl)) (hw _ (List.mem_of_getElem? (i := 27) rfl)) (hw _ (List.mem_of_getElem? (i := 28) rfl)) (by decide) 0 (by decide) (by decide) rfl [(.ref b4), (.int z5), (.int z5)] rfl pd_7 rfl rfl (Nat.le_of_eq rfl) 1 12 rfl rfl (by decide) (by decide) 177 rfl ?_
      rintro _ T52 _ X52 ⟨rfl, rfl⟩
      show OE p e room_1 below s n0 Q' T52 (mkF m 177 #[.val (.int xp0), .val (.int xp1), .val (.int xp2), .val (.int xs), .val (.int (f_cp xp0)), .val (.int (f_cp xp1)), .val (.int (f_cp xp2)), .val (.ref b4), .val (.int z5), .val (.int z6), .val (.int z7), .val (.int (f_un (f_cp xp0))), .val (.int ((f_un (f_cp xp0)) + (f_un (f_cp xp1)))), .val (.int (((f_un (f_cp xp0)) + (f_un (f_cp xp1))) + (f_un (f_cp xp2)))), .val (.int (1 : Int32)), .val (.int (1 : Int32)), .val (.int (1 : Int32)), .val (.int (1 : Int32)), .val (.int z5), .val (.int z5), .val (.int ((f_un (f_cp xp0)) - (f_un (f_cp xp0))))] [(.int (f_cnt vs7 (0 + ln5) 0))])
      refine o_iload X52 at_177 rfl 179 rfl ?_
      refine o_icmpNe X52 at_179 186 182 (by decide) (by decide) rfl (fun q => by exfalso; apply q; show (0 : Int32) = _; grind) ?_
      intro hc179
      refine o_iconst (v := (1 : Int32)) X52 at_182 rfl 183 rfl ?_
      refine o_goto X52 at_183 187 (by decide) (by decide) ?_
      exact o_retZ X52 at_187 (by decide) (by decide) (hQ _ _ rfl)
    · rw [hv]
      refine o_iload X10 at_95 rfl 97 rfl ?_
      refine o_iload X10 at_97 rfl 99 rfl ?_
      refine o_callS X10 at_99 (rest := []) (c_min l Z a0 hw [] n0 _ X10.size (2 : Int32) (1 : Int32) ) (hw _ (List.mem_of_getElem? (i := 15) rfl)) (hw _ (List.mem_of_getElem? (i := 16) rfl)) (hw _ (List.mem_of_getElem? (i := 17) rfl)) (hw _ (List.mem_of_getElem? (i := 18) rfl)) (by decide) 0 (by decide) (by decide) rfl [(.int (2 : Int32)), (.int (1 : Int32))] rfl pd_4 rfl rfl (Nat.le_of_eq rfl) 1 12 rfl rfl (by decide) (by decide) 102 rfl ?_
      rintro _ T53 _ X53 ⟨rfl, rfl⟩
      rw [show (f_min (2 : Int32) (1 : Int32)) = (1 : Int32) from rfl]
      show OE p e room_1 below s n0 Q' T53 (mkF m 102 #[.val (.int xp0), .val (.int xp1), .val (.int xp2), .val (.int xs), .val (.int (f_cp xp0)), .val (.int (f_cp xp1)), .val (.int (f_cp xp2)), .val (.ref b4), .val (.int z5), .val (.int z6), .val (.int z7), .val (.int (f_un (f_cp xp0))), .val (.int ((f_un (f_cp xp0)) + (f_un (f_cp xp1)))), .val (.int (((f_un (f_cp xp0)) + (f_un (f_cp xp1))) + (f_un (f_cp xp2)))), .val (.int (2 : Int32)), .val (.int (1 : Int32)), .unset, .unset, .unset, .unset, .unset] [(.int (1 : Int32))])
      refine o_istore X53 at_102 #[.val (.int xp0), .val (.int xp1), .val (.int xp2), .val (.int xs), .val (.int (f_cp xp0)), .val (.int (f_cp xp1)), .val (.int (f_cp xp2)), .val (.ref b4), .val (.int z5), .val (.int z6), .val (.int z7), .val (.int (f_un (f_cp xp0))), .val (.int ((f_un (f_cp xp0)) + (f_un (f_cp xp1)))), .val (.int (((f_un (f_cp xp0)) + (f_un (f_cp xp1))) + (f_un (f_cp xp2)))), .val (.int (2 : Int32)), .val (.int (1 : Int32)), .val (.int (1 : Int32)), .unset, .unset, .unset, .unset] rfl 104 rfl ?_
      refine o_iload X53 at_104 rfl 106 rfl ?_
      refine o_iload X53 at_106 rfl 108 rfl ?_
      refine o_callS X53 at_108 (rest := []) (c_max l Z a0 hw [] n0 _ X53.size (2 : Int32) (1 : Int32) ) (hw _ (List.mem_of_getElem? (i := 19) rfl)) (hw _ (List.mem_of_getElem? (i := 20) rfl)) (hw _ (List.mem_of_getElem? (i := 17) rfl)) (hw _ (List.mem_of_getElem? (i := 21) rfl)) (by decide) 0 (by decide) (by decide) rfl [(.int (2 : Int32)), (.int (1 : Int32))] rfl pd_5 rfl rfl (Nat.le_of_eq rfl) 1 12 rfl rfl (by decide) (by decide) 111 rfl ?_
      rintro _ T54 _ X54 ⟨rfl, rfl⟩
      rw [show (f_max (2 : Int32) (1 : Int32)) = (2 : Int32) from rfl]
      show OE p e room_1 below s n0 Q' T54 (mkF m 111 #[.val (.int xp0), .val (.int xp1), .val (.int xp2), .val (.int xs), .val (.int (f_cp xp0)), .val (.int (f_cp xp1)), .val (.int (f_cp xp2)), .val (.ref b4), .val (.int z5), .val (.int z6), .val (.int z7), .val (.int (f_un (f_cp xp0))), .val (.int ((f_un (f_cp xp0)) + (f_un (f_cp xp1)))), .val (.int (((f_un (f_cp xp0)) + (f_un (f_cp xp1))) + (f_un (f_cp xp2)))), .val (.int (2 : Int32)), .val (.int (1 : Int32)), .val (.int (1 : Int32)), .unset, .unset, .unset, .unset] [(.int (2 : Int32))])
      refine o_istore X54 at_111 #[.val (.int xp0), .val (.int xp1), .val (.int xp2), .val (.int xs), .val (.int (f_cp xp0)), .val (.int (f_cp xp1)), .val (.int (f_cp xp2)), .val (.ref b4), .val (.int z5), .val (.int z6), .val (.int z7), .val (.int (f_un (f_cp xp0))), .val (.int ((f_un (f_cp xp0)) + (f_un (f_cp xp1)))), .val (.int (((f_un (f_cp xp0)) + (f_un (f_cp xp1))) + (f_un (f_cp xp2)))), .val (.int (2 : Int32)), .val (.int (1 : Int32)), .val (.int (1 : Int32)), .val (.int (2 : Int32)), .unset, .unset, .unset] rfl 113 rfl ?_
      refine o_iload X54 at_113 rfl 115 rfl ?_
      refine o_iconst (v := (0 : Int32)) X54 at_115 rfl 116 rfl ?_
      refine o_iload X54 at_116 rfl 118 rfl ?_
      refine o_iload X54 at_118 rfl 120 rfl ?_
      refine o_iload X54 at_120 rfl 122 rfl ?_
      refine o_callS X54 at_122 (rest := []) (c_pick l Z a0 hw [] n0 _ X54.size (1 : Int32) (0 : Int32) z5 z6 z7 ) (hw _ (List.mem_of_getElem? (i := 22) rfl)) (hw _ (List.mem_of_getElem? (i := 23) rfl)) (hw _ (List.mem_of_getElem? (i := 2) rfl)) (hw _ (List.mem_of_getElem? (i := 24) rfl)) (by decide) 0 (by decide) (by decide) rfl [(.int (1 : Int32)), (.int (0 : Int32)), (.int z5), (.int z6), (.int z7)] rfl pd_6 rfl rfl (Nat.le_of_eq rfl) 1 12 rfl rfl (by decide) (by decide) 125 rfl ?_
      rintro _ T55 _ X55 ⟨rfl, rfl⟩
      rw [show (f_pick (1 : Int32) (0 : Int32) z5 z6 z7) = z5 from rfl]
      show OE p e room_1 below s n0 Q' T55 (mkF m 125 #[.val (.int xp0), .val (.int xp1), .val (.int xp2), .val (.int xs), .val (.int (f_cp xp0)), .val (.int (f_cp xp1)), .val (.int (f_cp xp2)), .val (.ref b4), .val (.int z5), .val (.int z6), .val (.int z7), .val (.int (f_un (f_cp xp0))), .val (.int ((f_un (f_cp xp0)) + (f_un (f_cp xp1)))), .val (.int (((f_un (f_cp xp0)) + (f_un (f_cp xp1))) + (f_un (f_cp xp2)))), .val (.int (2 : Int32)), .val (.int (1 : Int32)), .val (.int (1 : Int32)), .val (.int (2 : Int32)), .unset, .unset, .unset] [(.int z5)])
      refine o_istore X55 at_125 #[.val (.int xp0), .val (.int xp1), .val (.int xp2), .val (.int xs), .val (.int (f_cp xp0)), .val (.int (f_cp xp1)), .val (.int (f_cp xp2)), .val (.ref b4), .val (.int z5), .val (.int z6), .val (.int z7), .val (.int (f_un (f_cp xp0))), .val (.int ((f_un (f_cp xp0)) + (f_un (f_cp xp1)))), .val (.int (((f_un (f_cp xp0)) + (f_un (f_cp xp1))) + (f_un (f_cp xp2)))), .val (.int (2 : Int32)), .val (.int (1 : Int32)), .val (.int (1 : Int32)), .val (.int (2 : Int32)), .val (.int z5), .unset, .unset] rfl 127 rfl ?_
      refine o_iload X55 at_127 rfl 129 rfl ?_
      refine o_iconst (v := (0 : Int32)) X55 at_129 rfl 130 rfl ?_
      refine o_iload X55 at_130 rfl 132 rfl ?_
      refine o_iload X55 at_132 rfl 134 rfl ?_
      refine o_iload X55 at_134 rfl 136 rfl ?_
      refine o_callS X55 at_136 (rest := []) (c_pick l Z a0 hw [] n0 _ X55.size (2 : Int32) (0 : Int32) z5 z6 z7 ) (hw _ (List.mem_of_getElem? (i := 22) rfl)) (hw _ (List.mem_of_getElem? (i := 23) rfl)) (hw _ (List.mem_of_getElem? (i := 2) rfl)) (hw _ (List.mem_of_getElem? (i := 24) rfl)) (by decide) 0 (by decide) (by decide) rfl [(.int (2 : Int32)), (.int (0 : Int32)), (.int z5), (.int z6), (.int z7)] rfl pd_6 rfl rfl (Nat.le_of_eq rfl) 1 12 rfl rfl (by decide) (by decide) 139 rfl ?_
      rintro _ T56 _ X56 ⟨rfl, rfl⟩
      rw [show (f_pick (2 : Int32) (0 : Int32) z5 z6 z7) = z6 from rfl]
      show OE p e room_1 below s n0 Q' T56 (mkF m 139 #[.val (.int xp0), .val (.int xp1), .val (.int xp2), .val (.int xs), .val (.int (f_cp xp0)), .val (.int (f_cp xp1)), .val (.int (f_cp xp2)), .val (.ref b4), .val (.int z5), .val (.int z6), .val (.int z7), .val (.int (f_un (f_cp xp0))), .val (.int ((f_un (f_cp xp0)) + (f_un (f_cp xp1)))), .val (.int (((f_un (f_cp xp0)) + (f_un (f_cp xp1))) + (f_un (f_cp xp2)))), .val (.int (2 : Int32)), .val (.int (1 : Int32)), .val (.int (1 : Int32)), .val (.int (2 : Int32)), .val (.int z5), .unset, .unset] [(.int z6)])
      refine o_istore X56 at_139 #[.val (.int xp0), .val (.int xp1), .val (.int xp2), .val (.int xs), .val (.int (f_cp xp0)), .val (.int (f_cp xp1)), .val (.int (f_cp xp2)), .val (.ref b4), .val (.int z5), .val (.int z6), .val (.int z7), .val (.int (f_un (f_cp xp0))), .val (.int ((f_un (f_cp xp0)) + (f_un (f_cp xp1)))), .val (.int (((f_un (f_cp xp0)) + (f_un (f_cp xp1))) + (f_un (f_cp xp2)))), .val (.int (2 : Int32)), .val (.int (1 : Int32)), .val (.int (1 : Int32)), .val (.int (2 : Int32)), .val (.int z5), .val (.int z6), .unset] rfl 141 rfl ?_
      refine o_iload X56 at_141 rfl 143 rfl ?_
      refine o_iconst (v := (0 : Int32)) X56 at_143 rfl 144 rfl ?_
      refine o_iload X56 at_144 rfl 146 rfl ?_
      refine o_iload X56 at_146 rfl 148 rfl ?_
      refine o_iload X56 at_148 rfl 150 rfl ?_
      refine o_callS X56 at_150 (rest := []) (c_pick l Z a0 hw [] n0 _ X56.size (2 : Int32) (0 : Int32) (f_un (f_cp xp0)) ((f_un (f_cp xp0)) + (f_un (f_cp xp1))) (((f_un (f_cp xp0)) + (f_un (f_cp xp1))) + (f_un (f_cp xp2))) ) (hw _ (List.mem_of_getElem? (i := 22) rfl)) (hw _ (List.mem_of_getElem? (i := 23) rfl)) (hw _ (List.mem_of_getElem? (i := 2) rfl)) (hw _ (List.mem_of_getElem? (i := 24) rfl)) (by decide) 0 (by decide) (by decide) rfl [(.int (2 : Int32)), (.int (0 : Int32)), (.int (f_un (f_cp xp0))), (.int ((f_un (f_cp xp0)) + (f_un (f_cp xp1)))), (.int (((f_un (f_cp xp0)) + (f_un (f_cp xp1))) + (f_un (f_cp xp2))))] rfl pd_6 rfl rfl (Nat.le_of_eq rfl) 1 12 rfl rfl (by decide) (by decide) 153 rfl ?_
      rintro _ T57 _ X57 ⟨rfl, rfl⟩
      rw [show (f_pick (2 : Int32) (0 : Int32) (f_un (f_cp xp0)) ((f_un (f_cp xp0)) + (f_un (f_cp xp1))) (((f_un (f_cp xp0)) + (f_un (f_cp xp1))) + (f_un (f_cp xp2)))) = ((f_un (f_cp xp0)) + (f_un (f_cp xp1))) from rfl]
      show OE p e room_1 below s n0 Q' T57 (mkF m 153 #[.val (.int xp0), .val (.int xp1), .val (.int xp2), .val (.int xs), .val (.int (f_cp xp0)), .val (.int (f_cp xp1)), .val (.int (f_cp xp2)), .val (.ref b4), .val (.int z5), .val (.int z6), .val (.int z7), .val (.int (f_un (f_cp xp0))), .val (.int ((f_un (f_cp xp0)) + (f_un (f_cp xp1)))), .val (.int (((f_un (f_cp xp0)) + (f_un (f_cp xp1))) + (f_un (f_cp xp2)))), .val (.int (2 : Int32)), .val (.int (1 : Int32)), .val (.int (1 : Int32)), .val (.int (2 : Int32)), .val (.int z5), .val (.int z6), .unset] [(.int ((f_un (f_cp xp0)) + (f_un (f_cp xp1))))])
      refine o_iload X57 at_153 rfl 155 rfl ?_
      refine o_iconst (v := (0 : Int32)) X57 at_155 rfl 156 rfl ?_
      refine o_iload X57 at_156 rfl 158 rfl ?_
      refine o_iload X57 at_158 rfl 160 rfl ?_
      refine o_iload X57 at_160 rfl 162 rfl ?_
      refine o_callS X57 at_162 (rest := [(.int ((f_un (f_cp xp0)) + (f_un (f_cp xp1))))]) (c_pick l Z a0 hw [] n0 _ X57.size (1 : Int32) (0 : Int32) (f_un (f_cp xp0)) ((f_un (f_cp xp0)) + (f_un (f_cp xp1))) (((f_un (f_cp xp0)) + (f_un (f_cp xp1))) + (f_un (f_cp xp2))) ) (hw _ (List.mem_of_getElem? (i := 22) rfl)) (hw _ (List.mem_of_getElem? (i := 23) rfl)) (hw _ (List.mem_of_getElem? (i := 2) rfl)) (hw _ (List.mem_of_getElem? (i := 24) rfl)) (by decide) 1 (by decide) (by decide) rfl [(.int (1 : Int32)), (.int (0 : Int32)), (.int (f_un (f_cp xp0))), (.int ((f_un (f_cp xp0)) + (f_un (f_cp xp1)))), (.int (((f_un (f_cp xp0)) + (f_un (f_cp xp1))) + (f_un (f_cp xp2))))] rfl pd_6 rfl rfl (Nat.le_of_eq rfl) 1 12 rfl rfl (by decide) (by decide) 165 rfl ?_
      rintro _ T58 _ X58 ⟨rfl, rfl⟩
      rw [show (f_pick (1 : Int32) (0 : Int32) (f_un (f_cp xp0)) ((f_un (f_cp xp0)) + (f_un (f_cp xp1))) (((f_un (f_cp xp0)) + (f_un (f_cp xp1))) + (f_un (f_cp xp2)))) = (f_un (f_cp xp0)) from rfl]
      show OE p e room_1 below s n0 Q' T58 (mkF m 165 #[.val (.int xp0), .val (.int xp1), .val (.int xp2), .val (.int xs), .val (.int (f_cp xp0)), .val (.int (f_cp xp1)), .val (.int (f_cp xp2)), .val (.ref b4), .val (.int z5), .val (.int z6), .val (.int z7), .val (.int (f_un (f_cp xp0))), .val (.int ((f_un (f_cp xp0)) + (f_un (f_cp xp1)))), .val (.int (((f_un (f_cp xp0)) + (f_un (f_cp xp1))) + (f_un (f_cp xp2)))), .val (.int (2 : Int32)), .val (.int (1 : Int32)), .val (.int (1 : Int32)), .val (.int (2 : Int32)), .val (.int z5), .val (.int z6), .unset] [(.int (f_un (f_cp xp0))), (.int ((f_un (f_cp xp0)) + (f_un (f_cp xp1))))])
      refine o_isub X58 at_165 166 rfl ?_
      refine o_istore X58 at_166 #[.val (.int xp0), .val (.int xp1), .val (.int xp2), .val (.int xs), .val (.int (f_cp xp0)), .val (.int (f_cp xp1)), .val (.int (f_cp xp2)), .val (.ref b4), .val (.int z5), .val (.int z6), .val (.int z7), .val (.int (f_un (f_cp xp0))), .val (.int ((f_un (f_cp xp0)) + (f_un (f_cp xp1)))), .val (.int (((f_un (f_cp xp0)) + (f_un (f_cp xp1))) + (f_un (f_cp xp2)))), .val (.int (2 : Int32)), .val (.int (1 : Int32)), .val (.int (1 : Int32)), .val (.int (2 : Int32)), .val (.int z5), .val (.int z6), .val (.int (((f_un (f_cp xp0)) + (f_un (f_cp xp1))) - (f_un (f_cp xp0))))] rfl 168 rfl ?_
      refine o_aload X58 at_168 rfl rfl 170 rfl ?_
      refine o_iload X58 at_170 rfl 172 rfl ?_
      refine o_iload X58 at_172 rfl 174 rfl ?_
      refine o_callS X58 at_174 (rest := []) (c_cc l Z a0 hw [] n0 _ X58.size b4 z5 z6 vs7 [] H7 (0 + ln5) (ln6) (by have := hz5; omega) (by have := hz6; omega) (by omega) (by omega)) (hw _ (List.mem_of_getElem? (i := 25) rfl)) (hw _ (List.mem_of_getElem? (i := 26) rfl)) (hw _ (List.mem_of_getElem? (i := 27) rfl)) (hw _ (List.mem_of_getElem? (i := 28) rfl)) (by decide) 0 (by decide) (by decide) rfl [(.ref b4), (.int z5), (.int z6)] rfl pd_7 rfl rfl (Nat.le_of_eq rfl) 1 12 rfl rfl (by decide) (by decide) 177 rfl ?_
      rintro _ T59 _ X59 ⟨rfl, rfl⟩
      show OE p e room_1 below s n0 Q' T59 (mkF m 177 #[.val (.int xp0), .val (.int xp1), .val (.int xp2), .val (.int xs), .val (.int (f_cp xp0)), .val (.int (f_cp xp1)), .val (.int (f_cp xp2)), .val (.ref b4), .val (.int z5), .val (.int z6), .val (.int z7), .val (.int (f_un (f_cp xp0))), .val (.int ((f_un (f_cp xp0)) + (f_un (f_cp xp1)))), .val (.int (((f_un (f_cp xp0)) + (f_un (f_cp xp1))) + (f_un (f_cp xp2)))), .val (.int (2 : Int32)), .val (.int (1 : Int32)), .val (.int (1 : Int32)), .val (.int (2 : Int32)), .val (.int z5), .val (.int z6), .val (.int (((f_un (f_cp xp0)) + (f_un (f_cp xp1))) - (f_un (f_cp xp0))))] [(.int (f_cnt vs7 (0 + ln5) (ln6)))])
      refine o_iload X59 at_177 rfl 179 rfl ?_
      refine o_icmpNe X59 at_179 186 182 (by decide) (by decide) rfl (fun q => by exfalso; apply q; rw [B2 _ (by omega)]; grind) ?_
      intro hc179
      refine o_iconst (v := (1 : Int32)) X59 at_182 rfl 183 rfl ?_
      refine o_goto X59 at_183 187 (by decide) (by decide) ?_
      exact o_retZ X59 at_187 (by decide) (by decide) (hQ _ _ rfl)
    · rw [hv]
      refine o_iload X10 at_95 rfl 97 rfl ?_
      refine o_iload X10 at_97 rfl 99 rfl ?_
      refine o_callS X10 at_99 (rest := []) (c_min l Z a0 hw [] n0 _ X10.size (3 : Int32) (1 : Int32) ) (hw _ (List.mem_of_getElem? (i := 15) rfl)) (hw _ (List.mem_of_getElem? (i := 16) rfl)) (hw _ (List.mem_of_getElem? (i := 17) rfl)) (hw _ (List.mem_of_getElem? (i := 18) rfl)) (by decide) 0 (by decide) (by decide) rfl [(.int (3 : Int32)), (.int (1 : Int32))] rfl pd_4 rfl rfl (Nat.le_of_eq rfl) 1 12 rfl rfl (by decide) (by decide) 102 rfl ?_
      rintro _ T60 _ X60 ⟨rfl, rfl⟩
      rw [show (f_min (3 : Int32) (1 : Int32)) = (1 : Int32) from rfl]
      show OE p e room_1 below s n0 Q' T60 (mkF m 102 #[.val (.int xp0), .val (.int xp1), .val (.int xp2), .val (.int xs), .val (.int (f_cp xp0)), .val (.int (f_cp xp1)), .val (.int (f_cp xp2)), .val (.ref b4), .val (.int z5), .val (.int z6), .val (.int z7), .val (.int (f_un (f_cp xp0))), .val (.int ((f_un (f_cp xp0)) + (f_un (f_cp xp1)))), .val (.int (((f_un (f_cp xp0)) + (f_un (f_cp xp1))) + (f_un (f_cp xp2)))), .val (.int (3 : Int32)), .val (.int (1 : Int32)), .unset, .unset, .unset, .unset, .unset] [(.int (1 : Int32))])
      refine o_istore X60 at_102 #[.val (.int xp0), .val (.int xp1), .val (.int xp2), .val (.int xs), .val (.int (f_cp xp0)), .val (.int (f_cp xp1)), .val (.int (f_cp xp2)), .val (.ref b4), .val (.int z5), .val (.int z6), .val (.int z7), .val (.int (f_un (f_cp xp0))), .val (.int ((f_un (f_cp xp0)) + (f_un (f_cp xp1)))), .val (.int (((f_un (f_cp xp0)) + (f_un (f_cp xp1))) + (f_un (f_cp xp2)))), .val (.int (3 : Int32)), .val (.int (1 : Int32)), .val (.int (1 : Int32)), .unset, .unset, .unset, .unset] rfl 104 rfl ?_
      refine o_iload X60 at_104 rfl 106 rfl ?_
      refine o_iload X60 at_106 rfl 108 rfl ?_
      refine o_callS X60 at_108 (rest := []) (c_max l Z a0 hw [] n0 _ X60.size (3 : Int32) (1 : Int32) ) (hw _ (List.mem_of_getElem? (i := 19) rfl)) (hw _ (List.mem_of_getElem? (i := 20) rfl)) (hw _ (List.mem_of_getElem? (i := 17) rfl)) (hw _ (List.mem_of_getElem? (i := 21) rfl)) (by decide) 0 (by decide) (by decide) rfl [(.int (3 : Int32)), (.int (1 : Int32))] rfl pd_5 rfl rfl (Nat.le_of_eq rfl) 1 12 rfl rfl (by decide) (by decide) 111 rfl ?_
      rintro _ T61 _ X61 ⟨rfl, rfl⟩
      rw [show (f_max (3 : Int32) (1 : Int32)) = (3 : Int32) from rfl]
      show OE p e room_1 below s n0 Q' T61 (mkF m 111 #[.val (.int xp0), .val (.int xp1), .val (.int xp2), .val (.int xs), .val (.int (f_cp xp0)), .val (.int (f_cp xp1)), .val (.int (f_cp xp2)), .val (.ref b4), .val (.int z5), .val (.int z6), .val (.int z7), .val (.int (f_un (f_cp xp0))), .val (.int ((f_un (f_cp xp0)) + (f_un (f_cp xp1)))), .val (.int (((f_un (f_cp xp0)) + (f_un (f_cp xp1))) + (f_un (f_cp xp2)))), .val (.int (3 : Int32)), .val (.int (1 : Int32)), .val (.int (1 : Int32)), .unset, .unset, .unset, .unset] [(.int (3 : Int32))])
      refine o_istore X61 at_111 #[.val (.int xp0), .val (.int xp1), .val (.int xp2), .val (.int xs), .val (.int (f_cp xp0)), .val (.int (f_cp xp1)), .val (.int (f_cp xp2)), .val (.ref b4), .val (.int z5), .val (.int z6), .val (.int z7), .val (.int (f_un (f_cp xp0))), .val (.int ((f_un (f_cp xp0)) + (f_un (f_cp xp1)))), .val (.int (((f_un (f_cp xp0)) + (f_un (f_cp xp1))) + (f_un (f_cp xp2)))), .val (.int (3 : Int32)), .val (.int (1 : Int32)), .val (.int (1 : Int32)), .val (.int (3 : Int32)), .unset, .unset, .unset] rfl 113 rfl ?_
      refine o_iload X61 at_113 rfl 115 rfl ?_
      refine o_iconst (v := (0 : Int32)) X61 at_115 rfl 116 rfl ?_
      refine o_iload X61 at_116 rfl 118 rfl ?_
      refine o_iload X61 at_118 rfl 120 rfl ?_
      refine o_iload X61 at_120 rfl 122 rfl ?_
      refine o_callS X61 at_122 (rest := []) (c_pick l Z a0 hw [] n0 _ X61.size (1 : Int32) (0 : Int32) z5 z6 z7 ) (hw _ (List.mem_of_getElem? (i := 22) rfl)) (hw _ (List.mem_of_getElem? (i := 23) rfl)) (hw _ (List.mem_of_getElem? (i := 2) rfl)) (hw _ (List.mem_of_getElem? (i := 24) rfl)) (by decide) 0 (by decide) (by decide) rfl [(.int (1 : Int32)), (.int (0 : Int32)), (.int z5), (.int z6), (.int z7)] rfl pd_6 rfl rfl (Nat.le_of_eq rfl) 1 12 rfl rfl (by decide) (by decide) 125 rfl ?_
      rintro _ T62 _ X62 ⟨rfl, rfl⟩
      rw [show (f_pick (1 : Int32) (0 : Int32) z5 z6 z7) = z5 from rfl]
      show OE p e room_1 below s n0 Q' T62 (mkF m 125 #[.val (.int xp0), .val (.int xp1), .val (.int xp2), .val (.int xs), .val (.int (f_cp xp0)), .val (.int (f_cp xp1)), .val (.int (f_cp xp2)), .val (.ref b4), .val (.int z5), .val (.int z6), .val (.int z7), .val (.int (f_un (f_cp xp0))), .val (.int ((f_un (f_cp xp0)) + (f_un (f_cp xp1)))), .val (.int (((f_un (f_cp xp0)) + (f_un (f_cp xp1))) + (f_un (f_cp xp2)))), .val (.int (3 : Int32)), .val (.int (1 : Int32)), .val (.int (1 : Int32)), .val (.int (3 : Int32)), .unset, .unset, .unset] [(.int z5)])
      refine o_istore X62 at_125 #[.val (.int xp0), .val (.int xp1), .val (.int xp2), .val (.int xs), .val (.int (f_cp xp0)), .val (.int (f_cp xp1)), .val (.int (f_cp xp2)), .val (.ref b4), .val (.int z5), .val (.int z6), .val (.int z7), .val (.int (f_un (f_cp xp0))), .val (.int ((f_un (f_cp xp0)) + (f_un (f_cp xp1)))), .val (.int (((f_un (f_cp xp0)) + (f_un (f_cp xp1))) + (f_un (f_cp xp2)))), .val (.int (3 : Int32)), .val (.int (1 : Int32)), .val (.int (1 : Int32)), .val (.int (3 : Int32)), .val (.int z5), .unset, .unset] rfl 127 rfl ?_
      refine o_iload X62 at_127 rfl 129 rfl ?_
      refine o_iconst (v := (0 : Int32)) X62 at_129 rfl 130 rfl ?_
      refine o_iload X62 at_130 rfl 132 rfl ?_
      refine o_iload X62 at_132 rfl 134 rfl ?_
      refine o_iload X62 at_134 rfl 136 rfl ?_
      refine o_callS X62 at_136 (rest := []) (c_pick l Z a0 hw [] n0 _ X62.size (3 : Int32) (0 : Int32) z5 z6 z7 ) (hw _ (List.mem_of_getElem? (i := 22) rfl)) (hw _ (List.mem_of_getElem? (i := 23) rfl)) (hw _ (List.mem_of_getElem? (i := 2) rfl)) (hw _ (List.mem_of_getElem? (i := 24) rfl)) (by decide) 0 (by decide) (by decide) rfl [(.int (3 : Int32)), (.int (0 : Int32)), (.int z5), (.int z6), (.int z7)] rfl pd_6 rfl rfl (Nat.le_of_eq rfl) 1 12 rfl rfl (by decide) (by decide) 139 rfl ?_
      rintro _ T63 _ X63 ⟨rfl, rfl⟩
      rw [show (f_pick (3 : Int32) (0 : Int32) z5 z6 z7) = z7 from rfl]
      show OE p e room_1 below s n0 Q' T63 (mkF m 139 #[.val (.int xp0), .val (.int xp1), .val (.int xp2), .val (.int xs), .val (.int (f_cp xp0)), .val (.int (f_cp xp1)), .val (.int (f_cp xp2)), .val (.ref b4), .val (.int z5), .val (.int z6), .val (.int z7), .val (.int (f_un (f_cp xp0))), .val (.int ((f_un (f_cp xp0)) + (f_un (f_cp xp1)))), .val (.int (((f_un (f_cp xp0)) + (f_un (f_cp xp1))) + (f_un (f_cp xp2)))), .val (.int (3 : Int32)), .val (.int (1 : Int32)), .val (.int (1 : Int32)), .val (.int (3 : Int32)), .val (.int z5), .unset, .unset] [(.int z7)])
      refine o_istore X63 at_139 #[.val (.int xp0), .val (.int xp1), .val (.int xp2), .val (.int xs), .val (.int (f_cp xp0)), .val (.int (f_cp xp1)), .val (.int (f_cp xp2)), .val (.ref b4), .val (.int z5), .val (.int z6), .val (.int z7), .val (.int (f_un (f_cp xp0))), .val (.int ((f_un (f_cp xp0)) + (f_un (f_cp xp1)))), .val (.int (((f_un (f_cp xp0)) + (f_un (f_cp xp1))) + (f_un (f_cp xp2)))), .val (.int (3 : Int32)), .val (.int (1 : Int32)), .val (.int (1 : Int32)), .val (.int (3 : Int32)), .val (.int z5), .val (.int z7), .unset] rfl 141 rfl ?_
      refine o_iload X63 at_141 rfl 143 rfl ?_
      refine o_iconst (v := (0 : Int32)) X63 at_143 rfl 144 rfl ?_
      refine o_iload X63 at_144 rfl 146 rfl ?_
      refine o_iload X63 at_146 rfl 148 rfl ?_
      refine o_iload X63 at_148 rfl 150 rfl ?_
      refine o_callS X63 at_150 (rest := []) (c_pick l Z a0 hw [] n0 _ X63.size (3 : Int32) (0 : Int32) (f_un (f_cp xp0)) ((f_un (f_cp xp0)) + (f_un (f_cp xp1))) (((f_un (f_cp xp0)) + (f_un (f_cp xp1))) + (f_un (f_cp xp2))) ) (hw _ (List.mem_of_getElem? (i := 22) rfl)) (hw _ (List.mem_of_getElem? (i := 23) rfl)) (hw _ (List.mem_of_getElem? (i := 2) rfl)) (hw _ (List.mem_of_getElem? (i := 24) rfl)) (by decide) 0 (by decide) (by decide) rfl [(.int (3 : Int32)), (.int (0 : Int32)), (.int (f_un (f_cp xp0))), (.int ((f_un (f_cp xp0)) + (f_un (f_cp xp1)))), (.int (((f_un (f_cp xp0)) + (f_un (f_cp xp1))) + (f_un (f_cp xp2))))] rfl pd_6 rfl rfl (Nat.le_of_eq rfl) 1 12 rfl rfl (by decide) (by decide) 153 rfl ?_
      rintro _ T64 _ X64 ⟨rfl, rfl⟩
      rw [show (f_pick (3 : Int32) (0 : Int32) (f_un (f_cp xp0)) ((f_un (f_cp xp0)) + (f_un (f_cp xp1))) (((f_un (f_cp xp0)) + (f_un (f_cp xp1))) + (f_un (f_cp xp2)))) = (((f_un (f_cp xp0)) + (f_un (f_cp xp1))) + (f_un (f_cp xp2))) from rfl]
      show OE p e room_1 below s n0 Q' T64 (mkF m 153 #[.val (.int xp0), .val (.int xp1), .val (.int xp2), .val (.int xs), .val (.int (f_cp xp0)), .val (.int (f_cp xp1)), .val (.int (f_cp xp2)), .val (.ref b4), .val (.int z5), .val (.int z6), .val (.int z7), .val (.int (f_un (f_cp xp0))), .val (.int ((f_un (f_cp xp0)) + (f_un (f_cp xp1)))), .val (.int (((f_un (f_cp xp0)) + (f_un (f_cp xp1))) + (f_un (f_cp xp2)))), .val (.int (3 : Int32)), .val (.int (1 : Int32)), .val (.int (1 : Int32)), .val (.int (3 : Int32)), .val (.int z5), .val (.int z7), .unset] [(.int (((f_un (f_cp xp0)) + (f_un (f_cp xp1))) + (f_un (f_cp xp2))))])
      refine o_iload X64 at_153 rfl 155 rfl ?_
      refine o_iconst (v := (0 : Int32)) X64 at_155 rfl 156 rfl ?_
      refine o_iload X64 at_156 rfl 158 rfl ?_
      refine o_iload X64 at_158 rfl 160 rfl ?_
      refine o_iload X64 at_160 rfl 162 rfl ?_
      refine o_callS X64 at_162 (rest := [(.int (((f_un (f_cp xp0)) + (f_un (f_cp xp1))) + (f_un (f_cp xp2))))]) (c_pick l Z a0 hw [] n0 _ X64.size (1 : Int32) (0 : Int32) (f_un (f_cp xp0)) ((f_un (f_cp xp0)) + (f_un (f_cp xp1))) (((f_un (f_cp xp0)) + (f_un (f_cp xp1))) + (f_un (f_cp xp2))) ) (hw _ (List.mem_of_getElem? (i := 22) rfl)) (hw _ (List.mem_of_getElem? (i := 23) rfl)) (hw _ (List.mem_of_getElem? (i := 2) rfl)) (hw _ (List.mem_of_getElem? (i := 24) rfl)) (by decide) 1 (by decide) (by decide) rfl [(.int (1 : Int32)), (.int (0 : Int32)), (.int (f_un (f_cp xp0))), (.int ((f_un (f_cp xp0)) + (f_un (f_cp xp1)))), (.int (((f_un (f_cp xp0)) + (f_un (f_cp xp1))) + (f_un (f_cp xp2))))] rfl pd_6 rfl rfl (Nat.le_of_eq rfl) 1 12 rfl rfl (by decide) (by decide) 165 rfl ?_
      rintro _ T65 _ X65 ⟨rfl, rfl⟩
      rw [show (f_pick (1 : Int32) (0 : Int32) (f_un (f_cp xp0)) ((f_un (f_cp xp0)) + (f_un (f_cp xp1))) (((f_un (f_cp xp0)) + (f_un (f_cp xp1))) + (f_un (f_cp xp2)))) = (f_un (f_cp xp0)) from rfl]
      show OE p e room_1 below s n0 Q' T65 (mkF m 165 #[.val (.int xp0), .val (.int xp1), .val (.int xp2), .val (.int xs), .val (.int (f_cp xp0)), .val (.int (f_cp xp1)), .val (.int (f_cp xp2)), .val (.ref b4), .val (.int z5), .val (.int z6), .val (.int z7), .val (.int (f_un (f_cp xp0))), .val (.int ((f_un (f_cp xp0)) + (f_un (f_cp xp1)))), .val (.int (((f_un (f_cp xp0)) + (f_un (f_cp xp1))) + (f_un (f_cp xp2)))), .val (.int (3 : Int32)), .val (.int (1 : Int32)), .val (.int (1 : Int32)), .val (.int (3 : Int32)), .val (.int z5), .val (.int z7), .unset] [(.int (f_un (f_cp xp0))), (.int (((f_un (f_cp xp0)) + (f_un (f_cp xp1))) + (f_un (f_cp xp2))))])
      refine o_isub X65 at_165 166 rfl ?_
      refine o_istore X65 at_166 #[.val (.int xp0), .val (.int xp1), .val (.int xp2), .val (.int xs), .val (.int (f_cp xp0)), .val (.int (f_cp xp1)), .val (.int (f_cp xp2)), .val (.ref b4), .val (.int z5), .val (.int z6), .val (.int z7), .val (.int (f_un (f_cp xp0))), .val (.int ((f_un (f_cp xp0)) + (f_un (f_cp xp1)))), .val (.int (((f_un (f_cp xp0)) + (f_un (f_cp xp1))) + (f_un (f_cp xp2)))), .val (.int (3 : Int32)), .val (.int (1 : Int32)), .val (.int (1 : Int32)), .val (.int (3 : Int32)), .val (.int z5), .val (.int z7), .val (.int ((((f_un (f_cp xp0)) + (f_un (f_cp xp1))) + (f_un (f_cp xp2))) - (f_un (f_cp xp0))))] rfl 168 rfl ?_
      refine o_aload X65 at_168 rfl rfl 170 rfl ?_
      refine o_iload X65 at_170 rfl 172 rfl ?_
      refine o_iload X65 at_172 rfl 174 rfl ?_
      refine o_callS X65 at_174 (rest := []) (c_cc l Z a0 hw [] n0 _ X65.size b4 z5 z7 vs7 [] H7 (0 + ln5) (ln6 + ln7) (by have := hz5; omega) (by have := hz7; omega) (by omega) (by omega)) (hw _ (List.mem_of_getElem? (i := 25) rfl)) (hw _ (List.mem_of_getElem? (i := 26) rfl)) (hw _ (List.mem_of_getElem? (i := 27) rfl)) (hw _ (List.mem_of_getElem? (i := 28) rfl)) (by decide) 0 (by decide) (by decide) rfl [(.ref b4), (.int z5), (.int z7)] rfl pd_7 rfl rfl (Nat.le_of_eq rfl) 1 12 rfl rfl (by decide) (by decide) 177 rfl ?_
      rintro _ T66 _ X66 ⟨rfl, rfl⟩
      show OE p e room_1 below s n0 Q' T66 (mkF m 177 #[.val (.int xp0), .val (.int xp1), .val (.int xp2), .val (.int xs), .val (.int (f_cp xp0)), .val (.int (f_cp xp1)), .val (.int (f_cp xp2)), .val (.ref b4), .val (.int z5), .val (.int z6), .val (.int z7), .val (.int (f_un (f_cp xp0))), .val (.int ((f_un (f_cp xp0)) + (f_un (f_cp xp1)))), .val (.int (((f_un (f_cp xp0)) + (f_un (f_cp xp1))) + (f_un (f_cp xp2)))), .val (.int (3 : Int32)), .val (.int (1 : Int32)), .val (.int (1 : Int32)), .val (.int (3 : Int32)), .val (.int z5), .val (.int z7), .val (.int ((((f_un (f_cp xp0)) + (f_un (f_cp xp1))) + (f_un (f_cp xp2))) - (f_un (f_cp xp0))))] [(.int (f_cnt vs7 (0 + ln5) (ln6 + ln7)))])
      refine o_iload X66 at_177 rfl 179 rfl ?_
      refine o_icmpNe X66 at_179 186 182 (by decide) (by decide) rfl (fun q => by exfalso; apply q; rw [v_cnt_add, B2 _ (by omega), B3 _ (by omega)]; grind) ?_
      intro hc179
      refine o_iconst (v := (1 : Int32)) X66 at_182 rfl 183 rfl ?_
      refine o_goto X66 at_183 187 (by decide) (by decide) ?_
      exact o_retZ X66 at_187 (by decide) (by decide) (hQ _ _ rfl)
  · rw [hv]
    rcases v_k xs with hv | hv | hv | hv
    · rw [hv]
      refine o_iload X10 at_95 rfl 97 rfl ?_
      refine o_iload X10 at_97 rfl 99 rfl ?_
      refine o_callS X10 at_99 (rest := []) (c_min l Z a0 hw [] n0 _ X10.size (0 : Int32) (2 : Int32) ) (hw _ (List.mem_of_getElem? (i := 15) rfl)) (hw _ (List.mem_of_getElem? (i := 16) rfl)) (hw _ (List.mem_of_getElem? (i := 17) rfl)) (hw _ (List.mem_of_getElem? (i := 18) rfl)) (by decide) 0 (by decide) (by decide) rfl [(.int (0 : Int32)), (.int (2 : Int32))] rfl pd_4 rfl rfl (Nat.le_of_eq rfl) 1 12 rfl rfl (by decide) (by decide) 102 rfl ?_
      rintro _ T67 _ X67 ⟨rfl, rfl⟩
      rw [show (f_min (0 : Int32) (2 : Int32)) = (0 : Int32) from rfl]
      show OE p e room_1 below s n0 Q' T67 (mkF m 102 #[.val (.int xp0), .val (.int xp1), .val (.int xp2), .val (.int xs), .val (.int (f_cp xp0)), .val (.int (f_cp xp1)), .val (.int (f_cp xp2)), .val (.ref b4), .val (.int z5), .val (.int z6), .val (.int z7), .val (.int (f_un (f_cp xp0))), .val (.int ((f_un (f_cp xp0)) + (f_un (f_cp xp1)))), .val (.int (((f_un (f_cp xp0)) + (f_un (f_cp xp1))) + (f_un (f_cp xp2)))), .val (.int (0 : Int32)), .val (.int (2 : Int32)), .unset, .unset, .unset, .unset, .unset] [(.int (0 : Int32))])
      refine o_istore X67 at_102 #[.val (.int xp0), .val (.int xp1), .val (.int xp2), .val (.int xs), .val (.int (f_cp xp0)), .val (.int (f_cp xp1)), .val (.int (f_cp xp2)), .val (.ref b4), .val (.int z5), .val (.int z6), .val (.int z7), .val (.int (f_un (f_cp xp0))), .val (.int ((f_un (f_cp xp0)) + (f_un (f_cp xp1)))), .val (.int (((f_un (f_cp xp0)) + (f_un (f_cp xp1))) + (f_un (f_cp xp2)))), .val (.int (0 : Int32)), .val (.int (2 : Int32)), .val (.int (0 : Int32)), .unset, .unset, .unset, .unset] rfl 104 rfl ?_
      refine o_iload X67 at_104 rfl 106 rfl ?_
      refine o_iload X67 at_106 rfl 108 rfl ?_
      refine o_callS X67 at_108 (rest := []) (c_max l Z a0 hw [] n0 _ X67.size (0 : Int32) (2 : Int32) ) (hw _ (List.mem_of_getElem? (i := 19) rfl)) (hw _ (List.mem_of_getElem? (i := 20) rfl)) (hw _ (List.mem_of_getElem? (i := 17) rfl)) (hw _ (List.mem_of_getElem? (i := 21) rfl)) (by decide) 0 (by decide) (by decide) rfl [(.int (0 : Int32)), (.int (2 : Int32))] rfl pd_5 rfl rfl (Nat.le_of_eq rfl) 1 12 rfl rfl (by decide) (by decide) 111 rfl ?_
      rintro _ T68 _ X68 ⟨rfl, rfl⟩
      rw [show (f_max (0 : Int32) (2 : Int32)) = (2 : Int32) from rfl]
      show OE p e room_1 below s n0 Q' T68 (mkF m 111 #[.val (.int xp0), .val (.int xp1), .val (.int xp2), .val (.int xs), .val (.int (f_cp xp0)), .val (.int (f_cp xp1)), .val (.int (f_cp xp2)), .val (.ref b4), .val (.int z5), .val (.int z6), .val (.int z7), .val (.int (f_un (f_cp xp0))), .val (.int ((f_un (f_cp xp0)) + (f_un (f_cp xp1)))), .val (.int (((f_un (f_cp xp0)) + (f_un (f_cp xp1))) + (f_un (f_cp xp2)))), .val (.int (0 : Int32)), .val (.int (2 : Int32)), .val (.int (0 : Int32)), .unset, .unset, .unset, .unset] [(.int (2 : Int32))])
      refine o_istore X68 at_111 #[.val (.int xp0), .val (.int xp1), .val (.int xp2), .val (.int xs), .val (.int (f_cp xp0)), .val (.int (f_cp xp1)), .val (.int (f_cp xp2)), .val (.ref b4), .val (.int z5), .val (.int z6), .val (.int z7), .val (.int (f_un (f_cp xp0))), .val (.int ((f_un (f_cp xp0)) + (f_un (f_cp xp1)))), .val (.int (((f_un (f_cp xp0)) + (f_un (f_cp xp1))) + (f_un (f_cp xp2)))), .val (.int (0 : Int32)), .val (.int (2 : Int32)), .val (.int (0 : Int32)), .val (.int (2 : Int32)), .unset, .unset, .unset] rfl 113 rfl ?_
      refine o_iload X68 at_113 rfl 115 rfl ?_
      refine o_iconst (v := (0 : Int32)) X68 at_115 rfl 116 rfl ?_
      refine o_iload X68 at_116 rfl 118 rfl ?_
      refine o_iload X68 at_118 rfl 120 rfl ?_
      refine o_iload X68 at_120 rfl 122 rfl ?_
      refine o_callS X68 at_122 (rest := []) (c_pick l Z a0 hw [] n0 _ X68.size (0 : Int32) (0 : Int32) z5 z6 z7 ) (hw _ (List.mem_of_getElem? (i := 22) rfl)) (hw _ (List.mem_of_getElem? (i := 23) rfl)) (hw _ (List.mem_of_getElem? (i := 2) rfl)) (hw _ (List.mem_of_getElem? (i := 24) rfl)) (by decide) 0 (by decide) (by decide) rfl [(.int (0 : Int32)), (.int (0 : Int32)), (.int z5), (.int z6), (.int z7)] rfl pd_6 rfl rfl (Nat.le_of_eq rfl) 1 12 rfl rfl (by decide) (by decide) 125 rfl ?_
      rintro _ T69 _ X69 ⟨rfl, rfl⟩
      rw [show (f_pick (0 : Int32) (0 : Int32) z5 z6 z7) = (0 : Int32) from rfl]
      show OE p e room_1 below s n0 Q' T69 (mkF m 125 #[.val (.int xp0), .val (.int xp1), .val (.int xp2), .val (.int xs), .val (.int (f_cp xp0)), .val (.int (f_cp xp1)), .val (.int (f_cp xp2)), .val (.ref b4), .val (.int z5), .val (.int z6), .val (.int z7), .val (.int (f_un (f_cp xp0))), .val (.int ((f_un (f_cp xp0)) + (f_un (f_cp xp1)))), .val (.int (((f_un (f_cp xp0)) + (f_un (f_cp xp1))) + (f_un (f_cp xp2)))), .val (.int (0 : Int32)), .val (.int (2 : Int32)), .val (.int (0 : Int32)), .val (.int (2 : Int32)), .unset, .unset, .unset] [(.int (0 : Int32))])
      refine o_istore X69 at_125 #[.val (.int xp0), .val (.int xp1), .val (.int xp2), .val (.int xs), .val (.int (f_cp xp0)), .val (.int (f_cp xp1)), .val (.int (f_cp xp2)), .val (.ref b4), .val (.int z5), .val (.int z6), .val (.int z7), .val (.int (f_un (f_cp xp0))), .val (.int ((f_un (f_cp xp0)) + (f_un (f_cp xp1)))), .val (.int (((f_un (f_cp xp0)) + (f_un (f_cp xp1))) + (f_un (f_cp xp2)))), .val (.int (0 : Int32)), .val (.int (2 : Int32)), .val (.int (0 : Int32)), .val (.int (2 : Int32)), .val (.int (0 : Int32)), .unset, .unset] rfl 127 rfl ?_
      refine o_iload X69 at_127 rfl 129 rfl ?_
      refine o_iconst (v := (0 : Int32)) X69 at_129 rfl 130 rfl ?_
      refine o_iload X69 at_130 rfl 132 rfl ?_
      refine o_iload X69 at_132 rfl 134 rfl ?_
      refine o_iload X69 at_134 rfl 136 rfl ?_
      refine o_callS X69 at_136 (rest := []) (c_pick l Z a0 hw [] n0 _ X69.size (2 : Int32) (0 : Int32) z5 z6 z7 ) (hw _ (List.mem_of_getElem? (i := 22) rfl)) (hw _ (List.mem_of_getElem? (i := 23) rfl)) (hw _ (List.mem_of_getElem? (i := 2) rfl)) (hw _ (List.mem_of_getElem? (i := 24) rfl)) (by decide) 0 (by decide) (by decide) rfl [(.int (2 : Int32)), (.int (0 : Int32)), (.int z5), (.int z6), (.int z7)] rfl pd_6 rfl rfl (Nat.le_of_eq rfl) 1 12 rfl rfl (by decide) (by decide) 139 rfl ?_
      rintro _ T70 _ X70 ⟨rfl, rfl⟩
      rw [show (f_pick (2 : Int32) (0 : Int32) z5 z6 z7) = z6 from rfl]
      show OE p e room_1 below s n0 Q' T70 (mkF m 139 #[.val (.int xp0), .val (.int xp1), .val (.int xp2), .val (.int xs), .val (.int (f_cp xp0)), .val (.int (f_cp xp1)), .val (.int (f_cp xp2)), .val (.ref b4), .val (.int z5), .val (.int z6), .val (.int z7), .val (.int (f_un (f_cp xp0))), .val (.int ((f_un (f_cp xp0)) + (f_un (f_cp xp1)))), .val (.int (((f_un (f_cp xp0)) + (f_un (f_cp xp1))) + (f_un (f_cp xp2)))), .val (.int (0 : Int32)), .val (.int (2 : Int32)), .val (.int (0 : Int32)), .val (.int (2 : Int32)), .val (.int (0 : Int32)), .unset, .unset] [(.int z6)])
      refine o_istore X70 at_139 #[.val (.int xp0), .val (.int xp1), .val (.int xp2), .val (.int xs), .val (.int (f_cp xp0)), .val (.int (f_cp xp1)), .val (.int (f_cp xp2)), .val (.ref b4), .val (.int z5), .val (.int z6), .val (.int z7), .val (.int (f_un (f_cp xp0))), .val (.int ((f_un (f_cp xp0)) + (f_un (f_cp xp1)))), .val (.int (((f_un (f_cp xp0)) + (f_un (f_cp xp1))) + (f_un (f_cp xp2)))), .val (.int (0 : Int32)), .val (.int (2 : Int32)), .val (.int (0 : Int32)), .val (.int (2 : Int32)), .val (.int (0 : Int32)), .val (.int z6), .unset] rfl 141 rfl ?_
      refine o_iload X70 at_141 rfl 143 rfl ?_
      refine o_iconst (v := (0 : Int32)) X70 at_143 rfl 144 rfl ?_
      refine o_iload X70 at_144 rfl 146 rfl ?_
      refine o_iload X70 at_146 rfl 148 rfl ?_
      refine o_iload X70 at_148 rfl 150 rfl ?_
      refine o_callS X70 at_150 (rest := []) (c_pick l Z a0 hw [] n0 _ X70.size (2 : Int32) (0 : Int32) (f_un (f_cp xp0)) ((f_un (f_cp xp0)) + (f_un (f_cp xp1))) (((f_un (f_cp xp0)) + (f_un (f_cp xp1))) + (f_un (f_cp xp2))) ) (hw _ (List.mem_of_getElem? (i := 22) rfl)) (hw _ (List.mem_of_getElem? (i := 23) rfl)) (hw _ (List.mem_of_getElem? (i := 2) rfl)) (hw _ (List.mem_of_getElem? (i := 24) rfl)) (by decide) 0 (by decide) (by decide) rfl [(.int (2 : Int32)), (.int (0 : Int32)), (.int (f_un (f_cp xp0))), (.int ((f_un (f_cp xp0)) + (f_un (f_cp xp1)))), (.int (((f_un (f_cp xp0)) + (f_un (f_cp xp1))) + (f_un (f_cp xp2))))] rfl pd_6 rfl rfl (Nat.le_of_eq rfl) 1 12 rfl rfl (by decide) (by decide) 153 rfl ?_
      rintro _ T71 _ X71 ⟨rfl, rfl⟩
      rw [show (f_pick (2 : Int32) (0 : Int32) (f_un (f_cp xp0)) ((f_un (f_cp xp0)) + (f_un (f_cp xp1))) (((f_un (f_cp xp0)) + (f_un (f_cp xp1))) + (f_un (f_cp xp2)))) = ((f_un (f_cp xp0)) + (f_un (f_cp xp1))) from rfl]
      show OE p e room_1 below s n0 Q' T71 (mkF m 153 #[.val (.int xp0), .val (.int xp1), .val (.int xp2), .val (.int xs), .val (.int (f_cp xp0)), .val (.int (f_cp xp1)), .val (.int (f_cp xp2)), .val (.ref b4), .val (.int z5), .val (.int z6), .val (.int z7), .val (.int (f_un (f_cp xp0))), .val (.int ((f_un (f_cp xp0)) + (f_un (f_cp xp1)))), .val (.int (((f_un (f_cp xp0)) + (f_un (f_cp xp1))) + (f_un (f_cp xp2)))), .val (.int (0 : Int32)), .val (.int (2 : Int32)), .val (.int (0 : Int32)), .val (.int (2 : Int32)), .val (.int (0 : Int32)), .val (.int z6), .unset] [(.int ((f_un (f_cp xp0)) + (f_un (f_cp xp1))))])
      refine o_iload X71 at_153 rfl 155 rfl ?_
      refine o_iconst (v := (0 : Int32)) X71 at_155 rfl 156 rfl ?_
      refine o_iload X71 at_156 rfl 158 rfl ?_
      refine o_iload X71 at_158 rfl 160 rfl ?_
      refine o_iload X71 at_160 rfl 162 rfl ?_
      refine o_callS X71 at_162 (rest := [(.int ((f_un (f_cp xp0)) + (f_un (f_cp xp1))))]) (c_pick l Z a0 hw [] n0 _ X71.size (0 : Int32) (0 : Int32) (f_un (f_cp xp0)) ((f_un (f_cp xp0)) + (f_un (f_cp xp1))) (((f_un (f_cp xp0)) + (f_un (f_cp xp1))) + (f_un (f_cp xp2))) ) (hw _ (List.mem_of_getElem? (i := 22) rfl)) (hw _ (List.mem_of_getElem? (i := 23) rfl)) (hw _ (List.mem_of_getElem? (i := 2) rfl)) (hw _ (List.mem_of_getElem? (i := 24) rfl)) (by decide) 1 (by decide) (by decide) rfl [(.int (0 : Int32)), (.int (0 : Int32)), (.int (f_un (f_cp xp0))), (.int ((f_un (f_cp xp0)) + (f_un (f_cp xp1)))), (.int (((f_un (f_cp xp0)) + (f_un (f_cp xp1))) + (f_un (f_cp xp2))))] rfl pd_6 rfl rfl (Nat.le_of_eq rfl) 1 12 rfl rfl (by decide) (by decide) 165 rfl ?_
      rintro _ T72 _ X72 ⟨rfl, rfl⟩
      rw [show (f_pick (0 : Int32) (0 : Int32) (f_un (f_cp xp0)) ((f_un (f_cp xp0)) + (f_un (f_cp xp1))) (((f_un (f_cp xp0)) + (f_un (f_cp xp1))) + (f_un (f_cp xp2)))) = (0 : Int32) from rfl]
      show OE p e room_1 below s n0 Q' T72 (mkF m 165 #[.val (.int xp0), .val (.int xp1), .val (.int xp2), .val (.int xs), .val (.int (f_cp xp0)), .val (.int (f_cp xp1)), .val (.int (f_cp xp2)), .val (.ref b4), .val (.int z5), .val (.int z6), .val (.int z7), .val (.int (f_un (f_cp xp0))), .val (.int ((f_un (f_cp xp0)) + (f_un (f_cp xp1)))), .val (.int (((f_un (f_cp xp0)) + (f_un (f_cp xp1))) + (f_un (f_cp xp2)))), .val (.int (0 : Int32)), .val (.int (2 : Int32)), .val (.int (0 : Int32)), .val (.int (2 : Int32)), .val (.int (0 : Int32)), .val (.int z6), .unset] [(.int (0 : Int32)), (.int ((f_un (f_cp xp0)) + (f_un (f_cp xp1))))])
      refine o_isub X72 at_165 166 rfl ?_
      refine o_istore X72 at_166 #[.val (.int xp0), .val (.int xp1), .val (.int xp2), .val (.int xs), .val (.int (f_cp xp0)), .val (.int (f_cp xp1)), .val (.int (f_cp xp2)), .val (.ref b4), .val (.int z5), .val (.int z6), .val (.int z7), .val (.int (f_un (f_cp xp0))), .val (.int ((f_un (f_cp xp0)) + (f_un (f_cp xp1)))), .val (.int (((f_un (f_cp xp0)) + (f_un (f_cp xp1))) + (f_un (f_cp xp2)))), .val (.int (0 : Int32)), .val (.int (2 : Int32)), .val (.int (0 : Int32)), .val (.int (2 : Int32)), .val (.int (0 : Int32)), .val (.int z6), .val (.int (((f_un (f_cp xp0)) + (f_un (f_cp xp1))) - (0 : Int32)))] rfl 168 rfl ?_
      refine o_aload X72 at_168 rfl rfl 170 rfl ?_
      refine o_iload X72 at_170 rfl 172 rfl ?_
      refine o_iload X72 at_172 rfl 174 rfl ?_
      refine o_callS X72 at_174 (rest := []) (c_cc l Z a0 hw [] n0 _ X72.size b4 (0 : Int32) z6 vs7 [] H7 0 (ln5 + ln6) rfl (by have := hz6; omega) (by omega) (by omega)) (hw _ (List.mem_of_getElem? (i := 25) rfl)) (hw _ (List.mem_of_getElem? (i := 26) rfl)) (hw _ (List.mem_of_getElem? (i := 27) rfl)) (hw _ (List.mem_of_getElem? (i := 28) rfl)) (by decide) 0 (by decide) (by decide) rfl [(.ref b4), (.int (0 : Int32)), (.int z6)] rfl pd_7 rfl rfl (Nat.le_of_eq rfl) 1 12 rfl rfl (by decide) (by decide) 177 rfl ?_
      rintro _ T73 _ X73 ⟨rfl, rfl⟩
      show OE p e room_1 below s n0 Q' T73 (mkF m 177 #[.val (.int xp0), .val (.int xp1), .val (.int xp2), .val (.int xs), .val (.int (f_cp xp0)), .val (.int (f_cp xp1)), .val (.int (f_cp xp2)), .val (.ref b4), .val (.int z5), .val (.int z6), .val (.int z7), .val (.int (f_un (f_cp xp0))), .val (.int ((f_un (f_cp xp0)) + (f_un (f_cp xp1)))), .val (.int (((f_un (f_cp xp0)) + (f_un (f_cp xp1))) + (f_un (f_cp xp2)))), .val (.int (0 : Int32)), .val (.int (2 : Int32)), .val (.int (0 : Int32)), .val (.int (2 : Int32)), .val (.int (0 : Int32)), .val (.int z6), .val (.int (((f_un (f_cp xp0)) + (f_un (f_cp xp1))) - (0 : Int32)))] [(.int (f_cnt vs7 0 (ln5 + ln6)))])
      refine o_iload X73 at_177 rfl 179 rfl ?_
      refine o_icmpNe X73 at_179 186 182 (by decide) (by decide) rfl (fun q => by exfalso; apply q; rw [v_cnt_add, B1 _ (by omega), B2 _ (by omega)]; grind) ?_
      intro hc179
      refine o_iconst (v := (1 : Int32)) X73 at_182 rfl 183 rfl ?_
      refine o_goto X73 at_183 187 (by decide) (by decide) ?_
      exact o_retZ X73 at_187 (by decide) (by decide) (hQ _ _ rfl)
    · rw [hv]
      refine o_iload X10 at_95 rfl 97 rfl ?_
      refine o_iload X10 at_97 rfl 99 rfl ?_
      refine o_callS X10 at_99 (rest := []) (c_min l Z a0 hw [] n0 _ X10.size (1 : Int32) (2 : Int32) ) (hw _ (List.mem_of_getElem? (i := 15) rfl)) (hw _ (List.mem_of_getElem? (i := 16) rfl)) (hw _ (List.mem_of_getElem? (i := 17) rfl)) (hw _ (List.mem_of_getElem? (i := 18) rfl)) (by decide) 0 (by decide) (by decide) rfl [(.int (1 : Int32)), (.int (2 : Int32))] rfl pd_4 rfl rfl (Nat.le_of_eq rfl) 1 12 rfl rfl (by decide) (by decide) 102 rfl ?_
      rintro _ T74 _ X74 ⟨rfl, rfl⟩
      rw [show (f_min (1 : Int32) (2 : Int32)) = (1 : Int32) from rfl]
      show OE p e room_1 below s n0 Q' T74 (mkF m 102 #[.val (.int xp0), .val (.int xp1), .val (.int xp2), .val (.int xs), .val (.int (f_cp xp0)), .val (.int (f_cp xp1)), .val (.int (f_cp xp2)), .val (.ref b4), .val (.int z5), .val (.int z6), .val (.int z7), .val (.int (f_un (f_cp xp0))), .val (.int ((f_un (f_cp xp0)) + (f_un (f_cp xp1)))), .val (.int (((f_un (f_cp xp0)) + (f_un (f_cp xp1))) + (f_un (f_cp xp2)))), .val (.int (1 : Int32)), .val (.int (2 : Int32)), .unset, .unset, .unset, .unset, .unset] [(.int (1 : Int32))])
      refine o_istore X74 at_102 #[.val (.int xp0), .val (.int xp1), .val (.int xp2), .val (.int xs), .val (.int (f_cp xp0)), .val (.int (f_cp xp1)), .val (.int (f_cp xp2)), .val (.ref b4), .val (.int z5), .val (.int z6), .val (.int z7), .val (.int (f_un (f_cp xp0))), .val (.int ((f_un (f_cp xp0)) + (f_un (f_cp xp1)))), .val (.int (((f_un (f_cp xp0)) + (f_un (f_cp xp1))) + (f_un (f_cp xp2)))), .val (.int (1 : Int32)), .val (.int (2 : Int32)), .val (.int (1 : Int32)), .unset, .unset, .unset, .unset] rfl 104 rfl ?_
      refine o_iload X74 at_104 rfl 106 rfl ?_
      refine o_iload X74 at_106 rfl 108 rfl ?_
      refine o_callS X74 at_108 (rest := []) (c_max l Z a0 hw [] n0 _ X74.size (1 : Int32) (2 : Int32) ) (hw _ (List.mem_of_getElem? (i := 19) rfl)) (hw _ (List.mem_of_getElem? (i := 20) rfl)) (hw _ (List.mem_of_getElem? (i := 17) rfl)) (hw _ (List.mem_of_getElem? (i := 21) rfl)) (by decide) 0 (by decide) (by decide) rfl [(.int (1 : Int32)), (.int (2 : Int32))] rfl pd_5 rfl rfl (Nat.le_of_eq rfl) 1 12 rfl rfl (by decide) (by decide) 111 rfl ?_
      rintro _ T75 _ X75 ⟨rfl, rfl⟩
      rw [show (f_max (1 : Int32) (2 : Int32)) = (2 : Int32) from rfl]
      show OE p e room_1 below s n0 Q' T75 (mkF m 111 #[.val (.int xp0), .val (.int xp1), .val (.int xp2), .val (.int xs), .val (.int (f_cp xp0)), .val (.int (f_cp xp1)), .val (.int (f_cp xp2)), .val (.ref b4), .val (.int z5), .val (.int z6), .val (.int z7), .val (.int (f_un (f_cp xp0))), .val (.int ((f_un (f_cp xp0)) + (f_un (f_cp xp1)))), .val (.int (((f_un (f_cp xp0)) + (f_un (f_cp xp1))) + (f_un (f_cp xp2)))), .val (.int (1 : Int32)), .val (.int (2 : Int32)), .val (.int (1 : Int32)), .unset, .unset, .unset, .unset] [(.int (2 : Int32))])
      refine o_istore X75 at_111 #[.val (.int xp0), .val (.int xp1), .val (.int xp2), .val (.int xs), .val (.int (f_cp xp0)), .val (.int (f_cp xp1)), .val (.int (f_cp xp2)), .val (.ref b4), .val (.int z5), .val (.int z6), .val (.int z7), .val (.int (f_un (f_cp xp0))), .val (.int ((f_un (f_cp xp0)) + (f_un (f_cp xp1)))), .val (.int (((f_un (f_cp xp0)) + (f_un (f_cp xp1))) + (f_un (f_cp xp2)))), .val (.int (1 : Int32)), .val (.int (2 : Int32)), .val (.int (1 : Int32)), .val (.int (2 : Int32)), .unset, .unset, .unset] rfl 113 rfl ?_
      refine o_iload X75 at_113 rfl 115 rfl ?_
      refine o_iconst (v := (0 : Int32)) X75 at_115 rfl 116 rfl ?_
      refine o_iload X75 at_116 rfl 118 rfl ?_
      refine o_iload X75 at_118 rfl 120 rfl ?_
      refine o_iload X75 at_120 rfl 122 rfl ?_
      refine o_callS X75 at_122 (rest := []) (c_pick l Z a0 hw [] n0 _ X75.size (1 : Int32) (0 : Int32) z5 z6 z7 ) (hw _ (List.mem_of_getElem? (i := 22) rfl)) (hw _ (List.mem_of_getElem? (i := 23) rfl)) (hw _ (List.mem_of_getElem? (i := 2) rfl)) (hw _ (List.mem_of_getElem? (i := 24) rfl)) (by decide) 0 (by decide) (by decide) rfl [(.int (1 : Int32)), (.int (0 : Int32)), (.int z5), (.int z6), (.int z7)] rfl pd_6 rfl rfl (Nat.le_of_eq rfl) 1 12 rfl rfl (by decide) (by decide) 125 rfl ?_
      rintro _ T76 _ X76 ⟨rfl, rfl⟩
      rw [show (f_pick (1 : Int32) (0 : Int32) z5 z6 z7) = z5 from rfl]
      show OE p e room_1 below s n0 Q' T76 (mkF m 125 #[.val (.int xp0), .val (.int xp1), .val (.int xp2), .val (.int xs), .val (.int (f_cp xp0)), .val (.int (f_cp xp1)), .val (.int (f_cp xp2)), .val (.ref b4), .val (.int z5), .val (.int z6), .val (.int z7), .val (.int (f_un (f_cp xp0))), .val (.int ((f_un (f_cp xp0)) + (f_un (f_cp xp1)))), .val (.int (((f_un (f_cp xp0)) + (f_un (f_cp xp1))) + (f_un (f_cp xp2)))), .val (.int (1 : Int32)), .val (.int (2 : Int32)), .val (.int (1 : Int32)), .val (.int (2 : Int32)), .unset, .unset, .unset] [(.int z5)])
      refine o_istore X76 at_125 #[.val (.int xp0), .val (.int xp1), .val (.int xp2), .val (.int xs), .val (.int (f_cp xp0)), .val (.int (f_cp xp1)), .val (.int (f_cp xp2)), .val (.ref b4), .val (.int z5), .val (.int z6), .val (.int z7), .val (.int (f_un (f_cp xp0))), .val (.int ((f_un (f_cp xp0)) + (f_un (f_cp xp1)))), .val (.int (((f_un (f_cp xp0)) + (f_un (f_cp xp1))) + (f_un (f_cp xp2)))), .val (.int (1 : Int32)), .val (.int (2 : Int32)), .val (.int (1 : Int32)), .val (.int (2 : Int32)), .val (.int z5), .unset, .unset] rfl 127 rfl ?_
      refine o_iload X76 at_127 rfl 129 rfl ?_
      refine o_iconst (v := (0 : Int32)) X76 at_129 rfl 130 rfl ?_
      refine o_iload X76 at_130 rfl 132 rfl ?_
      refine o_iload X76 at_132 rfl 134 rfl ?_
      refine o_iload X76 at_134 rfl 136 rfl ?_
      refine o_callS X76 at_136 (rest := []) (c_pick l Z a0 hw [] n0 _ X76.size (2 : Int32) (0 : Int32) z5 z6 z7 ) (hw _ (List.mem_of_getElem? (i := 22) rfl)) (hw _ (List.mem_of_getElem? (i := 23) rfl)) (hw _ (List.mem_of_getElem? (i := 2) rfl)) (hw _ (List.mem_of_getElem? (i := 24) rfl)) (by decide) 0 (by decide) (by decide) rfl [(.int (2 : Int32)), (.int (0 : Int32)), (.int z5), (.int z6), (.int z7)] rfl pd_6 rfl rfl (Nat.le_of_eq rfl) 1 12 rfl rfl (by decide) (by decide) 139 rfl ?_
      rintro _ T77 _ X77 ⟨rfl, rfl⟩
      rw [show (f_pick (2 : Int32) (0 : Int32) z5 z6 z7) = z6 from rfl]
      show OE p e room_1 below s n0 Q' T77 (mkF m 139 #[.val (.int xp0), .val (.int xp1), .val (.int xp2), .val (.int xs), .val (.int (f_cp xp0)), .val (.int (f_cp xp1)), .val (.int (f_cp xp2)), .val (.ref b4), .val (.int z5), .val (.int z6), .val (.int z7), .val (.int (f_un (f_cp xp0))), .val (.int ((f_un (f_cp xp0)) + (f_un (f_cp xp1)))), .val (.int (((f_un (f_cp xp0)) + (f_un (f_cp xp1))) + (f_un (f_cp xp2)))), .val (.int (1 : Int32)), .val (.int (2 : Int32)), .val (.int (1 : Int32)), .val (.int (2 : Int32)), .val (.int z5), .unset, .unset] [(.int z6)])
      refine o_istore X77 at_139 #[.val (.int xp0), .val (.int xp1), .val (.int xp2), .val (.int xs), .val (.int (f_cp xp0)), .val (.int (f_cp xp1)), .val (.int (f_cp xp2)), .val (.ref b4), .val (.int z5), .val (.int z6), .val (.int z7), .val (.int (f_un (f_cp xp0))), .val (.int ((f_un (f_cp xp0)) + (f_un (f_cp xp1)))), .val (.int (((f_un (f_cp xp0)) + (f_un (f_cp xp1))) + (f_un (f_cp xp2)))), .val (.int (1 : Int32)), .val (.int (2 : Int32)), .val (.int (1 : Int32)), .val (.int (2 : Int32)), .val (.int z5), .val (.int z6), .unset] rfl 141 rfl ?_
      refine o_iload X77 at_141 rfl 143 rfl ?_
      refine o_iconst (v := (0 : Int32)) X77 at_143 rfl 144 rfl ?_
      refine o_iload X77 at_144 rfl 146 rfl ?_
      refine o_iload X77 at_146 rfl 148 rfl ?_
      refine o_iload X77 at_148 rfl 150 rfl ?_
      refine o_callS X77 at_150 (rest := []) (c_pick l Z a0 hw [] n0 _ X77.size (2 : Int32) (0 : Int32) (f_un (f_cp xp0)) ((f_un (f_cp xp0)) + (f_un (f_cp xp1))) (((f_un (f_cp xp0)) + (f_un (f_cp xp1))) + (f_un (f_cp xp2))) ) (hw _ (List.mem_of_getElem? (i := 22) rfl)) (hw _ (List.mem_of_getElem? (i := 23) rfl)) (hw _ (List.mem_of_getElem? (i := 2) rfl)) (hw _ (List.mem_of_getElem? (i := 24) rfl)) (by decide) 0 (by decide) (by decide) rfl [(.int (2 : Int32)), (.int (0 : Int32)), (.int (f_un (f_cp xp0))), (.int ((f_un (f_cp xp0)) + (f_un (f_cp xp1)))), (.int (((f_un (f_cp xp0)) + (f_un (f_cp xp1))) + (f_un (f_cp xp2))))] rfl pd_6 rfl rfl (Nat.le_of_eq rfl) 1 12 rfl rfl (by decide) (by decide) 153 rfl ?_
      rintro _ T78 _ X78 ⟨rfl, rfl⟩
      rw [show (f_pick (2 : Int32) (0 : Int32) (f_un (f_cp xp0)) ((f_un (f_cp xp0)) + (f_un (f_cp xp1))) (((f_un (f_cp xp0)) + (f_un (f_cp xp1))) + (f_un (f_cp xp2)))) = ((f_un (f_cp xp0)) + (f_un (f_cp xp1))) from rfl]
      show OE p e room_1 below s n0 Q' T78 (mkF m 153 #[.val (.int xp0), .val (.int xp1), .val (.int xp2), .val (.int xs), .val (.int (f_cp xp0)), .val (.int (f_cp xp1)), .val (.int (f_cp xp2)), .val (.ref b4), .val (.int z5), .val (.int z6), .val (.int z7), .val (.int (f_un (f_cp xp0))), .val (.int ((f_un (f_cp xp0)) + (f_un (f_cp xp1)))), .val (.int (((f_un (f_cp xp0)) + (f_un (f_cp xp1))) + (f_un (f_cp xp2)))), .val (.int (1 : Int32)), .val (.int (2 : Int32)), .val (.int (1 : Int32)), .val (.int (2 : Int32)), .val (.int z5), .val (.int z6), .unset] [(.int ((f_un (f_cp xp0)) + (f_un (f_cp xp1))))])
      refine o_iload X78 at_153 rfl 155 rfl ?_
      refine o_iconst (v := (0 : Int32)) X78 at_155 rfl 156 rfl ?_
      refine o_iload X78 at_156 rfl 158 rfl ?_
      refine o_iload X78 at_158 rfl 160 rfl ?_
      refine o_iload X78 at_160 rfl 162 rfl ?_
      refine o_callS X78 at_162 (rest := [(.int ((f_un (f_cp xp0)) + (f_un (f_cp xp1))))]) (c_pick l Z a0 hw [] n0 _ X78.size (1 : Int32) (0 : Int32) (f_un (f_cp xp0)) ((f_un (f_cp xp0)) + (f_un (f_cp xp1))) (((f_un (f_cp xp0)) + (f_un (f_cp xp1))) + (f_un (f_cp xp2))) ) (hw _ (List.mem_of_getElem? (i := 22) rfl)) (hw _ (List.mem_of_getElem? (i := 23) rfl)) (hw _ (List.mem_of_getElem? (i := 2) rfl)) (hw _ (List.mem_of_getElem? (i := 24) rfl)) (by decide) 1 (by decide) (by decide) rfl [(.int (1 : Int32)), (.int (0 : Int32)), (.int (f_un (f_cp xp0))), (.int ((f_un (f_cp xp0)) + (f_un (f_cp xp1)))), (.int (((f_un (f_cp xp0)) + (f_un (f_cp xp1))) + (f_un (f_cp xp2))))] rfl pd_6 rfl rfl (Nat.le_of_eq rfl) 1 12 rfl rfl (by decide) (by decide) 165 rfl ?_
      rintro _ T79 _ X79 ⟨rfl, rfl⟩
      rw [show (f_pick (1 : Int32) (0 : Int32) (f_un (f_cp xp0)) ((f_un (f_cp xp0)) + (f_un (f_cp xp1))) (((f_un (f_cp xp0)) + (f_un (f_cp xp1))) + (f_un (f_cp xp2)))) = (f_un (f_cp xp0)) from rfl]
      show OE p e room_1 below s n0 Q' T79 (mkF m 165 #[.val (.int xp0), .val (.int xp1), .val (.int xp2), .val (.int xs), .val (.int (f_cp xp0)), .val (.int (f_cp xp1)), .val (.int (f_cp xp2)), .val (.ref b4), .val (.int z5), .val (.int z6), .val (.int z7), .val (.int (f_un (f_cp xp0))), .val (.int ((f_un (f_cp xp0)) + (f_un (f_cp xp1)))), .val (.int (((f_un (f_cp xp0)) + (f_un (f_cp xp1))) + (f_un (f_cp xp2)))), .val (.int (1 : Int32)), .val (.int (2 : Int32)), .val (.int (1 : Int32)), .val (.int (2 : Int32)), .val (.int z5), .val (.int z6), .unset] [(.int (f_un (f_cp xp0))), (.int ((f_un (f_cp xp0)) + (f_un (f_cp xp1))))])
      refine o_isub X79 at_165 166 rfl ?_
      refine o_istore X79 at_166 #[.val (.int xp0), .val (.int xp1), .val (.int xp2), .val (.int xs), .val (.int (f_cp xp0)), .val (.int (f_cp xp1)), .val (.int (f_cp xp2)), .val (.ref b4), .val (.int z5), .val (.int z6), .val (.int z7), .val (.int (f_un (f_cp xp0))), .val (.int ((f_un (f_cp xp0)) + (f_un (f_cp xp1)))), .val (.int (((f_un (f_cp xp0)) + (f_un (f_cp xp1))) + (f_un (f_cp xp2)))), .val (.int (1 : Int32)), .val (.int (2 : Int32)), .val (.int (1 : Int32)), .val (.int (2 : Int32)), .val (.int z5), .val (.int z6), .val (.int (((f_un (f_cp xp0)) + (f_un (f_cp xp1))) - (f_un (f_cp xp0))))] rfl 168 rfl ?_
      refine o_aload X79 at_168 rfl rfl 170 rfl ?_
      refine o_iload X79 at_170 rfl 172 rfl ?_
      refine o_iload X79 at_172 rfl 174 rfl ?_
      refine o_callS X79 at_174 (rest := []) (c_cc l Z a0 hw [] n0 _ X79.size b4 z5 z6 vs7 [] H7 (0 + ln5) (ln6) (by have := hz5; omega) (by have := hz6; omega) (by omega) (by omega)) (hw _ (List.mem_of_getElem? (i := 25) rfl)) (hw _ (List.mem_of_getElem? (i := 26) rfl)) (hw _ (List.mem_of_getElem? (i := 27) rfl)) (hw _ (List.mem_of_getElem? (i := 28) rfl)) (by decide) 0 (by decide) (by decide) rfl [(.ref b4), (.int z5), (.int z6)] rfl pd_7 rfl rfl (Nat.le_of_eq rfl) 1 12 rfl rfl (by decide) (by decide) 177 rfl ?_
      rintro _ T80 _ X80 ⟨rfl, rfl⟩
      show OE p e room_1 below s n0 Q' T80 (mkF m 177 #[.val (.int xp0), .val (.int xp1), .val (.int xp2), .val (.int xs), .val (.int (f_cp xp0)), .val (.int (f_cp xp1)), .val (.int (f_cp xp2)), .val (.ref b4), .val (.int z5), .val (.int z6), .val (.int z7), .val (.int (f_un (f_cp xp0))), .val (.int ((f_un (f_cp xp0)) + (f_un (f_cp xp1)))), .val (.int (((f_un (f_cp xp0)) + (f_un (f_cp xp1))) + (f_un (f_cp xp2)))), .val (.int (1 : Int32)), .val (.int (2 : Int32)), .val (.int (1 : Int32)), .val (.int (2 : Int32)), .val (.int z5), .val (.int z6), .val (.int (((f_un (f_cp xp0)) + (f_un (f_cp xp1))) - (f_un (f_cp xp0))))] [(.int (f_cnt vs7 (0 + ln5) (ln6)))])
      refine o_iload X80 at_177 rfl 179 rfl ?_
      refine o_icmpNe X80 at_179 186 182 (by decide) (by decide) rfl (fun q => by exfalso; apply q; rw [B2 _ (by omega)]; grind) ?_
      intro hc179
      refine o_iconst (v := (1 : Int32)) X80 at_182 rfl 183 rfl ?_
      refine o_goto X80 at_183 187 (by decide) (by decide) ?_
      exact o_retZ X80 at_187 (by decide) (by decide) (hQ _ _ rfl)
    · rw [hv]
      refine o_iload X10 at_95 rfl 97 rfl ?_
      refine o_iload X10 at_97 rfl 99 rfl ?_
      refine o_callS X10 at_99 (rest := []) (c_min l Z a0 hw [] n0 _ X10.size (2 : Int32) (2 : Int32) ) (hw _ (List.mem_of_getElem? (i := 15) rfl)) (hw _ (List.mem_of_getElem? (i := 16) rfl)) (hw _ (List.mem_of_getElem? (i := 17) rfl)) (hw _ (List.mem_of_getElem? (i := 18) rfl)) (by decide) 0 (by decide) (by decide) rfl [(.int (2 : Int32)), (.int (2 : Int32))] rfl pd_4 rfl rfl (Nat.le_of_eq rfl) 1 12 rfl rfl (by decide) (by decide) 102 rfl ?_
      rintro _ T81 _ X81 ⟨rfl, rfl⟩
      rw [show (f_min (2 : Int32) (2 : Int32)) = (2 : Int32) from rfl]
      show OE p e room_1 below s n0 Q' T81 (mkF m 102 #[.val (.int xp0), .val (.int xp1), .val (.int xp2), .val (.int xs), .val (.int (f_cp xp0)), .val (.int (f_cp xp1)), .val (.int (f_cp xp2)), .val (.ref b4), .val (.int z5), .val (.int z6), .val (.int z7), .val (.int (f_un (f_cp xp0))), .val (.int ((f_un (f_cp xp0)) + (f_un (f_cp xp1)))), .val (.int (((f_un (f_cp xp0)) + (f_un (f_cp xp1))) + (f_un (f_cp xp2)))), .val (.int (2 : Int32)), .val (.int (2 : Int32)), .unset, .unset, .unset, .unset, .unset] [(.int (2 : Int32))])
      refine o_istore X81 at_102 #[.val (.int xp0), .val (.int xp1), .val (.int xp2), .val (.int xs), .val (.int (f_cp xp0)), .val (.int (f_cp xp1)), .val (.int (f_cp xp2)), .val (.ref b4), .val (.int z5), .val (.int z6), .val (.int z7), .val (.int (f_un (f_cp xp0))), .val (.int ((f_un (f_cp xp0)) + (f_un (f_cp xp1)))), .val (.int (((f_un (f_cp xp0)) + (f_un (f_cp xp1))) + (f_un (f_cp xp2)))), .val (.int (2 : Int32)), .val (.int (2 : Int32)), .val (.int (2 : Int32)), .unset, .unset, .unset, .unset] rfl 104 rfl ?_
      refine o_iload X81 at_104 rfl 106 rfl ?_
      refine o_iload X81 at_106 rfl 108 rfl ?_
      refine o_callS X81 at_108 (rest := []) (c_max l Z a0 hw [] n0 _ X81.size (2 : Int32) (2 : Int32) ) (hw _ (List.mem_of_getElem? (i := 19) rfl)) (hw _ (List.mem_of_getElem? (i := 20) rfl)) (hw _ (List.mem_of_getElem? (i := 17) rfl)) (hw _ (List.mem_of_getElem? (i := 21) rfl)) (by decide) 0 (by decide) (by decide) rfl [(.int (2 : Int32)), (.int (2 : Int32))] rfl pd_5 rfl rfl (Nat.le_of_eq rfl) 1 12 rfl rfl (by decide) (by decide) 111 rfl ?_
      rintro _ T82 _ X82 ⟨rfl, rfl⟩
      rw [show (f_max (2 : Int32) (2 : Int32)) = (2 : Int32) from rfl]
      show OE p e room_1 below s n0 Q' T82 (mkF m 111 #[.val (.int xp0), .val (.int xp1), .val (.int xp2), .val (.int xs), .val (.int (f_cp xp0)), .val (.int (f_cp xp1)), .val (.int (f_cp xp2)), .val (.ref b4), .val (.int z5), .val (.int z6), .val (.int z7), .val (.int (f_un (f_cp xp0))), .val (.int ((f_un (f_cp xp0)) + (f_un (f_cp xp1)))), .val (.int (((f_un (f_cp xp0)) + (f_un (f_cp xp1))) + (f_un (f_cp xp2)))), .val (.int (2 : Int32)), .val (.int (2 : Int32)), .val (.int (2 : Int32)), .unset, .unset, .unset, .unset] [(.int (2 : Int32))])
      refine o_istore X82 at_111 #[.val (.int xp0), .val (.int xp1), .val (.int xp2), .val (.int xs), .val (.int (f_cp xp0)), .val (.int (f_cp xp1)), .val (.int (f_cp xp2)), .val (.ref b4), .val (.int z5), .val (.int z6), .val (.int z7), .val (.int (f_un (f_cp xp0))), .val (.int ((f_un (f_cp xp0)) + (f_un (f_cp xp1)))), .val (.int (((f_un (f_cp xp0)) + (f_un (f_cp xp1))) + (f_un (f_cp xp2)))), .val (.int (2 : Int32)), .val (.int (2 : Int32)), .val (.int (2 : Int32)), .val (.int (2 : Int32)), .unset, .unset, .unset] rfl 113 rfl ?_
      refine o_iload X82 at_113 rfl 115 rfl ?_
      refine o_iconst (v := (0 : Int32)) X82 at_115 rfl 116 rfl ?_
      refine o_iload X82 at_116 rfl 118 rfl ?_
      refine o_iload X82 at_118 rfl 120 rfl ?_
      refine o_iload X82 at_120 rfl 122 rfl ?_
      refine o_callS X82 at_122 (rest := []) (c_pick l Z a0 hw [] n0 _ X82.size (2 : Int32) (0 : Int32) z5 z6 z7 ) (hw _ (List.mem_of_getElem? (i := 22) rfl)) (hw _ (List.mem_of_getElem? (i := 23) rfl)) (hw _ (List.mem_of_getElem? (i := 2) rfl)) (hw _ (List.mem_of_getElem? (i := 24) rfl)) (by decide) 0 (by decide) (by decide) rfl [(.int (2 : Int32)), (.int (0 : Int32)), (.int z5), (.int z6), (.int z7)] rfl pd_6 rfl rfl (Nat.le_of_eq rfl) 1 12 rfl rfl (by decide) (by decide) 125 rfl ?_
      rintro _ T83 _ X83 ⟨rfl, rfl⟩
      rw [show (f_pick (2 : Int32) (0 : Int32) z5 z6 z7) = z6 from rfl]
      show OE p e room_1 below s n0 Q' T83 (mkF m 125 #[.val (.int xp0), .val (.int xp1), .val (.int xp2), .val (.int xs), .val (.int (f_cp xp0)), .val (.int (f_cp xp1)), .val (.int (f_cp xp2)), .val (.ref b4), .val (.int z5), .val (.int z6), .val (.int z7), .val (.int (f_un (f_cp xp0))), .val (.int ((f_un (f_cp xp0)) + (f_un (f_cp xp1)))), .val (.int (((f_un (f_cp xp0)) + (f_un (f_cp xp1))) + (f_un (f_cp xp2)))), .val (.int (2 : Int32)), .val (.int (2 : Int32)), .val (.int (2 : Int32)), .val (.int (2 : Int32)), .unset, .unset, .unset] [(.int z6)])
      refine o_istore X83 at_125 #[.val (.int xp0), .val (.int xp1), .val (.int xp2), .val (.int xs), .val (.int (f_cp xp0)), .val (.int (f_cp xp1)), .val (.int (f_cp xp2)), .val (.ref b4), .val (.int z5), .val (.int z6), .val (.int z7), .val (.int (f_un (f_cp xp0))), .val (.int ((f_un (f_cp xp0)) + (f_un (f_cp xp1)))), .val (.int (((f_un (f_cp xp0)) + (f_un (f_cp xp1))) + (f_un (f_cp xp2)))), .val (.int (2 : Int32)), .val (.int (2 : Int32)), .val (.int (2 : Int32)), .val (.int (2 : Int32)), .val (.int z6), .unset, .unset] rfl 127 rfl ?_
      refine o_iload X83 at_127 rfl 129 rfl ?_
      refine o_iconst (v := (0 : Int32)) X83 at_129 rfl 130 rfl ?_
      refine o_iload X83 at_130 rfl 132 rfl ?_
      refine o_iload X83 at_132 rfl 134 rfl ?_
      refine o_iload X83 at_134 rfl 136 rfl ?_
      refine o_callS X83 at_136 (rest := []) (c_pick l Z a0 hw [] n0 _ X83.size (2 : Int32) (0 : Int32) z5 z6 z7 ) (hw _ (List.mem_of_getElem? (i := 22) rfl)) (hw _ (List.mem_of_getElem? (i := 23) rfl)) (hw _ (List.mem_of_getElem? (i := 2) rfl)) (hw _ (List.mem_of_getElem? (i := 24) rfl)) (by decide) 0 (by decide) (by decide) rfl [(.int (2 : Int32)), (.int (0 : Int32)), (.int z5), (.int z6), (.int z7)] rfl pd_6 rfl rfl (Nat.le_of_eq rfl) 1 12 rfl rfl (by decide) (by decide) 139 rfl ?_
      rintro _ T84 _ X84 ⟨rfl, rfl⟩
      rw [show (f_pick (2 : Int32) (0 : Int32) z5 z6 z7) = z6 from rfl]
      show OE p e room_1 below s n0 Q' T84 (mkF m 139 #[.val (.int xp0), .val (.int xp1), .val (.int xp2), .val (.int xs), .val (.int (f_cp xp0)), .val (.int (f_cp xp1)), .val (.int (f_cp xp2)), .val (.ref b4), .val (.int z5), .val (.int z6), .val (.int z7), .val (.int (f_un (f_cp xp0))), .val (.int ((f_un (f_cp xp0)) + (f_un (f_cp xp1)))), .val (.int (((f_un (f_cp xp0)) + (f_un (f_cp xp1))) + (f_un (f_cp xp2)))), .val (.int (2 : Int32)), .val (.int (2 : Int32)), .val (.int (2 : Int32)), .val (.int (2 : Int32)), .val (.int z6), .unset, .unset] [(.int z6)])
      refine o_istore X84 at_139 #[.val (.int xp0), .val (.int xp1), .val (.int xp2), .val (.int xs), .val (.int (f_cp xp0)), .val (.int (f_cp xp1)), .val (.int (f_cp xp2)), .val (.ref b4), .val (.int z5), .val (.int z6), .val (.int z7), .val (.int (f_un (f_cp xp0))), .val (.int ((f_un (f_cp xp0)) + (f_un (f_cp xp1)))), .val (.int (((f_un (f_cp xp0)) + (f_un (f_cp xp1))) + (f_un (f_cp xp2)))), .val (.int (2 : Int32)), .val (.int (2 : Int32)), .val (.int (2 : Int32)), .val (.int (2 : Int32)), .val (.int z6), .val (.int z6), .unset] rfl 141 rfl ?_
      refine o_iload X84 at_141 rfl 143 rfl ?_
      refine o_iconst (v := (0 : Int32)) X84 at_143 rfl 144 rfl ?_
      refine o_iload X84 at_144 rfl 146 rfl ?_
      refine o_iload X84 at_146 rfl 148 rfl ?_
      refine o_iload X84 at_148 rfl 150 rfl ?_
      refine o_callS X84 at_150 (rest := []) (c_pick l Z a0 hw [] n0 _ X84.size (2 : Int32) (0 : Int32) (f_un (f_cp xp0)) ((f_un (f_cp xp0)) + (f_un (f_cp xp1))) (((f_un (f_cp xp0)) + (f_un (f_cp xp1))) + (f_un (f_cp xp2))) ) (hw _ (List.mem_of_getElem? (i := 22) rfl)) (hw _ (List.mem_of_getElem? (i := 23) rfl)) (hw _ (List.mem_of_getElem? (i := 2) rfl)) (hw _ (List.mem_of_getElem? (i := 24) rfl)) (by decide) 0 (by decide) (by decide) rfl [(.int (2 : Int32)), (.int (0 : Int32)), (.int (f_un (f_cp xp0))), (.int ((f_un (f_cp xp0)) + (f_un (f_cp xp1)))), (.int (((f_un (f_cp xp0)) + (f_un (f_cp xp1))) + (f_un (f_cp xp2))))] rfl pd_6 rfl rfl (Nat.le_of_eq rfl) 1 12 rfl rfl (by decide) (by decide) 153 rfl ?_
      rintro _ T85 _ X85 ⟨rfl, rfl⟩
      rw [show (f_pick (2 : Int32) (0 : Int32) (f_un (f_cp xp0)) ((f_un (f_cp xp0)) + (f_un (f_cp xp1))) (((f_un (f_cp xp0)) + (f_un (f_cp xp1))) + (f_un (f_cp xp2)))) = ((f_un (f_cp xp0)) + (f_un (f_cp xp1))) from rfl]
      show OE p e room_1 below s n0 Q' T85 (mkF m 153 #[.val (.int xp0), .val (.int xp1), .val (.int xp2), .val (.int xs), .val (.int (f_cp xp0)), .val (.int (f_cp xp1)), .val (.int (f_cp xp2)), .val (.ref b4), .val (.int z5), .val (.int z6), .val (.int z7), .val (.int (f_un (f_cp xp0))), .val (.int ((f_un (f_cp xp0)) + (f_un (f_cp xp1)))), .val (.int (((f_un (f_cp xp0)) + (f_un (f_cp xp1))) + (f_un (f_cp xp2)))), .val (.int (2 : Int32)), .val (.int (2 : Int32)), .val (.int (2 : Int32)), .val (.int (2 : Int32)), .val (.int z6), .val (.int z6), .unset] [(.int ((f_un (f_cp xp0)) + (f_un (f_cp xp1))))])
      refine o_iload X85 at_153 rfl 155 rfl ?_
      refine o_iconst (v := (0 : Int32)) X85 at_155 rfl 156 rfl ?_
      refine o_iload X85 at_156 rfl 158 rfl ?_
      refine o_iload X85 at_158 rfl 160 rfl ?_
      refine o_iload X85 at_160 rfl 162 rfl ?_
      refine o_callS X85 at_162 (rest := [(.int ((f_un (f_cp xp0)) + (f_un (f_cp xp1))))]) (c_pick l Z a0 hw [] n0 _ X85.size (2 : Int32) (0 : Int32) (f_un (f_cp xp0)) ((f_un (f_cp xp0)) + (f_un (f_cp xp1))) (((f_un (f_cp xp0)) + (f_un (f_cp xp1))) + (f_un (f_cp xp2))) ) (hw _ (List.mem_of_getElem? (i := 22) rfl)) (hw _ (List.mem_of_getElem? (i := 23) rfl)) (hw _ (List.mem_of_getElem? (i := 2) rfl)) (hw _ (List.mem_of_getElem? (i := 24) rfl)) (by decide) 1 (by decide) (by decide) rfl [(.int (2 : Int32)), (.int (0 : Int32)), (.int (f_un (f_cp xp0))), (.int ((f_un (f_cp xp0)) + (f_un (f_cp xp1)))), (.int (((f_un (f_cp xp0)) + (f_un (f_cp xp1))) + (f_un (f_cp xp2))))] rfl pd_6 rfl rfl (Nat.le_of_eq rfl) 1 12 rfl rfl (by decide) (by decide) 165 rfl ?_
      rintro _ T86 _ X86 ⟨rfl, rfl⟩
      rw [show (f_pick (2 : Int32) (0 : Int32) (f_un (f_cp xp0)) ((f_un (f_cp xp0)) + (f_un (f_cp xp1))) (((f_un (f_cp xp0)) + (f_un (f_cp xp1))) + (f_un (f_cp xp2)))) = ((f_un (f_cp xp0)) + (f_un (f_cp xp1))) from rfl]
      show OE p e room_1 below s n0 Q' T86 (mkF m 165 #[.val (.int xp0), .val (.int xp1), .val (.int xp2), .val (.int xs), .val (.int (f_cp xp0)), .val (.int (f_cp xp1)), .val (.int (f_cp xp2)), .val (.ref b4), .val (.int z5), .val (.int z6), .val (.int z7), .val (.int (f_un (f_cp xp0))), .val (.int ((f_un (f_cp xp0)) + (f_un (f_cp xp1)))), .val (.int (((f_un (f_cp xp0)) + (f_un (f_cp xp1))) + (f_un (f_cp xp2)))), .val (.int (2 : Int32)), .val (.int (2 : Int32)), .val (.int (2 : Int32)), .val (.int (2 : Int32)), .val (.int z6), .val (.int z6), .unset] [(.int ((f_un (f_cp xp0)) + (f_un (f_cp xp1)))), (.int ((f_un (f_cp xp0)) + (f_un (f_cp xp1))))])
      refine o_isub X86 at_165 166 rfl ?_
      refine o_istore X86 at_166 #[.val (.int xp0), .val (.int xp1), .val (.int xp2), .val (.int xs), .val (.int (f_cp xp0)), .val (.int (f_cp xp1)), .val (.int (f_cp xp2)), .val (.ref b4), .val (.int z5), .val (.int z6), .val (.int z7), .val (.int (f_un (f_cp xp0))), .val (.int ((f_un (f_cp xp0)) + (f_un (f_cp xp1)))), .val (.int (((f_un (f_cp xp0)) + (f_un (f_cp xp1))) + (f_un (f_cp xp2)))), .val (.int (2 : Int32)), .val (.int (2 : Int32)), .val (.int (2 : Int32)), .val (.int (2 : Int32)), .val (.int z6), .val (.int z6), .val (.int (((f_un (f_cp xp0)) + (f_un (f_cp xp1))) - ((f_un (f_cp xp0)) + (f_un (f_cp xp1)))))] rfl 168 rfl ?_
      refine o_aload X86 at_168 rfl rfl 170 rfl ?_
      refine o_iload X86 at_170 rfl 172 rfl ?_
      refine o_iload X86 at_172 rfl 174 rfl ?_
      refine o_callS X86 at_174 (rest := []) (c_cc l Z a0 hw [] n0 _ X86.size b4 z6 z6 vs7 [] H7 (0 + ln5 + ln6) 0 (by have := hz6; omega) (by have := hz6; omega) (by omega) (by omega)) (hw _ (List.mem_of_getElem? (i := 25) rfl)) (hw _ (List.mem_of_getElem? (i := 26) rfl)) (hw _ (List.mem_of_getElem? (i := 27) rfl)) (hw _ (List.mem_of_getElem? (i := 28) rfl)) (by decide) 0 (by decide) (by decide) rfl [(.ref b4), (.int z6), (.int z6)] rfl pd_7 rfl rfl (Nat.le_of_eq rfl) 1 12 rfl rfl (by decide) (by decide) 177 rfl ?_
      rintro _ T87 _ X87 ⟨rfl, rfl⟩
      show OE p e room_1 below s n0 Q' T87 (mkF m 177 #[.val (.int xp0), .val (.int xp1), .val (.int xp2), .val (.int xs), .val (.int (f_cp xp0)), .val (.int (f_cp xp1)), .val (.int (f_cp xp2)), .val (.ref b4), .val (.int z5), .val (.int z6), .val (.int z7), .val (.int (f_un (f_cp xp0))), .val (.int ((f_un (f_cp xp0)) + (f_un (f_cp xp1)))), .val (.int (((f_un (f_cp xp0)) + (f_un (f_cp xp1))) + (f_un (f_cp xp2)))), .val (.int (2 : Int32)), .val (.int (2 : Int32)), .val (.int (2 : Int32)), .val (.int (2 : Int32)), .val (.int z6), .val (.int z6), .val (.int (((f_un (f_cp xp0)) + (f_un (f_cp xp1))) - ((f_un (f_cp xp0)) + (f_un (f_cp xp1)))))] [(.int (f_cnt vs7 (0 + ln5 + ln6) 0))])
      refine o_iload X87 at_177 rfl 179 rfl ?_
      refine o_icmpNe X87 at_179 186 182 (by decide) (by decide) rfl (fun q => by exfalso; apply q; show (0 : Int32) = _; grind) ?_
      intro hc179
      refine o_iconst (v := (1 : Int32)) X87 at_182 rfl 183 rfl ?_
      refine o_goto X87 at_183 187 (by decide) (by decide) ?_
      exact o_retZ X87 at_187 (by decide) (by decide) (hQ _ _ rfl)
    · rw [hv]
      refine o_iload X10 at_95 rfl 97 rfl ?_
      refine o_iload X10 at_97 rfl 99 rfl ?_
      refine o_callS X10 at_99 (rest := []) (c_min l Z a0 hw [] n0 _ X10.size (3 : Int32) (2 : Int32) ) (hw _ (List.mem_of_getElem? (i := 15) rfl)) (hw _ (List.mem_of_getElem? (i := 16) rfl)) (hw _ (List.mem_of_getElem? (i := 17) rfl)) (hw _ (List.mem_of_getElem? (i := 18) rfl)) (by decide) 0 (by decide) (by decide) rfl [(.int (3 : Int32)), (.int (2 : Int32))] rfl pd_4 rfl rfl (Nat.le_of_eq rfl) 1 12 rfl rfl (by decide) (by decide) 102 rfl ?_
      rintro _ T88 _ X88 ⟨rfl, rfl⟩
      rw [show (f_min (3 : Int32) (2 : Int32)) = (2 : Int32) from rfl]
      show OE p e room_1 below s n0 Q' T88 (mkF m 102 #[.val (.int xp0), .val (.int xp1), .val (.int xp2), .val (.int xs), .val (.int (f_cp xp0)), .val (.int (f_cp xp1)), .val (.int (f_cp xp2)), .val (.ref b4), .val (.int z5), .val (.int z6), .val (.int z7), .val (.int (f_un (f_cp xp0))), .val (.int ((f_un (f_cp xp0)) + (f_un (f_cp xp1)))), .val (.int (((f_un (f_cp xp0)) + (f_un (f_cp xp1))) + (f_un (f_cp xp2)))), .val (.int (3 : Int32)), .val (.int (2 : Int32)), .unset, .unset, .unset, .unset, .unset] [(.int (2 : Int32))])
      refine o_istore X88 at_102 #[.val (.int xp0), .val (.int xp1), .val (.int xp2), .val (.int xs), .val (.int (f_cp xp0)), .val (.int (f_cp xp1)), .val (.int (f_cp xp2)), .val (.ref b4), .val (.int z5), .val (.int z6), .val (.int z7), .val (.int (f_un (f_cp xp0))), .val (.int ((f_un (f_cp xp0)) + (f_un (f_cp xp1)))), .val (.int (((f_un (f_cp xp0)) + (f_un (f_cp xp1))) + (f_un (f_cp xp2)))), .val (.int (3 : Int32)), .val (.int (2 : Int32)), .val (.int (2 : Int32)), .unset, .unset, .unset, .unset] rfl 104 rfl ?_
      refine o_iload X88 at_104 rfl 106 rfl ?_
      refine o_iload X88 at_106 rfl 108 rfl ?_
      refine o_callS X88 at_108 (rest := []) (c_max l Z a0 hw [] n0 _ X88.size (3 : Int32) (2 : Int32) ) (hw _ (List.mem_of_getElem? (i := 19) rfl)) (hw _ (List.mem_of_getElem? (i := 20) rfl)) (hw _ (List.mem_of_getElem? (i := 17) rfl)) (hw _ (List.mem_of_getElem? (i := 21) rfl)) (by decide) 0 (by decide) (by decide) rfl [(.int (3 : Int32)), (.int (2 : Int32))] rfl pd_5 rfl rfl (Nat.le_of_eq rfl) 1 12 rfl rfl (by decide) (by decide) 111 rfl ?_
      rintro _ T89 _ X89 ⟨rfl, rfl⟩
      rw [show (f_max (3 : Int32) (2 : Int32)) = (3 : Int32) from rfl]
      show OE p e room_1 below s n0 Q' T89 (mkF m 111 #[.val (.int xp0), .val (.int xp1), .val (.int xp2), .val (.int xs), .val (.int (f_cp xp0)), .val (.int (f_cp xp1)), .val (.int (f_cp xp2)), .val (.ref b4), .val (.int z5), .val (.int z6), .val (.int z7), .val (.int (f_un (f_cp xp0))), .val (.int ((f_un (f_cp xp0)) + (f_un (f_cp xp1)))), .val (.int (((f_un (f_cp xp0)) + (f_un (f_cp xp1))) + (f_un (f_cp xp2)))), .val (.int (3 : Int32)), .val (.int (2 : Int32)), .val (.int (2 : Int32)), .unset, .unset, .unset, .unset] [(.int (3 : Int32))])
      refine o_istore X89 at_111 #[.val (.int xp0), .val (.int xp1), .val (.int xp2), .val (.int xs), .val (.int (f_cp xp0)), .val (.int (f_cp xp1)), .val (.int (f_cp xp2)), .val (.ref b4), .val (.int z5), .val (.int z6), .val (.int z7), .val (.int (f_un (f_cp xp0))), .val (.int ((f_un (f_cp xp0)) + (f_un (f_cp xp1)))), .val (.int (((f_un (f_cp xp0)) + (f_un (f_cp xp1))) + (f_un (f_cp xp2)))), .val (.int (3 : Int32)), .val (.int (2 : Int32)), .val (.int (2 : Int32)), .val (.int (3 : Int32)), .unset, .unset, .unset] rfl 113 rfl ?_
      refine o_iload X89 at_113 rfl 115 rfl ?_
      refine o_iconst (v := (0 : Int32)) X89 at_115 rfl 116 rfl ?_
      refine o_iload X89 at_116 rfl 118 rfl ?_
      refine o_iload X89 at_118 rfl 120 rfl ?_
      refine o_iload X89 at_120 rfl 122 rfl ?_
      refine o_callS X89 at_122 (rest := []) (c_pick l Z a0 hw [] n0 _ X89.size (2 : Int32) (0 : Int32) z5 z6 z7 ) (hw _ (List.mem_of_getElem? (i := 22) rfl)) (hw _ (List.mem_of_getElem? (i := 23) rfl)) (hw _ (List.mem_of_getElem? (i := 2) rfl)) (hw _ (List.mem_of_getElem? (i := 24) rfl)) (by decide) 0 (by decide) (by decide) rfl [(.int (2 : Int32)), (.int (0 : Int32)), (.int z5), (.int z6), (.int z7)] rfl pd_6 rfl rfl (Nat.le_of_eq rfl) 1 12 rfl rfl (by decide) (by decide) 125 rfl ?_
      rintro _ T90 _ X90 ⟨rfl, rfl⟩
      rw [show (f_pick (2 : Int32) (0 : Int32) z5 z6 z7) = z6 from rfl]
      show OE p e room_1 below s n0 Q' T90 (mkF m 125 #[.val (.int xp0), .val (.int xp1), .val (.int xp2), .val (.int xs), .val (.int (f_cp xp0)), .val (.int (f_cp xp1)), .val (.int (f_cp xp2)), .val (.ref b4), .val (.int z5), .val (.int z6), .val (.int z7), .val (.int (f_un (f_cp xp0))), .val (.int ((f_un (f_cp xp0)) + (f_un (f_cp xp1)))), .val (.int (((f_un (f_cp xp0)) + (f_un (f_cp xp1))) + (f_un (f_cp xp2)))), .val (.int (3 : Int32)), .val (.int (2 : Int32)), .val (.int (2 : Int32)), .val (.int (3 : Int32)), .unset, .unset, .unset] [(.int z6)])
      refine o_istore X90 at_125 #[.val (.int xp0), .val (.int xp1), .val (.int xp2), .val (.int xs), .val (.int (f_cp xp0)), .val (.int (f_cp xp1)), .val (.int (f_cp xp2)), .val (.ref b4), .val (.int z5), .val (.int z6), .val (.int z7), .val (.int (f_un (f_cp xp0))), .val (.int ((f_un (f_cp xp0)) + (f_un (f_cp xp1)))), .val (.int (((f_un (f_cp xp0)) + (f_un (f_cp xp1))) + (f_un (f_cp xp2)))), .val (.int (3 : Int32)), .val (.int (2 : Int32)), .val (.int (2 : Int32)), .val (.int (3 : Int32)), .val (.int z6), .unset, .unset] rfl 127 rfl ?_
      refine o_iload X90 at_127 rfl 129 rfl ?_
      refine o_iconst (v := (0 : Int32)) X90 at_129 rfl 130 rfl ?_
      refine o_iload X90 at_130 rfl 132 rfl ?_
      refine o_iload X90 at_132 rfl 134 rfl ?_
      refine o_iload X90 at_134 rfl 136 rfl ?_
      refine o_callS X90 at_136 (rest := []) (c_pick l Z a0 hw [] n0 _ X90.size (3 : Int32) (0 : Int32) z5 z6 z7 ) (hw _ (List.mem_of_getElem? (i := 22) rfl)) (hw _ (List.mem_of_getElem? (i := 23) rfl)) (hw _ (List.mem_of_getElem? (i := 2) rfl)) (hw _ (List.mem_of_getElem? (i := 24) rfl)) (by decide) 0 (by decide) (by decide) rfl [(.int (3 : Int32)), (.int (0 : Int32)), (.int z5), (.int z6), (.int z7)] rfl pd_6 rfl rfl (Nat.le_of_eq rfl) 1 12 rfl rfl (by decide) (by decide) 139 rfl ?_
      rintro _ T91 _ X91 ⟨rfl, rfl⟩
      rw [show (f_pick (3 : Int32) (0 : Int32) z5 z6 z7) = z7 from rfl]
      show OE p e room_1 below s n0 Q' T91 (mkF m 139 #[.val (.int xp0), .val (.int xp1), .val (.int xp2), .val (.int xs), .val (.int (f_cp xp0)), .val (.int (f_cp xp1)), .val (.int (f_cp xp2)), .val (.ref b4), .val (.int z5), .val (.int z6), .val (.int z7), .val (.int (f_un (f_cp xp0))), .val (.int ((f_un (f_cp xp0)) + (f_un (f_cp xp1)))), .val (.int (((f_un (f_cp xp0)) + (f_un (f_cp xp1))) + (f_un (f_cp xp2)))), .val (.int (3 : Int32)), .val (.int (2 : Int32)), .val (.int (2 : Int32)), .val (.int (3 : Int32)), .val (.int z6), .unset, .unset] [(.int z7)])
      refine o_istore X91 at_139 #[.val (.int xp0), .val (.int xp1), .val (.int xp2), .val (.int xs), .val (.int (f_cp xp0)), .val (.int (f_cp xp1)), .val (.int (f_cp xp2)), .val (.ref b4), .val (.int z5), .val (.int z6), .val (.int z7), .val (.int (f_un (f_cp xp0))), .val (.int ((f_un (f_cp xp0)) + (f_un (f_cp xp1)))), .val (.int (((f_un (f_cp xp0)) + (f_un (f_cp xp1))) + (f_un (f_cp xp2)))), .val (.int (3 : Int32)), .val (.int (2 : Int32)), .val (.int (2 : Int32)), .val (.int (3 : Int32)), .val (.int z6), .val (.int z7), .unset] rfl 141 rfl ?_
      refine o_iload X91 at_141 rfl 143 rfl ?_
      refine o_iconst (v := (0 : Int32)) X91 at_143 rfl 144 rfl ?_
      refine o_iload X91 at_144 rfl 146 rfl ?_
      refine o_iload X91 at_146 rfl 148 rfl ?_
      refine o_iload X91 at_148 rfl 150 rfl ?_
      refine o_callS X91 at_150 (rest := []) (c_pick l Z a0 hw [] n0 _ X91.size (3 : Int32) (0 : Int32) (f_un (f_cp xp0)) ((f_un (f_cp xp0)) + (f_un (f_cp xp1))) (((f_un (f_cp xp0)) + (f_un (f_cp xp1))) + (f_un (f_cp xp2))) ) (hw _ (List.mem_of_getElem? (i := 22) rfl)) (hw _ (List.mem_of_getElem? (i := 23) rfl)) (hw _ (List.mem_of_getElem? (i := 2) rfl)) (hw _ (List.mem_of_getElem? (i := 24) rfl)) (by decide) 0 (by decide) (by decide) rfl [(.int (3 : Int32)), (.int (0 : Int32)), (.int (f_un (f_cp xp0))), (.int ((f_un (f_cp xp0)) + (f_un (f_cp xp1)))), (.int (((f_un (f_cp xp0)) + (f_un (f_cp xp1))) + (f_un (f_cp xp2))))] rfl pd_6 rfl rfl (Nat.le_of_eq rfl) 1 12 rfl rfl (by decide) (by decide) 153 rfl ?_
      rintro _ T92 _ X92 ⟨rfl, rfl⟩
      rw [show (f_pick (3 : Int32) (0 : Int32) (f_un (f_cp xp0)) ((f_un (f_cp xp0)) + (f_un (f_cp xp1))) (((f_un (f_cp xp0)) + (f_un (f_cp xp1))) + (f_un (f_cp xp2)))) = (((f_un (f_cp xp0)) + (f_un (f_cp xp1))) + (f_un (f_cp xp2))) from rfl]
      show OE p e room_1 below s n0 Q' T92 (mkF m 153 #[.val (.int xp0), .val (.int xp1), .val (.int xp2), .val (.int xs), .val (.int (f_cp xp0)), .val (.int (f_cp xp1)), .val (.int (f_cp xp2)), .val (.ref b4), .val (.int z5), .val (.int z6), .val (.int z7), .val (.int (f_un (f_cp xp0))), .val (.int ((f_un (f_cp xp0)) + (f_un (f_cp xp1)))), .val (.int (((f_un (f_cp xp0)) + (f_un (f_cp xp1))) + (f_un (f_cp xp2)))), .val (.int (3 : Int32)), .val (.int (2 : Int32)), .val (.int (2 : Int32)), .val (.int (3 : Int32)), .val (.int z6), .val (.int z7), .unset] [(.int (((f_un (f_cp xp0)) + (f_un (f_cp xp1))) + (f_un (f_cp xp2))))])
      refine o_iload X92 at_153 rfl 155 rfl ?_
      refine o_iconst (v := (0 : Int32)) X92 at_155 rfl 156 rfl ?_
      refine o_iload X92 at_156 rfl 158 rfl ?_
      refine o_iload X92 at_158 rfl 160 rfl ?_
      refine o_iload X92 at_160 rfl 162 rfl ?_
      refine o_callS X92 at_162 (rest := [(.int (((f_un (f_cp xp0)) + (f_un (f_cp xp1))) + (f_un (f_cp xp2))))]) (c_pick l Z a0 hw [] n0 _ X92.size (2 : Int32) (0 : Int32) (f_un (f_cp xp0)) ((f_un (f_cp xp0)) + (f_un (f_cp xp1))) (((f_un (f_cp xp0)) + (f_un (f_cp xp1))) + (f_un (f_cp xp2))) ) (hw _ (List.mem_of_getElem? (i := 22) rfl)) (hw _ (List.mem_of_getElem? (i := 23) rfl)) (hw _ (List.mem_of_getElem? (i := 2) rfl)) (hw _ (List.mem_of_getElem? (i := 24) rfl)) (by decide) 1 (by decide) (by decide) rfl [(.int (2 : Int32)), (.int (0 : Int32)), (.int (f_un (f_cp xp0))), (.int ((f_un (f_cp xp0)) + (f_un (f_cp xp1)))), (.int (((f_un (f_cp xp0)) + (f_un (f_cp xp1))) + (f_un (f_cp xp2))))] rfl pd_6 rfl rfl (Nat.le_of_eq rfl) 1 12 rfl rfl (by decide) (by decide) 165 rfl ?_
      rintro _ T93 _ X93 ⟨rfl, rfl⟩
      rw [show (f_pick (2 : Int32) (0 : Int32) (f_un (f_cp xp0)) ((f_un (f_cp xp0)) + (f_un (f_cp xp1))) (((f_un (f_cp xp0)) + (f_un (f_cp xp1))) + (f_un (f_cp xp2)))) = ((f_un (f_cp xp0)) + (f_un (f_cp xp1))) from rfl]
      show OE p e room_1 below s n0 Q' T93 (mkF m 165 #[.val (.int xp0), .val (.int xp1), .val (.int xp2), .val (.int xs), .val (.int (f_cp xp0)), .val (.int (f_cp xp1)), .val (.int (f_cp xp2)), .val (.ref b4), .val (.int z5), .val (.int z6), .val (.int z7), .val (.int (f_un (f_cp xp0))), .val (.int ((f_un (f_cp xp0)) + (f_un (f_cp xp1)))), .val (.int (((f_un (f_cp xp0)) + (f_un (f_cp xp1))) + (f_un (f_cp xp2)))), .val (.int (3 : Int32)), .val (.int (2 : Int32)), .val (.int (2 : Int32)), .val (.int (3 : Int32)), .val (.int z6), .val (.int z7), .unset] [(.int ((f_un (f_cp xp0)) + (f_un (f_cp xp1)))), (.int (((f_un (f_cp xp0)) + (f_un (f_cp xp1))) + (f_un (f_cp xp2))))])
      refine o_isub X93 at_165 166 rfl ?_
      refine o_istore X93 at_166 #[.val (.int xp0), .val (.int xp1), .val (.int xp2), .val (.int xs), .val (.int (f_cp xp0)), .val (.int (f_cp xp1)), .val (.int (f_cp xp2)), .val (.ref b4), .val (.int z5), .val (.int z6), .val (.int z7), .val (.int (f_un (f_cp xp0))), .val (.int ((f_un (f_cp xp0)) + (f_un (f_cp xp1)))), .val (.int (((f_un (f_cp xp0)) + (f_un (f_cp xp1))) + (f_un (f_cp xp2)))), .val (.int (3 : Int32)), .val (.int (2 : Int32)), .val (.int (2 : Int32)), .val (.int (3 : Int32)), .val (.int z6), .val (.int z7), .val (.int ((((f_un (f_cp xp0)) + (f_un (f_cp xp1))) + (f_un (f_cp xp2))) - ((f_un (f_cp xp0)) + (f_un (f_cp xp1)))))] rfl 168 rfl ?_
      refine o_aload X93 at_168 rfl rfl 170 rfl ?_
      refine o_iload X93 at_170 rfl 172 rfl ?_
      refine o_iload X93 at_172 rfl 174 rfl ?_
      refine o_callS X93 at_174 (rest := []) (c_cc l Z a0 hw [] n0 _ X93.size b4 z6 z7 vs7 [] H7 (0 + ln5 + ln6) (ln7) (by have := hz6; omega) (by have := hz7; omega) (by omega) (by omega)) (hw _ (List.mem_of_getElem? (i := 25) rfl)) (hw _ (List.mem_of_getElem? (i := 26) rfl)) (hw _ (List.mem_of_getElem? (i := 27) rfl)) (hw _ (List.mem_of_getElem? (i := 28) rfl)) (by decide) 0 (by decide) (by decide) rfl [(.ref b4), (.int z6), (.int z7)] rfl pd_7 rfl rfl (Nat.le_of_eq rfl) 1 12 rfl rfl (by decide) (by decide) 177 rfl ?_
      rintro _ T94 _ X94 ⟨rfl, rfl⟩
      show OE p e room_1 below s n0 Q' T94 (mkF m 177 #[.val (.int xp0), .val (.int xp1), .val (.int xp2), .val (.int xs), .val (.int (f_cp xp0)), .val (.int (f_cp xp1)), .val (.int (f_cp xp2)), .val (.ref b4), .val (.int z5), .val (.int z6), .val (.int z7), .val (.int (f_un (f_cp xp0))), .val (.int ((f_un (f_cp xp0)) + (f_un (f_cp xp1)))), .val (.int (((f_un (f_cp xp0)) + (f_un (f_cp xp1))) + (f_un (f_cp xp2)))), .val (.int (3 : Int32)), .val (.int (2 : Int32)), .val (.int (2 : Int32)), .val (.int (3 : Int32)), .val (.int z6), .val (.int z7), .val (.int ((((f_un (f_cp xp0)) + (f_un (f_cp xp1))) + (f_un (f_cp xp2))) - ((f_un (f_cp xp0)) + (f_un (f_cp xp1)))))] [(.int (f_cnt vs7 (0 + ln5 + ln6) (ln7)))])
      refine o_iload X94 at_177 rfl 179 rfl ?_
      refine o_icmpNe X94 at_179 186 182 (by decide) (by decide) rfl (fun q => by exfalso; apply q; rw [B3 _ (by omega)]; grind) ?_
      intro hc179
      refine o_iconst (v := (1 : Int32)) X94 at_182 rfl 183 rfl ?_
      refine o_goto X94 at_183 187 (by decide) (by decide) ?_
      exact o_retZ X94 at_187 (by decide) (by decide) (hQ _ _ rfl)
  · rw [hv]
    rcases v_k xs with hv | hv | hv | hv
    · rw [hv]
      refine o_iload X10 at_95 rfl 97 rfl ?_
      refine o_iload X10 at_97 rfl 99 rfl ?_
      refine o_callS X10 at_99 (rest := []) (c_min l Z a0 hw [] n0 _ X10.size (0 : Int32) (3 : Int32) ) (hw _ (List.mem_of_getElem? (i := 15) rfl)) (hw _ (List.mem_of_getElem? (i := 16) rfl)) (hw _ (List.mem_of_getElem? (i := 17) rfl)) (hw _ (List.mem_of_getElem? (i := 18) rfl)) (by decide) 0 (by decide) (by decide) rfl [(.int (0 : Int32)), (.int (3 : Int32))] rfl pd_4 rfl rfl (Nat.le_of_eq rfl) 1 12 rfl rfl (by decide) (by decide) 102 rfl ?_
      rintro _ T95 _ X95 ⟨rfl, rfl⟩
      rw [show (f_min (0 : Int32) (3 : Int32)) = (0 : Int32) from rfl]
      show OE p e room_1 below s n0 Q' T95 (mkF m 102 #[.val (.int xp0), .val (.int xp1), .val (.int xp2), .val (.int xs), .val (.int (f_cp xp0)), .val (.int (f_cp xp1)), .val (.int (f_cp xp2)), .val (.ref b4), .val (.int z5), .val (.int z6), .val (.int z7), .val (.int (f_un (f_cp xp0))), .val (.int ((f_un (f_cp xp0)) + (f_un (f_cp xp1)))), .val (.int (((f_un (f_cp xp0)) + (f_un (f_cp xp1))) + (f_un (f_cp xp2)))), .val (.int (0 : Int32)), .val (.int (3 : Int32)), .unset, .unset, .unset, .unset, .unset] [(.int (0 : Int32))])
      refine o_istore X95 at_102 #[.val (.int xp0), .val (.int xp1), .val (.int xp2), .val (.int xs), .val (.int (f_cp xp0)), .val (.int (f_cp xp1)), .val (.int (f_cp xp2)), .val (.ref b4), .val (.int z5), .val (.int z6), .val (.int z7), .val (.int (f_un (f_cp xp0))), .val (.int ((f_un (f_cp xp0)) + (f_un (f_cp xp1)))), .val (.int (((f_un (f_cp xp0)) + (f_un (f_cp xp1))) + (f_un (f_cp xp2)))), .val (.int (0 : Int32)), .val (.int (3 : Int32)), .val (.int (0 : Int32)), .unset, .unset, .unset, .unset] rfl 104 rfl ?_
      refine o_iload X95 at_104 rfl 106 rfl ?_
      refine o_iload X95 at_106 rfl 108 rfl ?_
      refine o_callS X95 at_108 (rest := []) (c_max l Z a0 hw [] n0 _ X95.size (0 : Int32) (3 : Int32) ) (hw _ (List.mem_of_getElem? (i := 19) rfl)) (hw _ (List.mem_of_getElem? (i := 20) rfl)) (hw _ (List.mem_of_getElem? (i := 17) rfl)) (hw _ (List.mem_of_getElem? (i := 21) rfl)) (by decide) 0 (by decide) (by decide) rfl [(.int (0 : Int32)), (.int (3 : Int32))] rfl pd_5 rfl rfl (Nat.le_of_eq rfl) 1 12 rfl rfl (by decide) (by decide) 111 rfl ?_
      rintro _ T96 _ X96 ⟨rfl, rfl⟩
      rw [show (f_max (0 : Int32) (3 : Int32)) = (3 : Int32) from rfl]
      show OE p e room_1 below s n0 Q' T96 (mkF m 111 #[.val (.int xp0), .val (.int xp1), .val (.int xp2), .val (.int xs), .val (.int (f_cp xp0)), .val (.int (f_cp xp1)), .val (.int (f_cp xp2)), .val (.ref b4), .val (.int z5), .val (.int z6), .val (.int z7), .val (.int (f_un (f_cp xp0))), .val (.int ((f_un (f_cp xp0)) + (f_un (f_cp xp1)))), .val (.int (((f_un (f_cp xp0)) + (f_un (f_cp xp1))) + (f_un (f_cp xp2)))), .val (.int (0 : Int32)), .val (.int (3 : Int32)), .val (.int (0 : Int32)), .unset, .unset, .unset, .unset] [(.int (3 : Int32))])
      refine o_istore X96 at_111 #[.val (.int xp0), .val (.int xp1), .val (.int xp2), .val (.int xs), .val (.int (f_cp xp0)), .val (.int (f_cp xp1)), .val (.int (f_cp xp2)), .val (.ref b4), .val (.int z5), .val (.int z6), .val (.int z7), .val (.int (f_un (f_cp xp0))), .val (.int ((f_un (f_cp xp0)) + (f_un (f_cp xp1)))), .val (.int (((f_un (f_cp xp0)) + (f_un (f_cp xp1))) + (f_un (f_cp xp2)))), .val (.int (0 : Int32)), .val (.int (3 : Int32)), .val (.int (0 : Int32)), .val (.int (3 : Int32)), .unset, .unset, .unset] rfl 113 rfl ?_
      refine o_iload X96 at_113 rfl 115 rfl ?_
      refine o_iconst (v := (0 : Int32)) X96 at_115 rfl 116 rfl ?_
      refine o_iload X96 at_116 rfl 118 rfl ?_
      refine o_iload X96 at_118 rfl 120 rfl ?_
      refine o_iload X96 at_120 rfl 122 rfl ?_
      refine o_callS X96 at_122 (rest := []) (c_pick l Z a0 hw [] n0 _ X96.size (0 : Int32) (0 : Int32) z5 z6 z7 ) (hw _ (List.mem_of_getElem? (i := 22) rfl)) (hw _ (List.mem_of_getElem? (i := 23) rfl)) (hw _ (List.mem_of_getElem? (i := 2) rfl)) (hw _ (List.mem_of_getElem? (i := 24) rfl)) (by decide) 0 (by decide) (by decide) rfl [(.int (0 : Int32)), (.int (0 : Int32)), (.int z5), (.int z6), (.int z7)] rfl pd_6 rfl rfl (Nat.le_of_eq rfl) 1 12 rfl rfl (by decide) (by decide) 125 rfl ?_
      rintro _ T97 _ X97 ⟨rfl, rfl⟩
      rw [show (f_pick (0 : Int32) (0 : Int32) z5 z6 z7) = (0 : Int32) from rfl]
      show OE p e room_1 below s n0 Q' T97 (mkF m 125 #[.val (.int xp0), .val (.int xp1), .val (.int xp2), .val (.int xs), .val (.int (f_cp xp0)), .val (.int (f_cp xp1)), .val (.int (f_cp xp2)), .val (.ref b4), .val (.int z5), .val (.int z6), .val (.int z7), .val (.int (f_un (f_cp xp0))), .val (.int ((f_un (f_cp xp0)) + (f_un (f_cp xp1)))), .val (.int (((f_un (f_cp xp0)) + (f_un (f_cp xp1))) + (f_un (f_cp xp2)))), .val (.int (0 : Int32)), .val (.int (3 : Int32)), .val (.int (0 : Int32)), .val (.int (3 : Int32)), .unset, .unset, .unset] [(.int (0 : Int32))])
      refine o_istore X97 at_125 #[.val (.int xp0), .val (.int xp1), .val (.int xp2), .val (.int xs), .val (.int (f_cp xp0)), .val (.int (f_cp xp1)), .val (.int (f_cp xp2)), .val (.ref b4), .val (.int z5), .val (.int z6), .val (.int z7), .val (.int (f_un (f_cp xp0))), .val (.int ((f_un (f_cp xp0)) + (f_un (f_cp xp1)))), .val (.int (((f_un (f_cp xp0)) + (f_un (f_cp xp1))) + (f_un (f_cp xp2)))), .val (.int (0 : Int32)), .val (.int (3 : Int32)), .val (.int (0 : Int32)), .val (.int (3 : Int32)), .val (.int (0 : Int32)), .unset, .unset] rfl 127 rfl ?_
      refine o_iload X97 at_127 rfl 129 rfl ?_
      refine o_iconst (v := (0 : Int32)) X97 at_129 rfl 130 rfl ?_
      refine o_iload X97 at_130 rfl 132 rfl ?_
      refine o_iload X97 at_132 rfl 134 rfl ?_
      refine o_iload X97 at_134 rfl 136 rfl ?_
      refine o_callS X97 at_136 (rest := []) (c_pick l Z a0 hw [] n0 _ X97.size (3 : Int32) (0 : Int32) z5 z6 z7 ) (hw _ (List.mem_of_getElem? (i := 22) rfl)) (hw _ (List.mem_of_getElem? (i := 23) rfl)) (hw _ (List.mem_of_getElem? (i := 2) rfl)) (hw _ (List.mem_of_getElem? (i := 24) rfl)) (by decide) 0 (by decide) (by decide) rfl [(.int (3 : Int32)), (.int (0 : Int32)), (.int z5), (.int z6), (.int z7)] rfl pd_6 rfl rfl (Nat.le_of_eq rfl) 1 12 rfl rfl (by decide) (by decide) 139 rfl ?_
      rintro _ T98 _ X98 ⟨rfl, rfl⟩
      rw [show (f_pick (3 : Int32) (0 : Int32) z5 z6 z7) = z7 from rfl]
      show OE p e room_1 below s n0 Q' T98 (mkF m 139 #[.val (.int xp0), .val (.int xp1), .val (.int xp2), .val (.int xs), .val (.int (f_cp xp0)), .val (.int (f_cp xp1)), .val (.int (f_cp xp2)), .val (.ref b4), .val (.int z5), .val (.int z6), .val (.int z7), .val (.int (f_un (f_cp xp0))), .val (.int ((f_un (f_cp xp0)) + (f_un (f_cp xp1)))), .val (.int (((f_un (f_cp xp0)) + (f_un (f_cp xp1))) + (f_un (f_cp xp2)))), .val (.int (0 : Int32)), .val (.int (3 : Int32)), .val (.int (0 : Int32)), .val (.int (3 : Int32)), .val (.int (0 : Int32)), .unset, .unset] [(.int z7)])
      refine o_istore X98 at_139 #[.val (.int xp0), .val (.int xp1), .val (.int xp2), .val (.int xs), .val (.int (f_cp xp0)), .val (.int (f_cp xp1)), .val (.int (f_cp xp2)), .val (.ref b4), .val (.int z5), .val (.int z6), .val (.int z7), .val (.int (f_un (f_cp xp0))), .val (.int ((f_un (f_cp xp0)) + (f_un (f_cp xp1)))), .val (.int (((f_un (f_cp xp0)) + (f_un (f_cp xp1))) + (f_un (f_cp xp2)))), .val (.int (0 : Int32)), .val (.int (3 : Int32)), .val (.int (0 : Int32)), .val (.int (3 : Int32)), .val (.int (0 : Int32)), .val (.int z7), .unset] rfl 141 rfl ?_
      refine o_iload X98 at_141 rfl 143 rfl ?_
      refine o_iconst (v := (0 : Int32)) X98 at_143 rfl 144 rfl ?_
      refine o_iload X98 at_144 rfl 146 rfl ?_
      refine o_iload X98 at_146 rfl 148 rfl ?_
      refine o_iload X98 at_148 rfl 150 rfl ?_
      refine o_callS X98 at_150 (rest := []) (c_pick l Z a0 hw [] n0 _ X98.size (3 : Int32) (0 : Int32) (f_un (f_cp xp0)) ((f_un (f_cp xp0)) + (f_un (f_cp xp1))) (((f_un (f_cp xp0)) + (f_un (f_cp xp1))) + (f_un (f_cp xp2))) ) (hw _ (List.mem_of_getElem? (i := 22) rfl)) (hw _ (List.mem_of_getElem? (i := 23) rfl)) (hw _ (List.mem_of_getElem? (i := 2) rfl)) (hw _ (List.mem_of_getElem? (i := 24) rfl)) (by decide) 0 (by decide) (by decide) rfl [(.int (3 : Int32)), (.int (0 : Int32)), (.int (f_un (f_cp xp0))), (.int ((f_un (f_cp xp0)) + (f_un (f_cp xp1)))), (.int (((f_un (f_cp xp0)) + (f_un (f_cp xp1))) + (f_un (f_cp xp2))))] rfl pd_6 rfl rfl (Nat.le_of_eq rfl) 1 12 rfl rfl (by decide) (by decide) 153 rfl ?_
      rintro _ T99 _ X99 ⟨rfl, rfl⟩
      rw [show (f_pick (3 : Int32) (0 : Int32) (f_un (f_cp xp0)) ((f_un (f_cp xp0)) + (f_un (f_cp xp1))) (((f_un (f_cp xp0)) + (f_un (f_cp xp1))) + (f_un (f_cp xp2)))) = (((f_un (f_cp xp0)) + (f_un (f_cp xp1))) + (f_un (f_cp xp2))) from rfl]
      show OE p e room_1 below s n0 Q' T99 (mkF m 153 #[.val (.int xp0), .val (.int xp1), .val (.int xp2), .val (.int xs), .val (.int (f_cp xp0)), .val (.int (f_cp xp1)), .val (.int (f_cp xp2)), .val (.ref b4), .val (.int z5), .val (.int z6), .val (.int z7), .val (.int (f_un (f_cp xp0))), .val (.int ((f_un (f_cp xp0)) + (f_un (f_cp xp1)))), .val (.int (((f_un (f_cp xp0)) + (f_un (f_cp xp1))) + (f_un (f_cp xp2)))), .val (.int (0 : Int32)), .val (.int (3 : Int32)), .val (.int (0 : Int32)), .val (.int (3 : Int32)), .val (.int (0 : Int32)), .val (.int z7), .unset] [(.int (((f_un (f_cp xp0)) + (f_un (f_cp xp1))) + (f_un (f_cp xp2))))])
      refine o_iload X99 at_153 rfl 155 rfl ?_
      refine o_iconst (v := (0 : Int32)) X99 at_155 rfl 156 rfl ?_
      refine o_iload X99 at_156 rfl 158 rfl ?_
      refine o_iload X99 at_158 rfl 160 rfl ?_
      refine o_iload X99 at_160 rfl 162 rfl ?_
      refine o_callS X99 at_162 (rest := [(.int (((f_un (f_cp xp0)) + (f_un (f_cp xp1))) + (f_un (f_cp xp2))))]) (c_pick l Z a0 hw [] n0 _ X99.size (0 : Int32) (0 : Int32) (f_un (f_cp xp0)) ((f_un (f_cp xp0)) + (f_un (f_cp xp1))) (((f_un (f_cp xp0)) + (f_un (f_cp xp1))) + (f_un (f_cp xp2))) ) (hw _ (List.mem_of_getElem? (i := 22) rfl)) (hw _ (List.mem_of_getElem? (i := 23) rfl)) (hw _ (List.mem_of_getElem? (i := 2) rfl)) (hw _ (List.mem_of_getElem? (i := 24) rfl)) (by decide) 1 (by decide) (by decide) rfl [(.int (0 : Int32)), (.int (0 : Int32)), (.int (f_un (f_cp xp0))), (.int ((f_un (f_cp xp0)) + (f_un (f_cp xp1)))), (.int (((f_un (f_cp xp0)) + (f_un (f_cp xp1))) + (f_un (f_cp xp2))))] rfl pd_6 rfl rfl (Nat.le_of_eq rfl) 1 12 rfl rfl (by decide) (by decide) 165 rfl ?_
      rintro _ T100 _ X100 ⟨rfl, rfl⟩
      rw [show (f_pick (0 : Int32) (0 : Int32) (f_un (f_cp xp0)) ((f_un (f_cp xp0)) + (f_un (f_cp xp1))) (((f_un (f_cp xp0)) + (f_un (f_cp xp1))) + (f_un (f_cp xp2)))) = (0 : Int32) from rfl]
      show OE p e room_1 below s n0 Q' T100 (mkF m 165 #[.val (.int xp0), .val (.int xp1), .val (.int xp2), .val (.int xs), .val (.int (f_cp xp0)), .val (.int (f_cp xp1)), .val (.int (f_cp xp2)), .val (.ref b4), .val (.int z5), .val (.int z6), .val (.int z7), .val (.int (f_un (f_cp xp0))), .val (.int ((f_un (f_cp xp0)) + (f_un (f_cp xp1)))), .val (.int (((f_un (f_cp xp0)) + (f_un (f_cp xp1))) + (f_un (f_cp xp2)))), .val (.int (0 : Int32)), .val (.int (3 : Int32)), .val (.int (0 : Int32)), .val (.int (3 : Int32)), .val (.int (0 : Int32)), .val (.int z7), .unset] [(.int (0 : Int32)), (.int (((f_un (f_cp xp0)) + (f_un (f_cp xp1))) + (f_un (f_cp xp2))))])
      refine o_isub X100 at_165 166 rfl ?_
      refine o_istore X100 at_166 #[.val (.int xp0), .val (.int xp1), .val (.int xp2), .val (.int xs), .val (.int (f_cp xp0)), .val (.int (f_cp xp1)), .val (.int (f_cp xp2)), .val (.ref b4), .val (.int z5), .val (.int z6), .val (.int z7), .val (.int (f_un (f_cp xp0))), .val (.int ((f_un (f_cp xp0)) + (f_un (f_cp xp1)))), .val (.int (((f_un (f_cp xp0)) + (f_un (f_cp xp1))) + (f_un (f_cp xp2)))), .val (.int (0 : Int32)), .val (.int (3 : Int32)), .val (.int (0 : Int32)), .val (.int (3 : Int32)), .val (.int (0 : Int32)), .val (.int z7), .val (.int ((((f_un (f_cp xp0)) + (f_un (f_cp xp1))) + (f_un (f_cp xp2))) - (0 : Int32)))] rfl 168 rfl ?_
      refine o_aload X100 at_168 rfl rfl 170 rfl ?_
      refine o_iload X100 at_170 rfl 172 rfl ?_
      refine o_iload X100 at_172 rfl 174 rfl ?_
      refine o_callS X100 at_174 (rest := []) (c_cc l Z a0 hw [] n0 _ X100.size b4 (0 : Int32) z7 vs7 [] H7 0 (ln5 + ln6 + ln7) rfl (by have := hz7; omega) (by omega) (by omega)) (hw _ (List.mem_of_getElem? (i := 25) rfl)) (hw _ (List.mem_of_getElem? (i := 26) rfl)) (hw _ (List.mem_of_getElem? (i := 27) rfl)) (hw _ (List.mem_of_getElem? (i := 28) rfl)) (by decide) 0 (by decide) (by decide) rfl [(.ref b4), (.int (0 : Int32)), (.int z7)] rfl pd_7 rfl rfl (Nat.le_of_eq rfl) 1 12 rfl rfl (by decide) (by decide) 177 rfl ?_
      rintro _ T101 _ X101 ⟨rfl, rfl⟩
      show OE p e room_1 below s n0 Q' T101 (mkF m 177 #[.val (.int xp0), .val (.int xp1), .val (.int xp2), .val (.int xs), .val (.int (f_cp xp0)), .val (.int (f_cp xp1)), .val (.int (f_cp xp2)), .val (.ref b4), .val (.int z5), .val (.int z6), .val (.int z7), .val (.int (f_un (f_cp xp0))), .val (.int ((f_un (f_cp xp0)) + (f_un (f_cp xp1)))), .val (.int (((f_un (f_cp xp0)) + (f_un (f_cp xp1))) + (f_un (f_cp xp2)))), .val (.int (0 : Int32)), .val (.int (3 : Int32)), .val (.int (0 : Int32)), .val (.int (3 : Int32)), .val (.int (0 : Int32)), .val (.int z7), .val (.int ((((f_un (f_cp xp0)) + (f_un (f_cp xp1))) + (f_un (f_cp xp2))) - (0 : Int32)))] [(.int (f_cnt vs7 0 (ln5 + ln6 + ln7)))])
      refine o_iload X101 at_177 rfl 179 rfl ?_
      refine o_icmpNe X101 at_179 186 182 (by decide) (by decide) rfl (fun q => by exfalso; apply q; rw [v_cnt_add, v_cnt_add, B1 _ (by omega), B2 _ (by omega), B3 _ (by omega)]; grind) ?_
      intro hc179
      refine o_iconst (v := (1 : Int32)) X101 at_182 rfl 183 rfl ?_
      refine o_goto X101 at_183 187 (by decide) (by decide) ?_
      exact o_retZ X101 at_187 (by decide) (by decide) (hQ _ _ rfl)
    · rw [hv]
      refine o_iload X10 at_95 rfl 97 rfl ?_
      refine o_iload X10 at_97 rfl 99 rfl ?_
      refine o_callS X10 at_99 (rest := []) (c_min l Z a0 hw [] n0 _ X10.size (1 : Int32) (3 : Int32) ) (hw _ (List.mem_of_getElem? (i := 15) rfl)) (hw _ (List.mem_of_getElem? (i := 16) rfl)) (hw _ (List.mem_of_getElem? (i := 17) rfl)) (hw _ (List.mem_of_getElem? (i := 18) rfl)) (by decide) 0 (by decide) (by decide) rfl [(.int (1 : Int32)), (.int (3 : Int32))] rfl pd_4 rfl rfl (Nat.le_of_eq rfl) 1 12 rfl rfl (by decide) (by decide) 102 rfl ?_
      rintro _ T102 _ X102 ⟨rfl, rfl⟩
      rw [show (f_min (1 : Int32) (3 : Int32)) = (1 : Int32) from rfl]
      show OE p e room_1 below s n0 Q' T102 (mkF m 102 #[.val (.int xp0), .val (.int xp1), .val (.int xp2), .val (.int xs), .val (.int (f_cp xp0)), .val (.int (f_cp xp1)), .val (.int (f_cp xp2)), .val (.ref b4), .val (.int z5), .val (.int z6), .val (.int z7), .val (.int (f_un (f_cp xp0))), .val (.int ((f_un (f_cp xp0)) + (f_un (f_cp xp1)))), .val (.int (((f_un (f_cp xp0)) + (f_un (f_cp xp1))) + (f_un (f_cp xp2)))), .val (.int (1 : Int32)), .val (.int (3 : Int32)), .unset, .unset, .unset, .unset, .unset] [(.int (1 : Int32))])
      refine o_istore X102 at_102 #[.val (.int xp0), .val (.int xp1), .val (.int xp2), .val (.int xs), .val (.int (f_cp xp0)), .val (.int (f_cp xp1)), .val (.int (f_cp xp2)), .val (.ref b4), .val (.int z5), .val (.int z6), .val (.int z7), .val (.int (f_un (f_cp xp0))), .val (.int ((f_un (f_cp xp0)) + (f_un (f_cp xp1)))), .val (.int (((f_un (f_cp xp0)) + (f_un (f_cp xp1))) + (f_un (f_cp xp2)))), .val (.int (1 : Int32)), .val (.int (3 : Int32)), .val (.int (1 : Int32)), .unset, .unset, .unset, .unset] rfl 104 rfl ?_
      refine o_iload X102 at_104 rfl 106 rfl ?_
      refine o_iload X102 at_106 rfl 108 rfl ?_
      refine o_callS X102 at_108 (rest := []) (c_max l Z a0 hw [] n0 _ X102.size (1 : Int32) (3 : Int32) ) (hw _ (List.mem_of_getElem? (i := 19) rfl)) (hw _ (List.mem_of_getElem? (i := 20) rfl)) (hw _ (List.mem_of_getElem? (i := 17) rfl)) (hw _ (List.mem_of_getElem? (i := 21) rfl)) (by decide) 0 (by decide) (by decide) rfl [(.int (1 : Int32)), (.int (3 : Int32))] rfl pd_5 rfl rfl (Nat.le_of_eq rfl) 1 12 rfl rfl (by decide) (by decide) 111 rfl ?_
      rintro _ T103 _ X103 ⟨rfl, rfl⟩
      rw [show (f_max (1 : Int32) (3 : Int32)) = (3 : Int32) from rfl]
      show OE p e room_1 below s n0 Q' T103 (mkF m 111 #[.val (.int xp0), .val (.int xp1), .val (.int xp2), .val (.int xs), .val (.int (f_cp xp0)), .val (.int (f_cp xp1)), .val (.int (f_cp xp2)), .val (.ref b4), .val (.int z5), .val (.int z6), .val (.int z7), .val (.int (f_un (f_cp xp0))), .val (.int ((f_un (f_cp xp0)) + (f_un (f_cp xp1)))), .val (.int (((f_un (f_cp xp0)) + (f_un (f_cp xp1))) + (f_un (f_cp xp2)))), .val (.int (1 : Int32)), .val (.int (3 : Int32)), .val (.int (1 : Int32)), .unset, .unset, .unset, .unset] [(.int (3 : Int32))])
      refine o_istore X103 at_111 #[.val (.int xp0), .val (.int xp1), .val (.int xp2), .val (.int xs), .val (.int (f_cp xp0)), .val (.int (f_cp xp1)), .val (.int (f_cp xp2)), .val (.ref b4), .val (.int z5), .val (.int z6), .val (.int z7), .val (.int (f_un (f_cp xp0))), .val (.int ((f_un (f_cp xp0)) + (f_un (f_cp xp1)))), .val (.int (((f_un (f_cp xp0)) + (f_un (f_cp xp1))) + (f_un (f_cp xp2)))), .val (.int (1 : Int32)), .val (.int (3 : Int32)), .val (.int (1 : Int32)), .val (.int (3 : Int32)), .unset, .unset, .unset] rfl 113 rfl ?_
      refine o_iload X103 at_113 rfl 115 rfl ?_
      refine o_iconst (v := (0 : Int32)) X103 at_115 rfl 116 rfl ?_
      refine o_iload X103 at_116 rfl 118 rfl ?_
      refine o_iload X103 at_118 rfl 120 rfl ?_
      refine o_iload X103 at_120 rfl 122 rfl ?_
      refine o_callS X103 at_122 (rest := []) (c_pick l Z a0 hw [] n0 _ X103.size (1 : Int32) (0 : Int32) z5 z6 z7 ) (hw _ (List.mem_of_getElem? (i := 22) rfl)) (hw _ (List.mem_of_getElem? (i := 23) rfl)) (hw _ (List.mem_of_getElem? (i := 2) rfl)) (hw _ (List.mem_of_getElem? (i := 24) rfl)) (by decide) 0 (by decide) (by decide) rfl [(.int (1 : Int32)), (.int (0 : Int32)), (.int z5), (.int z6), (.int z7)] rfl pd_6 rfl rfl (Nat.le_of_eq rfl) 1 12 rfl rfl (by decide) (by decide) 125 rfl ?_
      rintro _ T104 _ X104 ⟨rfl, rfl⟩
      rw [show (f_pick (1 : Int32) (0 : Int32) z5 z6 z7) = z5 from rfl]
      show OE p e room_1 below s n0 Q' T104 (mkF m 125 #[.val (.int xp0), .val (.int xp1), .val (.int xp2), .val (.int xs), .val (.int (f_cp xp0)), .val (.int (f_cp xp1)), .val (.int (f_cp xp2)), .val (.ref b4), .val (.int z5), .val (.int z6), .val (.int z7), .val (.int (f_un (f_cp xp0))), .val (.int ((f_un (f_cp xp0)) + (f_un (f_cp xp1)))), .val (.int (((f_un (f_cp xp0)) + (f_un (f_cp xp1))) + (f_un (f_cp xp2)))), .val (.int (1 : Int32)), .val (.int (3 : Int32)), .val (.int (1 : Int32)), .val (.int (3 : Int32)), .unset, .unset, .unset] [(.int z5)])
      refine o_istore X104 at_125 #[.val (.int xp0), .val (.int xp1), .val (.int xp2), .val (.int xs), .val (.int (f_cp xp0)), .val (.int (f_cp xp1)), .val (.int (f_cp xp2)), .val (.ref b4), .val (.int z5), .val (.int z6), .val (.int z7), .val (.int (f_un (f_cp xp0))), .val (.int ((f_un (f_cp xp0)) + (f_un (f_cp xp1)))), .val (.int (((f_un (f_cp xp0)) + (f_un (f_cp xp1))) + (f_un (f_cp xp2)))), .val (.int (1 : Int32)), .val (.int (3 : Int32)), .val (.int (1 : Int32)), .val (.int (3 : Int32)), .val (.int z5), .unset, .unset] rfl 127 rfl ?_
      refine o_iload X104 at_127 rfl 129 rfl ?_
      refine o_iconst (v := (0 : Int32)) X104 at_129 rfl 130 rfl ?_
      refine o_iload X104 at_130 rfl 132 rfl ?_
      refine o_iload X104 at_132 rfl 134 rfl ?_
      refine o_iload X104 at_134 rfl 136 rfl ?_
      refine o_callS X104 at_136 (rest := []) (c_pick l Z a0 hw [] n0 _ X104.size (3 : Int32) (0 : Int32) z5 z6 z7 ) (hw _ (List.mem_of_getElem? (i := 22) rfl)) (hw _ (List.mem_of_getElem? (i := 23) rfl)) (hw _ (List.mem_of_getElem? (i := 2) rfl)) (hw _ (List.mem_of_getElem? (i := 24) rfl)) (by decide) 0 (by decide) (by decide) rfl [(.int (3 : Int32)), (.int (0 : Int32)), (.int z5), (.int z6), (.int z7)] rfl pd_6 rfl rfl (Nat.le_of_eq rfl) 1 12 rfl rfl (by decide) (by decide) 139 rfl ?_
      rintro _ T105 _ X105 ⟨rfl, rfl⟩
      rw [show (f_pick (3 : Int32) (0 : Int32) z5 z6 z7) = z7 from rfl]
      show OE p e room_1 below s n0 Q' T105 (mkF m 139 #[.val (.int xp0), .val (.int xp1), .val (.int xp2), .val (.int xs), .val (.int (f_cp xp0)), .val (.int (f_cp xp1)), .val (.int (f_cp xp2)), .val (.ref b4), .val (.int z5), .val (.int z6), .val (.int z7), .val (.int (f_un (f_cp xp0))), .val (.int ((f_un (f_cp xp0)) + (f_un (f_cp xp1)))), .val (.int (((f_un (f_cp xp0)) + (f_un (f_cp xp1))) + (f_un (f_cp xp2)))), .val (.int (1 : Int32)), .val (.int (3 : Int32)), .val (.int (1 : Int32)), .val (.int (3 : Int32)), .val (.int z5), .unset, .unset] [(.int z7)])
      refine o_istore X105 at_139 #[.val (.int xp0), .val (.int xp1), .val (.int xp2), .val (.int xs), .val (.int (f_cp xp0)), .val (.int (f_cp xp1)), .val (.int (f_cp xp2)), .val (.ref b4), .val (.int z5), .val (.int z6), .val (.int z7), .val (.int (f_un (f_cp xp0))), .val (.int ((f_un (f_cp xp0)) + (f_un (f_cp xp1)))), .val (.int (((f_un (f_cp xp0)) + (f_un (f_cp xp1))) + (f_un (f_cp xp2)))), .val (.int (1 : Int32)), .val (.int (3 : Int32)), .val (.int (1 : Int32)), .val (.int (3 : Int32)), .val (.int z5), .val (.int z7), .unset] rfl 141 rfl ?_
      refine o_iload X105 at_141 rfl 143 rfl ?_
      refine o_iconst (v := (0 : Int32)) X105 at_143 rfl 144 rfl ?_
      refine o_iload X105 at_144 rfl 146 rfl ?_
      refine o_iload X105 at_146 rfl 148 rfl ?_
      refine o_iload X105 at_148 rfl 150 rfl ?_
      refine o_callS X105 at_150 (rest := []) (c_pick l Z a0 hw [] n0 _ X105.size (3 : Int32) (0 : Int32) (f_un (f_cp xp0)) ((f_un (f_cp xp0)) + (f_un (f_cp xp1))) (((f_un (f_cp xp0)) + (f_un (f_cp xp1))) + (f_un (f_cp xp2))) ) (hw _ (List.mem_of_getElem? (i := 22) rfl)) (hw _ (List.mem_of_getElem? (i := 23) rfl)) (hw _ (List.mem_of_getElem? (i := 2) rfl)) (hw _ (List.mem_of_getElem? (i := 24) rfl)) (by decide) 0 (by decide) (by decide) rfl [(.int (3 : Int32)), (.int (0 : Int32)), (.int (f_un (f_cp xp0))), (.int ((f_un (f_cp xp0)) + (f_un (f_cp xp1)))), (.int (((f_un (f_cp xp0)) + (f_un (f_cp xp1))) + (f_un (f_cp xp2))))] rfl pd_6 rfl rfl (Nat.le_of_eq rfl) 1 12 rfl rfl (by decide) (by decide) 153 rfl ?_
      rintro _ T106 _ X106 ⟨rfl, rfl⟩
      rw [show (f_pick (3 : Int32) (0 : Int32) (f_un (f_cp xp0)) ((f_un (f_cp xp0)) + (f_un (f_cp xp1))) (((f_un (f_cp xp0)) + (f_un (f_cp xp1))) + (f_un (f_cp xp2)))) = (((f_un (f_cp xp0)) + (f_un (f_cp xp1))) + (f_un (f_cp xp2))) from rfl]
      show OE p e room_1 below s n0 Q' T106 (mkF m 153 #[.val (.int xp0), .val (.int xp1), .val (.int xp2), .val (.int xs), .val (.int (f_cp xp0)), .val (.int (f_cp xp1)), .val (.int (f_cp xp2)), .val (.ref b4), .val (.int z5), .val (.int z6), .val (.int z7), .val (.int (f_un (f_cp xp0))), .val (.int ((f_un (f_cp xp0)) + (f_un (f_cp xp1)))), .val (.int (((f_un (f_cp xp0)) + (f_un (f_cp xp1))) + (f_un (f_cp xp2)))), .val (.int (1 : Int32)), .val (.int (3 : Int32)), .val (.int (1 : Int32)), .val (.int (3 : Int32)), .val (.int z5), .val (.int z7), .unset] [(.int (((f_un (f_cp xp0)) + (f_un (f_cp xp1))) + (f_un (f_cp xp2))))])
      refine o_iload X106 at_153 rfl 155 rfl ?_
      refine o_iconst (v := (0 : Int32)) X106 at_155 rfl 156 rfl ?_
      refine o_iload X106 at_156 rfl 158 rfl ?_
      refine o_iload X106 at_158 rfl 160 rfl ?_
      refine o_iload X106 at_160 rfl 162 rfl ?_
      refine o_callS X106 at_162 (rest := [(.int (((f_un (f_cp xp0)) + (f_un (f_cp xp1))) + (f_un (f_cp xp2))))]) (c_pick l Z a0 hw [] n0 _ X106.size (1 : Int32) (0 : Int32) (f_un (f_cp xp0)) ((f_un (f_cp xp0)) + (f_un (f_cp xp1))) (((f_un (f_cp xp0)) + (f_un (f_cp xp1))) + (f_un (f_cp xp2))) ) (hw _ (List.mem_of_getElem? (i := 22) rfl)) (hw _ (List.mem_of_getElem? (i := 23) rfl)) (hw _ (List.mem_of_getElem? (i := 2) rfl)) (hw _ (List.mem_of_getElem? (i := 24) rfl)) (by decide) 1 (by decide) (by decide) rfl [(.int (1 : Int32)), (.int (0 : Int32)), (.int (f_un (f_cp xp0))), (.int ((f_un (f_cp xp0)) + (f_un (f_cp xp1)))), (.int (((f_un (f_cp xp0)) + (f_un (f_cp xp1))) + (f_un (f_cp xp2))))] rfl pd_6 rfl rfl (Nat.le_of_eq rfl) 1 12 rfl rfl (by decide) (by decide) 165 rfl ?_
      rintro _ T107 _ X107 ⟨rfl, rfl⟩
      rw [show (f_pick (1 : Int32) (0 : Int32) (f_un (f_cp xp0)) ((f_un (f_cp xp0)) + (f_un (f_cp xp1))) (((f_un (f_cp xp0)) + (f_un (f_cp xp1))) + (f_un (f_cp xp2)))) = (f_un (f_cp xp0)) from rfl]
      show OE p e room_1 below s n0 Q' T107 (mkF m 165 #[.val (.int xp0), .val (.int xp1), .val (.int xp2), .val (.int xs), .val (.int (f_cp xp0)), .val (.int (f_cp xp1)), .val (.int (f_cp xp2)), .val (.ref b4), .val (.int z5), .val (.int z6), .val (.int z7), .val (.int (f_un (f_cp xp0))), .val (.int ((f_un (f_cp xp0)) + (f_un (f_cp xp1)))), .val (.int (((f_un (f_cp xp0)) + (f_un (f_cp xp1))) + (f_un (f_cp xp2)))), .val (.int (1 : Int32)), .val (.int (3 : Int32)), .val (.int (1 : Int32)), .val (.int (3 : Int32)), .val (.int z5), .val (.int z7), .unset] [(.int (f_un (f_cp xp0))), (.int (((f_un (f_cp xp0)) + (f_un (f_cp xp1))) + (f_un (f_cp xp2))))])
      refine o_isub X107 at_165 166 rfl ?_
      refine o_istore X107 at_166 #[.val (.int xp0), .val (.int xp1), .val (.int xp2), .val (.int xs), .val (.int (f_cp xp0)), .val (.int (f_cp xp1)), .val (.int (f_cp xp2)), .val (.ref b4), .val (.int z5), .val (.int z6), .val (.int z7), .val (.int (f_un (f_cp xp0))), .val (.int ((f_un (f_cp xp0)) + (f_un (f_cp xp1)))), .val (.int (((f_un (f_cp xp0)) + (f_un (f_cp xp1))) + (f_un (f_cp xp2)))), .val (.int (1 : Int32)), .val (.int (3 : Int32)), .val (.int (1 : Int32)), .val (.int (3 : Int32)), .val (.int z5), .val (.int z7), .val (.int ((((f_un (f_cp xp0)) + (f_un (f_cp xp1))) + (f_un (f_cp xp2))) - (f_un (f_cp xp0))))] rfl 168 rfl ?_
      refine o_aload X107 at_168 rfl rfl 170 rfl ?_
      refine o_iload X107 at_170 rfl 172 rfl ?_
      refine o_iload X107 at_172 rfl 174 rfl ?_
      refine o_callS X107 at_174 (rest := []) (c_cc l Z a0 hw [] n0 _ X107.size b4 z5 z7 vs7 [] H7 (0 + ln5) (ln6 + ln7) (by have := hz5; omega) (by have := hz7; omega) (by omega) (by omega)) (hw _ (List.mem_of_getElem? (i := 25) rfl)) (hw _ (List.mem_of_getElem? (i := 26) rfl)) (hw _ (List.mem_of_getElem? (i := 27) rfl)) (hw _ (List.mem_of_getElem? (i := 28) rfl)) (by decide) 0 (by decide) (by decide) rfl [(.ref b4), (.int z5), (.int z7)] rfl pd_7 rfl rfl (Nat.le_of_eq rfl) 1 12 rfl rfl (by decide) (by decide) 177 rfl ?_
      rintro _ T108 _ X108 ⟨rfl, rfl⟩
      show OE p e room_1 below s n0 Q' T108 (mkF m 177 #[.val (.int xp0), .val (.int xp1), .val (.int xp2), .val (.int xs), .val (.int (f_cp xp0)), .val (.int (f_cp xp1)), .val (.int (f_cp xp2)), .val (.ref b4), .val (.int z5), .val (.int z6), .val (.int z7), .val (.int (f_un (f_cp xp0))), .val (.int ((f_un (f_cp xp0)) + (f_un (f_cp xp1)))), .val (.int (((f_un (f_cp xp0)) + (f_un (f_cp xp1))) + (f_un (f_cp xp2)))), .val (.int (1 : Int32)), .val (.int (3 : Int32)), .val (.int (1 : Int32)), .val (.int (3 : Int32)), .val (.int z5), .val (.int z7), .val (.int ((((f_un (f_cp xp0)) + (f_un (f_cp xp1))) + (f_un (f_cp xp2))) - (f_un (f_cp xp0))))] [(.int (f_cnt vs7 (0 + ln5) (ln6 + ln7)))])
      refine o_iload X108 at_177 rfl 179 rfl ?_
      refine o_icmpNe X108 at_179 186 182 (by decide) (by decide) rfl (fun q => by exfalso; apply q; rw [v_cnt_add, B2 _ (by omega), B3 _ (by omega)]; grind) ?_
      intro hc179
      refine o_iconst (v := (1 : Int32)) X108 at_182 rfl 183 rfl ?_
      refine o_goto X108 at_183 187 (by decide) (by decide) ?_
      exact o_retZ X108 at_187 (by decide) (by decide) (hQ _ _ rfl)
    · rw [hv]
      refine o_iload X10 at_95 rfl 97 rfl ?_
      refine o_iload X10 at_97 rfl 99 rfl ?_
      refine o_callS X10 at_99 (rest := []) (c_min l Z a0 hw [] n0 _ X10.size (2 : Int32) (3 : Int32) ) (hw _ (List.mem_of_getElem? (i := 15) rfl)) (hw _ (List.mem_of_getElem? (i := 16) rfl)) (hw _ (List.mem_of_getElem? (i := 17) rfl)) (hw _ (List.mem_of_getElem? (i := 18) rfl)) (by decide) 0 (by decide) (by decide) rfl [(.int (2 : Int32)), (.int (3 : Int32))] rfl pd_4 rfl rfl (Nat.le_of_eq rfl) 1 12 rfl rfl (by decide) (by decide) 102 rfl ?_
      rintro _ T109 _ X109 ⟨rfl, rfl⟩
      rw [show (f_min (2 : Int32) (3 : Int32)) = (2 : Int32) from rfl]
      show OE p e room_1 below s n0 Q' T109 (mkF m 102 #[.val (.int xp0), .val (.int xp1), .val (.int xp2), .val (.int xs), .val (.int (f_cp xp0)), .val (.int (f_cp xp1)), .val (.int (f_cp xp2)), .val (.ref b4), .val (.int z5), .val (.int z6), .val (.int z7), .val (.int (f_un (f_cp xp0))), .val (.int ((f_un (f_cp xp0)) + (f_un (f_cp xp1)))), .val (.int (((f_un (f_cp xp0)) + (f_un (f_cp xp1))) + (f_un (f_cp xp2)))), .val (.int (2 : Int32)), .val (.int (3 : Int32)), .unset, .unset, .unset, .unset, .unset] [(.int (2 : Int32))])
      refine o_istore X109 at_102 #[.val (.int xp0), .val (.int xp1), .val (.int xp2), .val (.int xs), .val (.int (f_cp xp0)), .val (.int (f_cp xp1)), .val (.int (f_cp xp2)), .val (.ref b4), .val (.int z5), .val (.int z6), .val (.int z7), .val (.int (f_un (f_cp xp0))), .val (.int ((f_un (f_cp xp0)) + (f_un (f_cp xp1)))), .val (.int (((f_un (f_cp xp0)) + (f_un (f_cp xp1))) + (f_un (f_cp xp2)))), .val (.int (2 : Int32)), .val (.int (3 : Int32)), .val (.int (2 : Int32)), .unset, .unset, .unset, .unset] rfl 104 rfl ?_
      refine o_iload X109 at_104 rfl 106 rfl ?_
      refine o_iload X109 at_106 rfl 108 rfl ?_
      refine o_callS X109 at_108 (rest := []) (c_max l Z a0 hw [] n0 _ X109.size (2 : Int32) (3 : Int32) ) (hw _ (List.mem_of_getElem? (i := 19) rfl)) (hw _ (List.mem_of_getElem? (i := 20) rfl)) (hw _ (List.mem_of_getElem? (i := 17) rfl)) (hw _ (List.mem_of_getElem? (i := 21) rfl)) (by decide) 0 (by decide) (by decide) rfl [(.int (2 : Int32)), (.int (3 : Int32))] rfl pd_5 rfl rfl (Nat.le_of_eq rfl) 1 12 rfl rfl (by decide) (by decide) 111 rfl ?_
      rintro _ T110 _ X110 ⟨rfl, rfl⟩
      rw [show (f_max (2 : Int32) (3 : Int32)) = (3 : Int32) from rfl]
      show OE p e room_1 below s n0 Q' T110 (mkF m 111 #[.val (.int xp0), .val (.int xp1), .val (.int xp2), .val (.int xs), .val (.int (f_cp xp0)), .val (.int (f_cp xp1)), .val (.int (f_cp xp2)), .val (.ref b4), .val (.int z5), .val (.int z6), .val (.int z7), .val (.int (f_un (f_cp xp0))), .val (.int ((f_un (f_cp xp0)) + (f_un (f_cp xp1)))), .val (.int (((f_un (f_cp xp0)) + (f_un (f_cp xp1))) + (f_un (f_cp xp2)))), .val (.int (2 : Int32)), .val (.int (3 : Int32)), .val (.int (2 : Int32)), .unset, .unset, .unset, .unset] [(.int (3 : Int32))])
      refine o_istore X110 at_111 #[.val (.int xp0), .val (.int xp1), .val (.int xp2), .val (.int xs), .val (.int (f_cp xp0)), .val (.int (f_cp xp1)), .val (.int (f_cp xp2)), .val (.ref b4), .val (.int z5), .val (.int z6), .val (.int z7), .val (.int (f_un (f_cp xp0))), .val (.int ((f_un (f_cp xp0)) + (f_un (f_cp xp1)))), .val (.int (((f_un (f_cp xp0)) + (f_un (f_cp xp1))) + (f_un (f_cp xp2)))), .val (.int (2 : Int32)), .val (.int (3 : Int32)), .val (.int (2 : Int32)), .val (.int (3 : Int32)), .unset, .unset, .unset] rfl 113 rfl ?_
      refine o_iload X110 at_113 rfl 115 rfl ?_
      refine o_iconst (v := (0 : Int32)) X110 at_115 rfl 116 rfl ?_
      refine o_iload X110 at_116 rfl 118 rfl ?_
      refine o_iload X110 at_118 rfl 120 rfl ?_
      refine o_iload X110 at_120 rfl 122 rfl ?_
      refine o_callS X110 at_122 (rest := []) (c_pick l Z a0 hw [] n0 _ X110.size (2 : Int32) (0 : Int32) z5 z6 z7 ) (hw _ (List.mem_of_getElem? (i := 22) rfl)) (hw _ (List.mem_of_getElem? (i := 23) rfl)) (hw _ (List.mem_of_getElem? (i := 2) rfl)) (hw _ (List.mem_of_getElem? (i := 24) rfl)) (by decide) 0 (by decide) (by decide) rfl [(.int (2 : Int32)), (.int (0 : Int32)), (.int z5), (.int z6), (.int z7)] rfl pd_6 rfl rfl (Nat.le_of_eq rfl) 1 12 rfl rfl (by decide) (by decide) 125 rfl ?_
      rintro _ T111 _ X111 ⟨rfl, rfl⟩
      rw [show (f_pick (2 : Int32) (0 : Int32) z5 z6 z7) = z6 from rfl]
      show OE p e room_1 below s n0 Q' T111 (mkF m 125 #[.val (.int xp0), .val (.int xp1), .val (.int xp2), .val (.int xs), .val (.int (f_cp xp0)), .val (.int (f_cp xp1)), .val (.int (f_cp xp2)), .val (.ref b4), .val (.int z5), .val (.int z6), .val (.int z7), .val (.int (f_un (f_cp xp0))), .val (.int ((f_un (f_cp xp0)) + (f_un (f_cp xp1)))), .val (.int (((f_un (f_cp xp0)) + (f_un (f_cp xp1))) + (f_un (f_cp xp2)))), .val (.int (2 : Int32)), .val (.int (3 : Int32)), .val (.int (2 : Int32)), .val (.int (3 : Int32)), .unset, .unset, .unset] [(.int z6)])
      refine o_istore X111 at_125 #[.val (.int xp0), .val (.int xp1), .val (.int xp2), .val (.int xs), .val (.int (f_cp xp0)), .val (.int (f_cp xp1)), .val (.int (f_cp xp2)), .val (.ref b4), .val (.int z5), .val (.int z6), .val (.int z7), .val (.int (f_un (f_cp xp0))), .val (.int ((f_un (f_cp xp0)) + (f_un (f_cp xp1)))), .val (.int (((f_un (f_cp xp0)) + (f_un (f_cp xp1))) + (f_un (f_cp xp2)))), .val (.int (2 : Int32)), .val (.int (3 : Int32)), .val (.int (2 : Int32)), .val (.int (3 : Int32)), .val (.int z6), .unset, .unset] rfl 127 rfl ?_
      refine o_iload X111 at_127 rfl 129 rfl ?_
      refine o_iconst (v := (0 : Int32)) X111 at_129 rfl 130 rfl ?_
      refine o_iload X111 at_130 rfl 132 rfl ?_
      refine o_iload X111 at_132 rfl 134 rfl ?_
      refine o_iload X111 at_134 rfl 136 rfl ?_
      refine o_callS X111 at_136 (rest := []) (c_pick l Z a0 hw [] n0 _ X111.size (3 : Int32) (0 : Int32) z5 z6 z7 ) (hw _ (List.mem_of_getElem? (i := 22) rfl)) (hw _ (List.mem_of_getElem? (i := 23) rfl)) (hw _ (List.mem_of_getElem? (i := 2) rfl)) (hw _ (List.mem_of_getElem? (i := 24) rfl)) (by decide) 0 (by decide) (by decide) rfl [(.int (3 : Int32)), (.int (0 : Int32)), (.int z5), (.int z6), (.int z7)] rfl pd_6 rfl rfl (Nat.le_of_eq rfl) 1 12 rfl rfl (by decide) (by decide) 139 rfl ?_
      rintro _ T112 _ X112 ⟨rfl, rfl⟩
      rw [show (f_pick (3 : Int32) (0 : Int32) z5 z6 z7) = z7 from rfl]
      show OE p e room_1 below s n0 Q' T112 (mkF m 139 #[.val (.int xp0), .val (.int xp1), .val (.int xp2), .val (.int xs), .val (.int (f_cp xp0)), .val (.int (f_cp xp1)), .val (.int (f_cp xp2)), .val (.ref b4), .val (.int z5), .val (.int z6), .val (.int z7), .val (.int (f_un (f_cp xp0))), .val (.int ((f_un (f_cp xp0)) + (f_un (f_cp xp1)))), .val (.int (((f_un (f_cp xp0)) + (f_un (f_cp xp1))) + (f_un (f_cp xp2)))), .val (.int (2 : Int32)), .val (.int (3 : Int32)), .val (.int (2 : Int32)), .val (.int (3 : Int32)), .val (.int z6), .unset, .unset] [(.int z7)])
      refine o_istore X112 at_139 #[.val (.int xp0), .val (.int xp1), .val (.int xp2), .val (.int xs), .val (.int (f_cp xp0)), .val (.int (f_cp xp1)), .val (.int (f_cp xp2)), .val (.ref b4), .val (.int z5), .val (.int z6), .val (.int z7), .val (.int (f_un (f_cp xp0))), .val (.int ((f_un (f_cp xp0)) + (f_un (f_cp xp1)))), .val (.int (((f_un (f_cp xp0)) + (f_un (f_cp xp1))) + (f_un (f_cp xp2)))), .val (.int (2 : Int32)), .val (.int (3 : Int32)), .val (.int (2 : Int32)), .val (.int (3 : Int32)), .val (.int z6), .val (.int z7), .unset] rfl 141 rfl ?_
      refine o_iload X112 at_141 rfl 143 rfl ?_
      refine o_iconst (v := (0 : Int32)) X112 at_143 rfl 144 rfl ?_
      refine o_iload X112 at_144 rfl 146 rfl ?_
      refine o_iload X112 at_146 rfl 148 rfl ?_
      refine o_iload X112 at_148 rfl 150 rfl ?_
      refine o_callS X112 at_150 (rest := []) (c_pick l Z a0 hw [] n0 _ X112.size (3 : Int32) (0 : Int32) (f_un (f_cp xp0)) ((f_un (f_cp xp0)) + (f_un (f_cp xp1))) (((f_un (f_cp xp0)) + (f_un (f_cp xp1))) + (f_un (f_cp xp2))) ) (hw _ (List.mem_of_getElem? (i := 22) rfl)) (hw _ (List.mem_of_getElem? (i := 23) rfl)) (hw _ (List.mem_of_getElem? (i := 2) rfl)) (hw _ (List.mem_of_getElem? (i := 24) rfl)) (by decide) 0 (by decide) (by decide) rfl [(.int (3 : Int32)), (.int (0 : Int32)), (.int (f_un (f_cp xp0))), (.int ((f_un (f_cp xp0)) + (f_un (f_cp xp1)))), (.int (((f_un (f_cp xp0)) + (f_un (f_cp xp1))) + (f_un (f_cp xp2))))] rfl pd_6 rfl rfl (Nat.le_of_eq rfl) 1 12 rfl rfl (by decide) (by decide) 153 rfl ?_
      rintro _ T113 _ X113 ⟨rfl, rfl⟩
      rw [show (f_pick (3 : Int32) (0 : Int32) (f_un (f_cp xp0)) ((f_un (f_cp xp0)) + (f_un (f_cp xp1))) (((f_un (f_cp xp0)) + (f_un (f_cp xp1))) + (f_un (f_cp xp2)))) = (((f_un (f_cp xp0)) + (f_un (f_cp xp1))) + (f_un (f_cp xp2))) from rfl]
      show OE p e room_1 below s n0 Q' T113 (mkF m 153 #[.val (.int xp0), .val (.int xp1), .val (.int xp2), .val (.int xs), .val (.int (f_cp xp0)), .val (.int (f_cp xp1)), .val (.int (f_cp xp2)), .val (.ref b4), .val (.int z5), .val (.int z6), .val (.int z7), .val (.int (f_un (f_cp xp0))), .val (.int ((f_un (f_cp xp0)) + (f_un (f_cp xp1)))), .val (.int (((f_un (f_cp xp0)) + (f_un (f_cp xp1))) + (f_un (f_cp xp2)))), .val (.int (2 : Int32)), .val (.int (3 : Int32)), .val (.int (2 : Int32)), .val (.int (3 : Int32)), .val (.int z6), .val (.int z7), .unset] [(.int (((f_un (f_cp xp0)) + (f_un (f_cp xp1))) + (f_un (f_cp xp2))))])
      refine o_iload X113 at_153 rfl 155 rfl ?_
      refine o_iconst (v := (0 : Int32)) X113 at_155 rfl 156 rfl ?_
      refine o_iload X113 at_156 rfl 158 rfl ?_
      refine o_iload X113 at_158 rfl 160 rfl ?_
      refine o_iload X113 at_160 rfl 162 rfl ?_
      refine o_callS X113 at_162 (rest := [(.int (((f_un (f_cp xp0)) + (f_un (f_cp xp1))) + (f_un (f_cp xp2))))]) (c_pick l Z a0 hw [] n0 _ X113.size (2 : Int32) (0 : Int32) (f_un (f_cp xp0)) ((f_un (f_cp xp0)) + (f_un (f_cp xp1))) (((f_un (f_cp xp0)) + (f_un (f_cp xp1))) + (f_un (f_cp xp2))) ) (hw _ (List.mem_of_getElem? (i := 22) rfl)) (hw _ (List.mem_of_getElem? (i := 23) rfl)) (hw _ (List.mem_of_getElem? (i := 2) rfl)) (hw _ (List.mem_of_getElem? (i := 24) rfl)) (by decide) 1 (by decide) (by decide) rfl [(.int (2 : Int32)), (.int (0 : Int32)), (.int (f_un (f_cp xp0))), (.int ((f_un (f_cp xp0)) + (f_un (f_cp xp1)))), (.int (((f_un (f_cp xp0)) + (f_un (f_cp xp1))) + (f_un (f_cp xp2))))] rfl pd_6 rfl rfl (Nat.le_of_eq rfl) 1 12 rfl rfl (by decide) (by decide) 165 rfl ?_
      rintro _ T114 _ X114 ⟨rfl, rfl⟩
      rw [show (f_pick (2 : Int32) (0 : Int32) (f_un (f_cp xp0)) ((f_un (f_cp xp0)) + (f_un (f_cp xp1))) (((f_un (f_cp xp0)) + (f_un (f_cp xp1))) + (f_un (f_cp xp2)))) = ((f_un (f_cp xp0)) + (f_un (f_cp xp1))) from rfl]
      show OE p e room_1 below s n0 Q' T114 (mkF m 165 #[.val (.int xp0), .val (.int xp1), .val (.int xp2), .val (.int xs), .val (.int (f_cp xp0)), .val (.int (f_cp xp1)), .val (.int (f_cp xp2)), .val (.ref b4), .val (.int z5), .val (.int z6), .val (.int z7), .val (.int (f_un (f_cp xp0))), .val (.int ((f_un (f_cp xp0)) + (f_un (f_cp xp1)))), .val (.int (((f_un (f_cp xp0)) + (f_un (f_cp xp1))) + (f_un (f_cp xp2)))), .val (.int (2 : Int32)), .val (.int (3 : Int32)), .val (.int (2 : Int32)), .val (.int (3 : Int32)), .val (.int z6), .val (.int z7), .unset] [(.int ((f_un (f_cp xp0)) + (f_un (f_cp xp1)))), (.int (((f_un (f_cp xp0)) + (f_un (f_cp xp1))) + (f_un (f_cp xp2))))])
      refine o_isub X114 at_165 166 rfl ?_
      refine o_istore X114 at_166 #[.val (.int xp0), .val (.int xp1), .val (.int xp2), .val (.int xs), .val (.int (f_cp xp0)), .val (.int (f_cp xp1)), .val (.int (f_cp xp2)), .val (.ref b4), .val (.int z5), .val (.int z6), .val (.int z7), .val (.int (f_un (f_cp xp0))), .val (.int ((f_un (f_cp xp0)) + (f_un (f_cp xp1)))), .val (.int (((f_un (f_cp xp0)) + (f_un (f_cp xp1))) + (f_un (f_cp xp2)))), .val (.int (2 : Int32)), .val (.int (3 : Int32)), .val (.int (2 : Int32)), .val (.int (3 : Int32)), .val (.int z6), .val (.int z7), .val (.int ((((f_un (f_cp xp0)) + (f_un (f_cp xp1))) + (f_un (f_cp xp2))) - ((f_un (f_cp xp0)) + (f_un (f_cp xp1)))))] rfl 168 rfl ?_
      refine o_aload X114 at_168 rfl rfl 170 rfl ?_
      refine o_iload X114 at_170 rfl 172 rfl ?_
      refine o_iload X114 at_172 rfl 174 rfl ?_
      refine o_callS X114 at_174 (rest := []) (c_cc l Z a0 hw [] n0 _ X114.size b4 z6 z7 vs7 [] H7 (0 + ln5 + ln6) (ln7) (by have := hz6; omega) (by have := hz7; omega) (by omega) (by omega)) (hw _ (List.mem_of_getElem? (i := 25) rfl)) (hw _ (List.mem_of_getElem? (i := 26) rfl)) (hw _ (List.mem_of_getElem? (i := 27) rfl)) (hw _ (List.mem_of_getElem? (i := 28) rfl)) (by decide) 0 (by decide) (by decide) rfl [(.ref b4), (.int z6), (.int z7)] rfl pd_7 rfl rfl (Nat.le_of_eq rfl) 1 12 rfl rfl (by decide) (by decide) 177 rfl ?_
      rintro _ T115 _ X115 ⟨rfl, rfl⟩
      show OE p e room_1 below s n0 Q' T115 (mkF m 177 #[.val (.int xp0), .val (.int xp1), .val (.int xp2), .val (.int xs), .val (.int (f_cp xp0)), .val (.int (f_cp xp1)), .val (.int (f_cp xp2)), .val (.ref b4), .val (.int z5), .val (.int z6), .val (.int z7), .val (.int (f_un (f_cp xp0))), .val (.int ((f_un (f_cp xp0)) + (f_un (f_cp xp1)))), .val (.int (((f_un (f_cp xp0)) + (f_un (f_cp xp1))) + (f_un (f_cp xp2)))), .val (.int (2 : Int32)), .val (.int (3 : Int32)), .val (.int (2 : Int32)), .val (.int (3 : Int32)), .val (.int z6), .val (.int z7), .val (.int ((((f_un (f_cp xp0)) + (f_un (f_cp xp1))) + (f_un (f_cp xp2))) - ((f_un (f_cp xp0)) + (f_un (f_cp xp1)))))] [(.int (f_cnt vs7 (0 + ln5 + ln6) (ln7)))])
      refine o_iload X115 at_177 rfl 179 rfl ?_
      refine o_icmpNe X115 at_179 186 182 (by decide) (by decide) rfl (fun q => by exfalso; apply q; rw [B3 _ (by omega)]; grind) ?_
      intro hc179
      refine o_iconst (v := (1 : Int32)) X115 at_182 rfl 183 rfl ?_
      refine o_goto X115 at_183 187 (by decide) (by decide) ?_
      exact o_retZ X115 at_187 (by decide) (by decide) (hQ _ _ rfl)
    · rw [hv]
      refine o_iload X10 at_95 rfl 97 rfl ?_
      refine o_iload X10 at_97 rfl 99 rfl ?_
      refine o_callS X10 at_99 (rest := []) (c_min l Z a0 hw [] n0 _ X10.size (3 : Int32) (3 : Int32) ) (hw _ (List.mem_of_getElem? (i := 15) rfl)) (hw _ (List.mem_of_getElem? (i := 16) rfl)) (hw _ (List.mem_of_getElem? (i := 17) rfl)) (hw _ (List.mem_of_getElem? (i := 18) rfl)) (by decide) 0 (by decide) (by decide) rfl [(.int (3 : Int32)), (.int (3 : Int32))] rfl pd_4 rfl rfl (Nat.le_of_eq rfl) 1 12 rfl rfl (by decide) (by decide) 102 rfl ?_
      rintro _ T116 _ X116 ⟨rfl, rfl⟩
      rw [show (f_min (3 : Int32) (3 : Int32)) = (3 : Int32) from rfl]
      show OE p e room_1 below s n0 Q' T116 (mkF m 102 #[.val (.int xp0), .val (.int xp1), .val (.int xp2), .val (.int xs), .val (.int (f_cp xp0)), .val (.int (f_cp xp1)), .val (.int (f_cp xp2)), .val (.ref b4), .val (.int z5), .val (.int z6), .val (.int z7), .val (.int (f_un (f_cp xp0))), .val (.int ((f_un (f_cp xp0)) + (f_un (f_cp xp1)))), .val (.int (((f_un (f_cp xp0)) + (f_un (f_cp xp1))) + (f_un (f_cp xp2)))), .val (.int (3 : Int32)), .val (.int (3 : Int32)), .unset, .unset, .unset, .unset, .unset] [(.int (3 : Int32))])
      refine o_istore X116 at_102 #[.val (.int xp0), .val (.int xp1), .val (.int xp2), .val (.int xs), .val (.int (f_cp xp0)), .val (.int (f_cp xp1)), .val (.int (f_cp xp2)), .val (.ref b4), .val (.int z5), .val (.int z6), .val (.int z7), .val (.int (f_un (f_cp xp0))), .val (.int ((f_un (f_cp xp0)) + (f_un (f_cp xp1)))), .val (.int (((f_un (f_cp xp0)) + (f_un (f_cp xp1))) + (f_un (f_cp xp2)))), .val (.int (3 : Int32)), .val (.int (3 : Int32)), .val (.int (3 : Int32)), .unset, .unset, .unset, .unset] rfl 104 rfl ?_
      refine o_iload X116 at_104 rfl 106 rfl ?_
      refine o_iload X116 at_106 rfl 108 rfl ?_
      refine o_callS X116 at_108 (rest := []) (c_max l Z a0 hw [] n0 _ X116.size (3 : Int32) (3 : Int32) ) (hw _ (List.mem_of_getElem? (i := 19) rfl)) (hw _ (List.mem_of_getElem? (i := 20) rfl)) (hw _ (List.mem_of_getElem? (i := 17) rfl)) (hw _ (List.mem_of_getElem? (i := 21) rfl)) (by decide) 0 (by decide) (by decide) rfl [(.int (3 : Int32)), (.int (3 : Int32))] rfl pd_5 rfl rfl (Nat.le_of_eq rfl) 1 12 rfl rfl (by decide) (by decide) 111 rfl ?_
      rintro _ T117 _ X117 ⟨rfl, rfl⟩
      rw [show (f_max (3 : Int32) (3 : Int32)) = (3 : Int32) from rfl]
      show OE p e room_1 below s n0 Q' T117 (mkF m 111 #[.val (.int xp0), .val (.int xp1), .val (.int xp2), .val (.int xs), .val (.int (f_cp xp0)), .val (.int (f_cp xp1)), .val (.int (f_cp xp2)), .val (.ref b4), .val (.int z5), .val (.int z6), .val (.int z7), .val (.int (f_un (f_cp xp0))), .val (.int ((f_un (f_cp xp0)) + (f_un (f_cp xp1)))), .val (.int (((f_un (f_cp xp0)) + (f_un (f_cp xp1))) + (f_un (f_cp xp2)))), .val (.int (3 : Int32)), .val (.int (3 : Int32)), .val (.int (3 : Int32)), .unset, .unset, .unset, .unset] [(.int (3 : Int32))])
      refine o_istore X117 at_111 #[.val (.int xp0), .val (.int xp1), .val (.int xp2), .val (.int xs), .val (.int (f_cp xp0)), .val (.int (f_cp xp1)), .val (.int (f_cp xp2)), .val (.ref b4), .val (.int z5), .val (.int z6), .val (.int z7), .val (.int (f_un (f_cp xp0))), .val (.int ((f_un (f_cp xp0)) + (f_un (f_cp xp1)))), .val (.int (((f_un (f_cp xp0)) + (f_un (f_cp xp1))) + (f_un (f_cp xp2)))), .val (.int (3 : Int32)), .val (.int (3 : Int32)), .val (.int (3 : Int32)), .val (.int (3 : Int32)), .unset, .unset, .unset] rfl 113 rfl ?_
      refine o_iload X117 at_113 rfl 115 rfl ?_
      refine o_iconst (v := (0 : Int32)) X117 at_115 rfl 116 rfl ?_
      refine o_iload X117 at_116 rfl 118 rfl ?_
      refine o_iload X117 at_118 rfl 120 rfl ?_
      refine o_iload X117 at_120 rfl 122 rfl ?_
      refine o_callS X117 at_122 (rest := []) (c_pick l Z a0 hw [] n0 _ X117.size (3 : Int32) (0 : Int32) z5 z6 z7 ) (hw _ (List.mem_of_getElem? (i := 22) rfl)) (hw _ (List.mem_of_getElem? (i := 23) rfl)) (hw _ (List.mem_of_getElem? (i := 2) rfl)) (hw _ (List.mem_of_getElem? (i := 24) rfl)) (by decide) 0 (by decide) (by decide) rfl [(.int (3 : Int32)), (.int (0 : Int32)), (.int z5), (.int z6), (.int z7)] rfl pd_6 rfl rfl (Nat.le_of_eq rfl) 1 12 rfl rfl (by decide) (by decide) 125 rfl ?_
      rintro _ T118 _ X118 ⟨rfl, rfl⟩
      rw [show (f_pick (3 : Int32) (0 : Int32) z5 z6 z7) = z7 from rfl]
      show OE p e room_1 below s n0 Q' T118 (mkF m 125 #[.val (.int xp0), .val (.int xp1), .val (.int xp2), .val (.int xs), .val (.int (f_cp xp0)), .val (.int (f_cp xp1)), .val (.int (f_cp xp2)), .val (.ref b4), .val (.int z5), .val (.int z6), .val (.int z7), .val (.int (f_un (f_cp xp0))), .val (.int ((f_un (f_cp xp0)) + (f_un (f_cp xp1)))), .val (.int (((f_un (f_cp xp0)) + (f_un (f_cp xp1))) + (f_un (f_cp xp2)))), .val (.int (3 : Int32)), .val (.int (3 : Int32)), .val (.int (3 : Int32)), .val (.int (3 : Int32)), .unset, .unset, .unset] [(.int z7)])
      refine o_istore X118 at_125 #[.val (.int xp0), .val (.int xp1), .val (.int xp2), .val (.int xs), .val (.int (f_cp xp0)), .val (.int (f_cp xp1)), .val (.int (f_cp xp2)), .val (.ref b4), .val (.int z5), .val (.int z6), .val (.int z7), .val (.int (f_un (f_cp xp0))), .val (.int ((f_un (f_cp xp0)) + (f_un (f_cp xp1)))), .val (.int (((f_un (f_cp xp0)) + (f_un (f_cp xp1))) + (f_un (f_cp xp2)))), .val (.int (3 : Int32)), .val (.int (3 : Int32)), .val (.int (3 : Int32)), .val (.int (3 : Int32)), .val (.int z7), .unset, .unset] rfl 127 rfl ?_
      refine o_iload X118 at_127 rfl 129 rfl ?_
      refine o_iconst (v := (0 : Int32)) X118 at_129 rfl 130 rfl ?_
      refine o_iload X118 at_130 rfl 132 rfl ?_
      refine o_iload X118 at_132 rfl 134 rfl ?_
      refine o_iload X118 at_134 rfl 136 rfl ?_
      refine o_callS X118 at_136 (rest := []) (c_pick l Z a0 hw [] n0 _ X118.size (3 : Int32) (0 : Int32) z5 z6 z7 ) (hw _ (List.mem_of_getElem? (i := 22) rfl)) (hw _ (List.mem_of_getElem? (i := 23) rfl)) (hw _ (List.mem_of_getElem? (i := 2) rfl)) (hw _ (List.mem_of_getElem? (i := 24) rfl)) (by decide) 0 (by decide) (by decide) rfl [(.int (3 : Int32)), (.int (0 : Int32)), (.int z5), (.int z6), (.int z7)] rfl pd_6 rfl rfl (Nat.le_of_eq rfl) 1 12 rfl rfl (by decide) (by decide) 139 rfl ?_
      rintro _ T119 _ X119 ⟨rfl, rfl⟩
      rw [show (f_pick (3 : Int32) (0 : Int32) z5 z6 z7) = z7 from rfl]
      show OE p e room_1 below s n0 Q' T119 (mkF m 139 #[.val (.int xp0), .val (.int xp1), .val (.int xp2), .val (.int xs), .val (.int (f_cp xp0)), .val (.int (f_cp xp1)), .val (.int (f_cp xp2)), .val (.ref b4), .val (.int z5), .val (.int z6), .val (.int z7), .val (.int (f_un (f_cp xp0))), .val (.int ((f_un (f_cp xp0)) + (f_un (f_cp xp1)))), .val (.int (((f_un (f_cp xp0)) + (f_un (f_cp xp1))) + (f_un (f_cp xp2)))), .val (.int (3 : Int32)), .val (.int (3 : Int32)), .val (.int (3 : Int32)), .val (.int (3 : Int32)), .val (.int z7), .unset, .unset] [(.int z7)])
      refine o_istore X119 at_139 #[.val (.int xp0), .val (.int xp1), .val (.int xp2), .val (.int xs), .val (.int (f_cp xp0)), .val (.int (f_cp xp1)), .val (.int (f_cp xp2)), .val (.ref b4), .val (.int z5), .val (.int z6), .val (.int z7), .val (.int (f_un (f_cp xp0))), .val (.int ((f_un (f_cp xp0)) + (f_un (f_cp xp1)))), .val (.int (((f_un (f_cp xp0)) + (f_un (f_cp xp1))) + (f_un (f_cp xp2)))), .val (.int (3 : Int32)), .val (.int (3 : Int32)), .val (.int (3 : Int32)), .val (.int (3 : Int32)), .val (.int z7), .val (.int z7), .unset] rfl 141 rfl ?_
      refine o_iload X119 at_141 rfl 143 rfl ?_
      refine o_iconst (v := (0 : Int32)) X119 at_143 rfl 144 rfl ?_
      refine o_iload X119 at_144 rfl 146 rfl ?_
      refine o_iload X119 at_146 rfl 148 rfl ?_
      refine o_iload X119 at_148 rfl 150 rfl ?_
      refine o_callS X119 at_150 (rest := []) (c_pick l Z a0 hw [] n0 _ X119.size (3 : Int32) (0 : Int32) (f_un (f_cp xp0)) ((f_un (f_cp xp0)) + (f_un (f_cp xp1))) (((f_un (f_cp xp0)) + (f_un (f_cp xp1))) + (f_un (f_cp xp2))) ) (hw _ (List.mem_of_getElem? (i := 22) rfl)) (hw _ (List.mem_of_getElem? (i := 23) rfl)) (hw _ (List.mem_of_getElem? (i := 2) rfl)) (hw _ (List.mem_of_getElem? (i := 24) rfl)) (by decide) 0 (by decide) (by decide) rfl [(.int (3 : Int32)), (.int (0 : Int32)), (.int (f_un (f_cp xp0))), (.int ((f_un (f_cp xp0)) + (f_un (f_cp xp1)))), (.int (((f_un (f_cp xp0)) + (f_un (f_cp xp1))) + (f_un (f_cp xp2))))] rfl pd_6 rfl rfl (Nat.le_of_eq rfl) 1 12 rfl rfl (by decide) (by decide) 153 rfl ?_
      rintro _ T120 _ X120 ⟨rfl, rfl⟩
      rw [show (f_pick (3 : Int32) (0 : Int32) (f_un (f_cp xp0)) ((f_un (f_cp xp0)) + (f_un (f_cp xp1))) (((f_un (f_cp xp0)) + (f_un (f_cp xp1))) + (f_un (f_cp xp2)))) = (((f_un (f_cp xp0)) + (f_un (f_cp xp1))) + (f_un (f_cp xp2))) from rfl]
      show OE p e room_1 below s n0 Q' T120 (mkF m 153 #[.val (.int xp0), .val (.int xp1), .val (.int xp2), .val (.int xs), .val (.int (f_cp xp0)), .val (.int (f_cp xp1)), .val (.int (f_cp xp2)), .val (.ref b4), .val (.int z5), .val (.int z6), .val (.int z7), .val (.int (f_un (f_cp xp0))), .val (.int ((f_un (f_cp xp0)) + (f_un (f_cp xp1)))), .val (.int (((f_un (f_cp xp0)) + (f_un (f_cp xp1))) + (f_un (f_cp xp2)))), .val (.int (3 : Int32)), .val (.int (3 : Int32)), .val (.int (3 : Int32)), .val (.int (3 : Int32)), .val (.int z7), .val (.int z7), .unset] [(.int (((f_un (f_cp xp0)) + (f_un (f_cp xp1))) + (f_un (f_cp xp2))))])
      refine o_iload X120 at_153 rfl 155 rfl ?_
      refine o_iconst (v := (0 : Int32)) X120 at_155 rfl 156 rfl ?_
      refine o_iload X120 at_156 rfl 158 rfl ?_
      refine o_iload X120 at_158 rfl 160 rfl ?_
      refine o_iload X120 at_160 rfl 162 rfl ?_
      refine o_callS X120 at_162 (rest := [(.int (((f_un (f_cp xp0)) + (f_un (f_cp xp1))) + (f_un (f_cp xp2))))]) (c_pick l Z a0 hw [] n0 _ X120.size (3 : Int32) (0 : Int32) (f_un (f_cp xp0)) ((f_un (f_cp xp0)) + (f_un (f_cp xp1))) (((f_un (f_cp xp0)) + (f_un (f_cp xp1))) + (f_un (f_cp xp2))) ) (hw _ (List.mem_of_getElem? (i := 22) rfl)) (hw _ (List.mem_of_getElem? (i := 23) rfl)) (hw _ (List.mem_of_getElem? (i := 2) rfl)) (hw _ (List.mem_of_getElem? (i := 24) rfl)) (by decide) 1 (by decide) (by decide) rfl [(.int (3 : Int32)), (.int (0 : Int32)), (.int (f_un (f_cp xp0))), (.int ((f_un (f_cp xp0)) + (f_un (f_cp xp1)))), (.int (((f_un (f_cp xp0)) + (f_un (f_cp xp1))) + (f_un (f_cp xp2))))] rfl pd_6 rfl rfl (Nat.le_of_eq rfl) 1 12 rfl rfl (by decide) (by decide) 165 rfl ?_
      rintro _ T121 _ X121 ⟨rfl, rfl⟩
      rw [show (f_pick (3 : Int32) (0 : Int32) (f_un (f_cp xp0)) ((f_un (f_cp xp0)) + (f_un (f_cp xp1))) (((f_un (f_cp xp0)) + (f_un (f_cp xp1))) + (f_un (f_cp xp2)))) = (((f_un (f_cp xp0)) + (f_un (f_cp xp1))) + (f_un (f_cp xp2))) from rfl]
      show OE p e room_1 below s n0 Q' T121 (mkF m 165 #[.val (.int xp0), .val (.int xp1), .val (.int xp2), .val (.int xs), .val (.int (f_cp xp0)), .val (.int (f_cp xp1)), .val (.int (f_cp xp2)), .val (.ref b4), .val (.int z5), .val (.int z6), .val (.int z7), .val (.int (f_un (f_cp xp0))), .val (.int ((f_un (f_cp xp0)) + (f_un (f_cp xp1)))), .val (.int (((f_un (f_cp xp0)) + (f_un (f_cp xp1))) + (f_un (f_cp xp2)))), .val (.int (3 : Int32)), .val (.int (3 : Int32)), .val (.int (3 : Int32)), .val (.int (3 : Int32)), .val (.int z7), .val (.int z7), .unset] [(.int (((f_un (f_cp xp0)) + (f_un (f_cp xp1))) + (f_un (f_cp xp2)))), (.int (((f_un (f_cp xp0)) + (f_un (f_cp xp1))) + (f_un (f_cp xp2))))])
      refine o_isub X121 at_165 166 rfl ?_
      refine o_istore X121 at_166 #[.val (.int xp0), .val (.int xp1), .val (.int xp2), .val (.int xs), .val (.int (f_cp xp0)), .val (.int (f_cp xp1)), .val (.int (f_cp xp2)), .val (.ref b4), .val (.int z5), .val (.int z6), .val (.int z7), .val (.int (f_un (f_cp xp0))), .val (.int ((f_un (f_cp xp0)) + (f_un (f_cp xp1)))), .val (.int (((f_un (f_cp xp0)) + (f_un (f_cp xp1))) + (f_un (f_cp xp2)))), .val (.int (3 : Int32)), .val (.int (3 : Int32)), .val (.int (3 : Int32)), .val (.int (3 : Int32)), .val (.int z7), .val (.int z7), .val (.int ((((f_un (f_cp xp0)) + (f_un (f_cp xp1))) + (f_un (f_cp xp2))) - (((f_un (f_cp xp0)) + (f_un (f_cp xp1))) + (f_un (f_cp xp2)))))] rfl 168 rfl ?_
      refine o_aload X121 at_168 rfl rfl 170 rfl ?_
      refine o_iload X121 at_170 rfl 172 rfl ?_
      refine o_iload X121 at_172 rfl 174 rfl ?_
      refine o_callS X121 at_174 (rest := []) (c_cc l Z a0 hw [] n0 _ X121.size b4 z7 z7 vs7 [] H7 (0 + ln5 + ln6 + ln7) 0 (by have := hz7; omega) (by have := hz7; omega) (by omega) (by omega)) (hw _ (List.mem_of_getElem? (i := 25) rfl)) (hw _ (List.mem_of_getElem? (i := 26) rfl)) (hw _ (List.mem_of_getElem? (i := 27) rfl)) (hw _ (List.mem_of_getElem? (i := 28) rfl)) (by decide) 0 (by decide) (by decide) rfl [(.ref b4), (.int z7), (.int z7)] rfl pd_7 rfl rfl (Nat.le_of_eq rfl) 1 12 rfl rfl (by decide) (by decide) 177 rfl ?_
      rintro _ T122 _ X122 ⟨rfl, rfl⟩
      show OE p e room_1 below s n0 Q' T122 (mkF m 177 #[.val (.int xp0), .val (.int xp1), .val (.int xp2), .val (.int xs), .val (.int (f_cp xp0)), .val (.int (f_cp xp1)), .val (.int (f_cp xp2)), .val (.ref b4), .val (.int z5), .val (.int z6), .val (.int z7), .val (.int (f_un (f_cp xp0))), .val (.int ((f_un (f_cp xp0)) + (f_un (f_cp xp1)))), .val (.int (((f_un (f_cp xp0)) + (f_un (f_cp xp1))) + (f_un (f_cp xp2)))), .val (.int (3 : Int32)), .val (.int (3 : Int32)), .val (.int (3 : Int32)), .val (.int (3 : Int32)), .val (.int z7), .val (.int z7), .val (.int ((((f_un (f_cp xp0)) + (f_un (f_cp xp1))) + (f_un (f_cp xp2))) - (((f_un (f_cp xp0)) + (f_un (f_cp xp1))) + (f_un (f_cp xp2)))))] [(.int (f_cnt vs7 (0 + ln5 + ln6 + ln7) 0))])
      refine o_iload X122 at_177 rfl 179 rfl ?_
      refine o_icmpNe X122 at_179 186 182 (by decide) (by decide) rfl (fun q => by exfalso; apply q; show (0 : Int32) = _; grind) ?_
      intro hc179
      refine o_iconst (v := (1 : Int32)) X122 at_182 rfl 183 rfl ?_
      refine o_goto X122 at_183 187 (by decide) (by decide) ?_
      exact o_retZ X122 at_187 (by decide) (by decide) (hQ _ _ rfl)
set_option maxRecDepth 65536 in
set_option maxHeartbeats 40000000 in
theorem comes_1 {Post : Tables → Env → Array Value → State → Outcome → State → Prop} (hpost : ∀ tb e args s v u, (limb_1_1.after args s (.returned v) u = true ∧ limb_1_2.after args s (.returned v) u = true ∧ True) → FrameEnd s (.returned v) u (Jvm.fieldLocs frame_1_writes args s ++ Jvm.arrayLocs frame_1_arrays args s ++ Jvm.staticLocs frame_1_statics s) 16 128 → Post tb e args s (.returned v) u) :
    ArmFor flags0 classFile x code maxLocals ret World_1 tables_1 room_1 Calls_1 rest_1 Pre_1 Post := by
  intro l hfl _ _ p e ha hc hk s m args below hf hA hF happ hP
  obtain ⟨hcalls, hrest, hpre⟩ := hP
  obtain ⟨-, -, -, hnamed, -, -, -, hat⟩ := (Spec.applies_iff hf).mp happ
  obtain ⟨hg, hn⟩ := and_e (Cond.before_iff.mp (show (Jvm.Cond.and given_1 narrow_1).before args s = true from hpre))
  obtain ⟨hcnt, hg0⟩ := and_e hg
  obtain ⟨ha0, hg1⟩ := and_e hg0
  obtain ⟨ha1, hg2⟩ := and_e hg1
  obtain ⟨ha2, hg3⟩ := and_e hg2
  have ha3 := hg3
  obtain ⟨w0, w1, w2, w3, rfl⟩ : ∃ w0 w1 w2 w3 : Value, args = #[w0, w1, w2, w3] := by
    have hs : args.size = 4 := by simpa [Cond.value, given_1] using hcnt
    obtain ⟨L⟩ := args
    match L, hs with
    | [w0, w1, w2, w3], _ => exact ⟨w0, w1, w2, w3, rfl⟩
  have hw := fun d (hd : d ∈ tables_1) => atoms_spec (ws := Jvm.Cond.code x code maxLocals ret :: tables_1) hat d (List.mem_cons_of_mem _ hd)
  obtain ⟨i0, ei0⟩ := is_v ha0
  obtain rfl : w0 = (.int i0) := Option.some.inj ei0
  obtain ⟨i1, ei1⟩ := is_v ha1
  obtain rfl : w1 = (.int i1) := Option.some.inj ei1
  obtain ⟨i2, ei2⟩ := is_v ha2
  obtain rfl : w2 = (.int i2) := Option.some.inj ei2
  obtain ⟨i3, ei3⟩ := is_v ha3
  obtain rfl : w3 = (.int i3) := Option.some.inj ei3
  obtain ⟨n, o, h1, h2, h3, _, L, rfl, ⟨rfl, N⟩, hq⟩ := c_law l s _ hw tables_1 s.heap.size s.heap (Nat.le_refl _) i0 i1 i2 i3 p e ha hc hk s m _ below hf ((Spec.applies_iff_loose hf).mp happ).1 ⟨rfl, State.Warmed39.refl s, rfl⟩ trivial
  refine ⟨n, _, h1, h2, h3, hpost _ _ _ _ _ _ ⟨Cond.after_iff.mpr rfl, Cond.after_iff.mpr (eq_i res_at (Term.int_eval (1)) rfl), trivial⟩ ⟨hq.1, hq.2.1, (hq.2.2.sift fun y hy => Or.inr (N y hy)).mono (by decide) (by decide)⟩⟩
theorem main_1_1 : Claimed_1_1 := comes_1 fun _ _ _ _ _ _ h hF => ⟨h.1, hF⟩
theorem main_1_2 : Claimed_1_2 := comes_1 fun _ _ _ _ _ _ h hF => ⟨h.2.1, hF⟩
end Jvm.Pilot.@@N@@
namespace Jvm.Pilot.@@N@@
open Jvm Jvm.ClassFile Sem Op Lib Jvm.Free Jvm.Stand Jvm.Pilot.@@N@@.Jvm.D
/-! MADE BY PROGRAM (witnessworld.py) out of the Statement's table words and the real class files: 10 classes; the members and pool entries that the words name. The judged class is class 1, her method 5. -/
namespace start1
open Jvm.ClassFile
def u (s : String) : CpInfo := .utf8 (stringToUtf16 s)
/-- a pool by its gaps: so many unusable entries, then the entry; so many at the end -/
def gap : Nat → List CpInfo → List CpInfo
  | 0, r => r
  | n + 1, r => .unusable :: gap n r
def poolList (es : List (Nat × CpInfo)) (last : Nat) : List CpInfo := es.foldr (fun e r => gap e.1 (e.2 :: r)) (gap last [])
def pool (es : List (Nat × CpInfo)) (last : Nat) : Array CpInfo := ⟨poolList es last⟩
def fileOf (pool : Array CpInfo) (this : Nat) (attrs : Array Attribute := #[]) (ms : Array MethodInfo := #[]) (fl : Nat := 33) (sup : Nat := 0) (ifs : Array Nat := #[]) (fds : Array FieldInfo := #[]) : ClassFile where
  minorVersion := 0
  majorVersion := 65
  constantPool := pool
  accessFlags := fl
  thisClass := this
  superClass := sup
  interfaces := ifs
  fields := fds
  methods := ms
  attributes := attrs
def plain (name : String) (sup : Option ClassId) : Class where
  name := name
  kind := .ordinary
  loader := none
  accessFlags := 33
  super := sup
  interfaces := #[]
  cf := none
  fields := #[]
  methods := #[]
  instanceTypes := #[]
  staticTypes := #[]
  resolved := #[]
  callSites := []
  init := .initialized
  statics := none
  mirror := none

def pool0 : Array CpInfo := pool [(5, u "<init>"), (0, u "()V"), (1, .class_ 10), (1, u "java/lang/Object")] 113

def k0m0 : Method := { name := "<init>", desc := "()V", sig := { parameters := [], returnType := none }, accessFlags := 1, code := none }
/-- java/lang/Object -/
def k0 : Class := { plain "java/lang/Object" none with
  accessFlags := 33
  interfaces := #[]
  cf := some (fileOf pool0 8 #[] #[{ accessFlags := 1, nameIndex := 5, descriptorIndex := 6, attributes := #[] }] 33 0 #[] #[])
  fields := #[]
  methods := #[k0m0]
  instanceTypes := #[]
  staticTypes := #[]
  resolved := Array.replicate 124 none
  statics := none }

def pool1 : Array CpInfo := pool [(2, .class_ 4), (1, u "java/lang/Object"), (0, u "<init>"), (0, u "()V"), (0, .integer 61440), (0, .integer 55296), (0, .integer 65536), (0, .integer 1048575), (0, .methodref 12 13), (0, .class_ 14), (0, .nameAndType 15 16), (0, u "org/bindloom/internal/Utf8CharCountPinLaw"), (0, u "codePoint"), (0, u "(I)I"), (0, .methodref 12 18), (0, .nameAndType 19 20), (0, u "put"), (0, u "([BII)I"), (0, .methodref 12 22), (0, .nameAndType 23 16), (0, u "units"), (0, .methodref 25 26), (0, .class_ 27), (0, .nameAndType 28 29), (0, u "java/lang/Math"), (0, u "min"), (0, u "(II)I"), (0, .methodref 25 31), (0, .nameAndType 32 29), (0, u "max"), (0, .methodref 12 34), (0, .nameAndType 35 36), (0, u "pick"), (0, u "(IIIII)I"), (0, .methodref 38 39), (0, .class_ 40), (0, .nameAndType 41 20), (0, u "org/bindloom/internal/Utf8"), (0, u "charCount"), (3, u "law"), (0, u "(IIII)Z")] 4

def k1m0 : Method := { name := "<init>", desc := "()V", sig := { parameters := [], returnType := none }, accessFlags := 2, code := none }
def k1c1 : Code := { maxStack := 3, maxLocals := 4, code := method_2_code, exceptionTable := #[], attributes := #[] }
def k1m1 : Method := { name := "codePoint", desc := "(I)I", sig := { parameters := [.int], returnType := some .int }, accessFlags := 10, code := some k1c1 }
def k1c2 : Code := { maxStack := 5, maxLocals := 3, code := method_3_code, exceptionTable := #[], attributes := #[] }
def k1m2 : Method := { name := "put", desc := "([BII)I", sig := { parameters := [(.array .byte), .int, .int], returnType := some .int }, accessFlags := 10, code := some k1c2 }
def k1c3 : Code := { maxStack := 2, maxLocals := 1, code := method_4_code, exceptionTable := #[], attributes := #[] }
def k1m3 : Method := { name := "units", desc := "(I)I", sig := { parameters := [.int], returnType := some .int }, accessFlags := 10, code := some k1c3 }
def k1c4 : Code := { maxStack := 2, maxLocals := 5, code := method_5_code, exceptionTable := #[], attributes := #[] }
def k1m4 : Method := { name := "pick", desc := "(IIIII)I", sig := { parameters := [.int, .int, .int, .int, .int], returnType := some .int }, accessFlags := 10, code := some k1c4 }
def k1c5 : Code := { maxStack := 6, maxLocals := 21, code := code, exceptionTable := #[], attributes := #[] }
def k1m5 : Method := { name := "law", desc := "(IIII)Z", sig := { parameters := [.int, .int, .int, .int], returnType := some .boolean }, accessFlags := 9, code := some k1c5 }
/-- org/bindloom/internal/Utf8CharCountPinLaw -/
def k1 : Class := { plain "org/bindloom/internal/Utf8CharCountPinLaw" (some 0) with
  accessFlags := 49
  interfaces := #[]
  cf := some (fileOf pool1 12 #[] #[{ accessFlags := 2, nameIndex := 5, descriptorIndex := 6, attributes := #[] }, { accessFlags := 10, nameIndex := 15, descriptorIndex := 16, attributes := #[] }, { accessFlags := 10, nameIndex := 19, descriptorIndex := 20, attributes := #[] }, { accessFlags := 10, nameIndex := 23, descriptorIndex := 16, attributes := #[] }, { accessFlags := 10, nameIndex := 35, descriptorIndex := 36, attributes := #[] }, { accessFlags := 9, nameIndex := 45, descriptorIndex := 46, attributes := #[] }] 49 2 #[] #[])
  fields := #[]
  methods := #[k1m0, k1m1, k1m2, k1m3, k1m4, k1m5]
  instanceTypes := #[]
  staticTypes := #[]
  resolved := Array.replicate 51 none
  statics := none }

def pool2 : Array CpInfo := pool [(1, .class_ 2), (0, u "java/lang/Math"), (1, .class_ 6), (1, u "java/lang/Object"), (0, u "<init>"), (0, u "()V"), (89, .class_ 100), (1, u "java/lang/Math$RandomNumberGeneratorHolder"), (71, u "negativeZeroFloatBits"), (0, u "J"), (2, u "negativeZeroDoubleBits"), (21, u "max"), (2, u "min"), (43, u "$assertionsDisabled"), (0, u "Z"), (88, u "(II)I"), (2, u "twoToTheDoubleScaleDown"), (0, u "D"), (4, u "twoToTheDoubleScaleUp"), (9, u "E"), (3, u "PI"), (2, u "TAU"), (2, u "DEGREES_TO_RADIANS"), (0, u "RADIANS_TO_DEGREES")] 94

def k2m0 : Method := { name := "<init>", desc := "()V", sig := { parameters := [], returnType := none }, accessFlags := 2, code := none }
def k2c1 : Code := { maxStack := 2, maxLocals := 2, code := jdk_29_method_65_code, exceptionTable := #[], attributes := #[] }
def k2m1 : Method := { name := "max", desc := "(II)I", sig := { parameters := [.int, .int], returnType := some .int }, accessFlags := 9, code := some k2c1 }
def k2c2 : Code := { maxStack := 2, maxLocals := 2, code := jdk_29_method_69_code, exceptionTable := #[], attributes := #[] }
def k2m2 : Method := { name := "min", desc := "(II)I", sig := { parameters := [.int, .int], returnType := some .int }, accessFlags := 9, code := some k2c2 }
/-- java/lang/Math -/
def k2 : Class := { plain "java/lang/Math" (some 0) with
  accessFlags := 49
  interfaces := #[]
  cf := some (fileOf pool2 1 #[.nestMembers #[98]] #[{ accessFlags := 2, nameIndex := 7, descriptorIndex := 8, attributes := #[] }, { accessFlags := 9, nameIndex := 198, descriptorIndex := 335, attributes := #[] }, { accessFlags := 9, nameIndex := 201, descriptorIndex := 335, attributes := #[] }] 49 4 #[] #[{ accessFlags := 25, nameIndex := 354, descriptorIndex := 339, attributes := #[] }, { accessFlags := 25, nameIndex := 358, descriptorIndex := 339, attributes := #[] }, { accessFlags := 25, nameIndex := 361, descriptorIndex := 339, attributes := #[] }, { accessFlags := 26, nameIndex := 364, descriptorIndex := 339, attributes := #[] }, { accessFlags := 26, nameIndex := 365, descriptorIndex := 339, attributes := #[] }, { accessFlags := 26, nameIndex := 172, descriptorIndex := 173, attributes := #[] }, { accessFlags := 26, nameIndex := 176, descriptorIndex := 173, attributes := #[] }, { accessFlags := 8, nameIndex := 344, descriptorIndex := 339, attributes := #[] }, { accessFlags := 8, nameIndex := 338, descriptorIndex := 339, attributes := #[] }, { accessFlags := 4120, nameIndex := 245, descriptorIndex := 246, attributes := #[] }])
  fields := #[{ name := "E", type := .double, accessFlags := 25, slot := 0, constantValue := 0 }, { name := "PI", type := .double, accessFlags := 25, slot := 1, constantValue := 0 }, { name := "TAU", type := .double, accessFlags := 25, slot := 2, constantValue := 0 }, { name := "DEGREES_TO_RADIANS", type := .double, accessFlags := 26, slot := 3, constantValue := 0 }, { name := "RADIANS_TO_DEGREES", type := .double, accessFlags := 26, slot := 4, constantValue := 0 }, { name := "negativeZeroFloatBits", type := .long, accessFlags := 26, slot := 5, constantValue := 0 }, { name := "negativeZeroDoubleBits", type := .long, accessFlags := 26, slot := 6, constantValue := 0 }, { name := "twoToTheDoubleScaleUp", type := .double, accessFlags := 8, slot := 7, constantValue := 0 }, { name := "twoToTheDoubleScaleDown", type := .double, accessFlags := 8, slot := 8, constantValue := 0 }, { name := "$assertionsDisabled", type := .boolean, accessFlags := 4120, slot := 9, constantValue := 0 }]
  methods := #[k2m0, k2m1, k2m2]
  instanceTypes := #[]
  staticTypes := #[.double, .double, .double, .double, .double, .long, .long, .double, .double, .boolean]
  resolved := Array.replicate 460 none
  statics := none }

def pool3 : Array CpInfo := pool [(2, .class_ 4), (1, u "java/lang/Object"), (0, u "<init>"), (0, u "()V"), (1, .class_ 10), (1, u "org/bindloom/internal/Utf8"), (11, u "([BII)I"), (25, u "INVALID"), (0, u "Ljava/lang/String;"), (9, u "charCount")] 8

def k3m0 : Method := { name := "<init>", desc := "()V", sig := { parameters := [], returnType := none }, accessFlags := 2, code := none }
def k3c1 : Code := { maxStack := 3, maxLocals := 6, code := prog_39_method_7_code, exceptionTable := #[], attributes := #[] }
def k3m1 : Method := { name := "charCount", desc := "([BII)I", sig := { parameters := [(.array .byte), .int, .int], returnType := some .int }, accessFlags := 9, code := some k3c1 }
/-- org/bindloom/internal/Utf8 -/
def k3 : Class := { plain "org/bindloom/internal/Utf8" (some 0) with
  accessFlags := 49
  interfaces := #[]
  cf := some (fileOf pool3 8 #[] #[{ accessFlags := 2, nameIndex := 5, descriptorIndex := 6, attributes := #[] }, { accessFlags := 9, nameIndex := 59, descriptorIndex := 22, attributes := #[] }] 49 2 #[] #[{ accessFlags := 25, nameIndex := 48, descriptorIndex := 49, attributes := #[] }])
  fields := #[{ name := "INVALID", type := (.object "java/lang/String"), accessFlags := 25, slot := 0, constantValue := 0 }]
  methods := #[k3m0, k3m1]
  instanceTypes := #[]
  staticTypes := #[(.object "java/lang/String")]
  resolved := Array.replicate 68 none
  statics := none }

def pool4 : Array CpInfo := pool [(1, u "java/lang/Cloneable"), (0, .class_ 1), (0, u "java/lang/Object"), (0, .class_ 3)] 3

/-- java/lang/Cloneable -/
def k4 : Class := { plain "java/lang/Cloneable" (some 0) with
  accessFlags := 1537
  interfaces := #[]
  cf := some (fileOf pool4 2 #[] #[] 1537 4 #[] #[])
  fields := #[]
  methods := #[]
  instanceTypes := #[]
  staticTypes := #[]
  resolved := Array.replicate 8 none
  statics := none }

def pool5 : Array CpInfo := pool [(1, u "java/io/Serializable"), (0, .class_ 1), (0, u "java/lang/Object"), (0, .class_ 3)] 3

/-- java/io/Serializable -/
def k5 : Class := { plain "java/io/Serializable" (some 0) with
  accessFlags := 1537
  interfaces := #[]
  cf := some (fileOf pool5 2 #[] #[] 1537 4 #[] #[])
  fields := #[]
  methods := #[]
  instanceTypes := #[]
  staticTypes := #[]
  resolved := Array.replicate 8 none
  statics := none }

/-- the primitive byte -/
def k6 : Class := { plain "byte" none with kind := .primitive 'B', accessFlags := 0x411 }
/-- [B -/
def k7 : Class := { plain "[B" (some 0) with kind := .array 6 .byte, interfaces := #[4, 5], accessFlags := 1041 }

/-- the primitive int -/
def k8 : Class := { plain "int" none with kind := .primitive 'I', accessFlags := 0x411 }
/-- [I -/
def k9 : Class := { plain "[I" (some 0) with kind := .array 8 .int, interfaces := #[4, 5], accessFlags := 1041 }

def heap : Heap := #[]
def classes : Array Class := #[k0, k1, k2, k3, k4, k5, k6, k7, k8, k9]
def interned : List (Array UInt16 × Addr) := []
def slotsUsed : Nat := 0
def theMethod : MethodId := ⟨1, 5⟩
def args0 : Array Value := #[.int 5, .int 3, .int 7, .int 9]
def aboutOver (below : List Frame) : State where
  vm := { classes := classes, interned := interned.toArray }
  heap := heap
  slotsUsed := slotsUsed
  threads := #[{ frames := .invoking theMethod args0 :: below }]
def below0 : List Frame := [.native { method := ⟨0, 0⟩, args := #[] }]
def about1 : State := aboutOver below0
def p0 : Program := .bare "" "" ""
def e0 : Env := launch0.env 0 0 0
theorem w_frames : about1.frames = Frame.invoking theMethod args0 :: below0 := rfl
set_option maxRecDepth 65536 in
theorem w_args : argsFit about1.vm theMethod args0 = true := by decide +kernel
set_option maxRecDepth 65536 in
theorem w_heap : heapFits about1 = true := by decide +kernel
set_option maxRecDepth 65536 in
theorem w_runnable : about1.curStatus? = some .runnable := by decide +kernel
set_option maxRecDepth 65536 in
theorem w_alone : about1.alone = true := by decide +kernel
set_option maxRecDepth 65536 in
theorem w_named : about1.methodNamed? x = some theMethod := by decide +kernel
set_option maxRecDepth 65536 in
theorem w_hears : about1.hears theMethod below0 = true := by decide +kernel
set_option maxRecDepth 65536 in
theorem w_ripe : about1.ripe theMethod args0 below0 = true := by decide +kernel
theorem w_running : about1.status = .running := rfl
set_option maxRecDepth 65536 in
theorem w_room : about1.hasRoom e0.platform room_1 = true :=
  launch0.hasRoom_least _ room_1 (by decide +kernel) (by decide +kernel) (by decide +kernel) (by decide +kernel) (by decide +kernel) (by decide +kernel)
theorem allAtoms_all (ts : List Jvm.Cond) (a : Array Jvm.Value) (st : Jvm.State) : (allAtoms ts).before a st = ts.all (fun c => c.before a st) := by
  induction ts with
  | nil => rfl
  | cons c t ih =>
    show (Jvm.Cond.and c (allAtoms t)).before a st = _
    rw [Jvm.Cond.before_and, ih, List.all_cons]
def words1 : List Jvm.Cond := Jvm.Cond.code x code maxLocals ret :: tables_1
/-- a 'code' word, met by the world's own term for the bytes: nothing is compared byte by byte -/
theorem code_word {y : MethodName} {bytes : ByteArray} {mx : Nat} {rt : Option FieldType} {a : Array Value} {s : State} {m : MethodId} {meth : Method} {c : Code} (h1 : s.methodNamed? y = some m) (h2 : s.vm.method? m = some meth) (h3 : meth.code = some c) (h4 : c.code = bytes)
    (h5 : (c.maxLocals == mx && c.exceptionTable.isEmpty && decide (c.maxStack ≤ mostOperands) && decide (meth.sig.returnType = rt) && !meth.locks && decide (parseMethodDescriptor y.desc = some meth.sig)) = true) : (Jvm.Cond.code y bytes mx rt).before a s = true := by
  simp only [Bool.and_eq_true, beq_iff_eq, Bool.not_eq_true', decide_eq_true_eq] at h5
  obtain ⟨⟨⟨⟨⟨g1, g2⟩, g3⟩, g4⟩, g5⟩, g6⟩ := h5
  simp [Cond.before, Cond.holds, Cond.value, h1, h2, h3, h4, g1, g2, g3, g4, g5, g6]
def isCode : Jvm.Cond → Bool
  | .code _ _ _ _ => true
  | _ => false
theorem all_split {L : List Jvm.Cond} {P : Jvm.Cond → Bool} (h1 : L.all (fun c => isCode c || P c) = true) (h2 : ∀ c ∈ L.filter isCode, P c = true) : L.all P = true := by
  refine List.all_eq_true.mpr fun c hc => ?_
  have h := List.all_eq_true.mp h1 c hc
  rcases Bool.eq_false_or_eq_true (isCode c) with hi | hi
  · exact h2 c (List.mem_filter.mpr ⟨hc, hi⟩)
  · simpa [hi] using h
set_option maxRecDepth 65536 in
theorem w_c0 : (Jvm.Cond.code x code maxLocals ret).before args0 about1 = true := code_word (m := ⟨1, 5⟩) (meth := k1m5) (c := k1c5) (by decide +kernel) rfl rfl rfl (by decide +kernel)
set_option maxRecDepth 65536 in
theorem w_c1 : (Jvm.Cond.code ({ cls := "org/bindloom/internal/Utf8CharCountPinLaw", name := "codePoint", desc := "(I)I" } : Jvm.MethodName) method_2_code (4 : Nat) (Option.some Jvm.ClassFile.FieldType.int)).before args0 about1 = true := code_word (m := ⟨1, 1⟩) (meth := k1m1) (c := k1c1) (by decide +kernel) rfl rfl rfl (by decide +kernel)
set_option maxRecDepth 65536 in
theorem w_c2 : (Jvm.Cond.code ({ cls := "org/bindloom/internal/Utf8CharCountPinLaw", name := "put", desc := "([BII)I" } : Jvm.MethodName) method_3_code (3 : Nat) (Option.some Jvm.ClassFile.FieldType.int)).before args0 about1 = true := code_word (m := ⟨1, 2⟩) (meth := k1m2) (c := k1c2) (by decide +kernel) rfl rfl rfl (by decide +kernel)
set_option maxRecDepth 65536 in
theorem w_c3 : (Jvm.Cond.code ({ cls := "org/bindloom/internal/Utf8CharCountPinLaw", name := "units", desc := "(I)I" } : Jvm.MethodName) method_4_code (1 : Nat) (Option.some Jvm.ClassFile.FieldType.int)).before args0 about1 = true := code_word (m := ⟨1, 3⟩) (meth := k1m3) (c := k1c3) (by decide +kernel) rfl rfl rfl (by decide +kernel)
set_option maxRecDepth 65536 in
theorem w_c4 : (Jvm.Cond.code ({ cls := "java/lang/Math", name := "min", desc := "(II)I" } : Jvm.MethodName) jdk_29_method_69_code (2 : Nat) (Option.some Jvm.ClassFile.FieldType.int)).before args0 about1 = true := code_word (m := ⟨2, 2⟩) (meth := k2m2) (c := k2c2) (by decide +kernel) rfl rfl rfl (by decide +kernel)
set_option maxRecDepth 65536 in
theorem w_c5 : (Jvm.Cond.code ({ cls := "java/lang/Math", name := "max", desc := "(II)I" } : Jvm.MethodName) jdk_29_method_65_code (2 : Nat) (Option.some Jvm.ClassFile.FieldType.int)).before args0 about1 = true := code_word (m := ⟨2, 1⟩) (meth := k2m1) (c := k2c1) (by decide +kernel) rfl rfl rfl (by decide +kernel)
set_option maxRecDepth 65536 in
theorem w_c6 : (Jvm.Cond.code ({ cls := "org/bindloom/internal/Utf8CharCountPinLaw", name := "pick", desc := "(IIIII)I" } : Jvm.MethodName) method_5_code (5 : Nat) (Option.some Jvm.ClassFile.FieldType.int)).before args0 about1 = true := code_word (m := ⟨1, 4⟩) (meth := k1m4) (c := k1c4) (by decide +kernel) rfl rfl rfl (by decide +kernel)
set_option maxRecDepth 65536 in
theorem w_c7 : (Jvm.Cond.code ({ cls := "org/bindloom/internal/Utf8", name := "charCount", desc := "([BII)I" } : Jvm.MethodName) prog_39_method_7_code (6 : Nat) (Option.some Jvm.ClassFile.FieldType.int)).before args0 about1 = true := code_word (m := ⟨3, 1⟩) (meth := k3m1) (c := k3c1) (by decide +kernel) rfl rfl rfl (by decide +kernel)
def codes1 : List Jvm.Cond := [Jvm.Cond.code x code maxLocals ret, Jvm.Cond.code ({ cls := "org/bindloom/internal/Utf8CharCountPinLaw", name := "codePoint", desc := "(I)I" } : Jvm.MethodName) method_2_code (4 : Nat) (Option.some Jvm.ClassFile.FieldType.int), Jvm.Cond.code ({ cls := "org/bindloom/internal/Utf8CharCountPinLaw", name := "put", desc := "([BII)I" } : Jvm.MethodName) method_3_code (3 : Nat) (Option.some Jvm.ClassFile.FieldType.int), Jvm.Cond.code ({ cls := "org/bindloom/internal/Utf8CharCountPinLaw", name := "units", desc := "(I)I" } : Jvm.MethodName) method_4_code (1 : Nat) (Option.some Jvm.ClassFile.FieldType.int), Jvm.Cond.code ({ cls := "java/lang/Math", name := "min", desc := "(II)I" } : Jvm.MethodName) jdk_29_method_69_code (2 : Nat) (Option.some Jvm.ClassFile.FieldType.int), Jvm.Cond.code ({ cls := "java/lang/Math", name := "max", desc := "(II)I" } : Jvm.MethodName) jdk_29_method_65_code (2 : Nat) (Option.some Jvm.ClassFile.FieldType.int), Jvm.Cond.code ({ cls := "org/bindloom/internal/Utf8CharCountPinLaw", name := "pick", desc := "(IIIII)I" } : Jvm.MethodName) method_5_code (5 : Nat) (Option.some Jvm.ClassFile.FieldType.int), Jvm.Cond.code ({ cls := "org/bindloom/internal/Utf8", name := "charCount", desc := "([BII)I" } : Jvm.MethodName) prog_39_method_7_code (6 : Nat) (Option.some Jvm.ClassFile.FieldType.int)]
set_option maxRecDepth 65536 in
theorem codes_eq : words1.filter isCode = codes1 := rfl
theorem w_codes : ∀ c ∈ words1.filter isCode, c.before args0 about1 = true := by
  rw [codes_eq]
  intro c hc
  simp only [codes1, List.mem_cons, List.not_mem_nil, or_false] at hc
  rcases hc with rfl | rfl | rfl | rfl | rfl | rfl | rfl | rfl
  · exact w_c0
  · exact w_c1
  · exact w_c2
  · exact w_c3
  · exact w_c4
  · exact w_c5
  · exact w_c6
  · exact w_c7
set_option maxRecDepth 65536 in
theorem w_t1 : (words1.take 24).all (fun c => isCode c || c.before args0 about1) = true := by decide +kernel
set_option maxRecDepth 65536 in
theorem w_t2 : (words1.drop 24).all (fun c => isCode c || c.before args0 about1) = true := by decide +kernel
theorem w_tables : (allAtoms (Jvm.Cond.code x code maxLocals ret :: tables_1)).before args0 about1 = true := by
  rw [allAtoms_all]
  show words1.all (fun c => c.before args0 about1) = true
  refine all_split ?_ w_codes
  rw [← List.take_append_drop 24 words1, List.all_append, w_t1, w_t2]
  rfl
set_option maxRecDepth 65536 in
theorem w_case : (Jvm.Cond.and given_1 narrow_1).before args0 about1 = true := by decide +kernel
theorem w_applies : (headSpec (Jvm.Cond.code x code maxLocals ret :: tables_1) room_1).applies x e0.platform about1 = true :=
  (Spec.applies_iff w_frames).mpr ⟨w_running, w_runnable, w_alone, w_named, w_hears, w_ripe, w_room, w_tables⟩
theorem atStart : AtStart classFile x code maxLocals ret World_1 tables_1 room_1 Calls_1 rest_1 Pre_1 launch0 p0 e0 about1 theMethod args0 below0 :=
  ⟨lists_1, trivial, launch0.admits_env _ _ _, launch0.least_env, fairChoices_fair.cas, fairChoices_fair.clock, w_frames, w_args, w_heap, w_applies, trivial, trivial, w_case⟩
end start1
theorem witness_1 : WitnessClaimed_1 := ⟨start1.p0, start1.e0, start1.about1, start1.theMethod, start1.args0, start1.below0, start1.atStart⟩
end Jvm.Pilot.@@N@@
