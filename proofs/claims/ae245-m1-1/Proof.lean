import JvmDerived
import JvmDerived.Pilot.@@N@@Statement
import JvmDerived.Pilot.@@N@@Code
set_option linter.unusedVariables false
set_option linter.unusedSimpArgs false
@@BLOCK:NumsL.lean.txt@@
namespace Jvm.Pilot.@@N@@
open Jvm Jvm.ClassFile Sem Op Lib Jvm.Free Jvm.Stand Jvm.LawKit Jvm.RoadKit Bundle Jvm.Pilot.@@N@@.Jvm.D
section OwnKit
variable {p : Program} {l : Launch} {e : Env} {R : Room} {s : State} {m : MethodId} {args : Array Value} {below : List Frame} {meth : Method} {c : Code} {T T' : State} {Z : State} {h : Heap} {n0 k n mx : Nat} {y : MethodName} {bytes : ByteArray} {ret : Option FieldType} {Q : Option Value → Heap → Prop} {pc : Nat} {Ls : Array Slot} {st rest : List Value} {a0 : Array Value} {g g' : JFrame}
/-- where a body's walk stands: all that its steps ask, bundled -/
def OW (p : Program) (l : Launch) (e : Env) (R : Room) (s : State) (m : MethodId) (args : Array Value) (below : List Frame) (meth : Method) (c : Code) (Z : State) (y : MethodName) (bytes : ByteArray) (mx : Nat) (ret : Option FieldType) (n0 : Nat) (T : State) (h : Heap) (k n : Nat) : Prop :=
  p.tables.exec = Jvm.exec ∧ Z.Warmed39 s.vm ∧ s.vm.findClass y.cls = some m.cls ∧ c.code = bytes ∧ c.maxLocals = mx ∧ meth.sig.returnType = ret ∧ meth.name = y.name ∧ meth.locks = false ∧ n0 ≤ s.heap.size ∧ T.heap = h ∧ ∃ locs, Stand p l e R s m args below meth c T locs k n ∧ Fr n0 locs
/-- what a body owes from the frame g on: it returns, and Q holds of what it returns and of the heap -/
def OE (p : Program) (e : Env) (R : Room) (below : List Frame) (s : State) (n0 : Nat) (Q : Option Value → Heap → Prop) (T : State) (g : JFrame) : Prop :=
  ∃ t o, Steps p.tables e below (T.setTop g) t ∧ t.status = .running ∧ Ended t below o ∧ ∃ v L, o = .returned v ∧ (Q v t.heap ∧ Fr n0 L) ∧ FrameEnd s o t L R.cells R.slots
theorem OE.by (hs : ∀ t, Steps p.tables e below (T'.setTop g') t → Steps p.tables e below (T.setTop g) t) (K : OE p e R below s n0 Q T' g') : OE p e R below s n0 Q T g := by
  obtain ⟨t, o, h1, r⟩ := K; exact ⟨t, o, hs t h1, r⟩
theorem OW.size (X : OW p l e R s m args below meth c Z y bytes mx ret n0 T h k n) : n0 ≤ h.size := by
  obtain ⟨-, -, -, -, -, -, -, -, h0, rfl, locs, S, -⟩ := X
  exact Nat.le_trans h0 S.same.2.1
theorem OW.more (X : OW p l e R s m args below meth c Z y bytes mx ret n0 T h k n) {k' n' : Nat} (hk : k ≤ k') (hn : n ≤ n') : OW p l e R s m args below meth c Z y bytes mx ret n0 T h k' n' := by
  obtain ⟨h1, h2, h3, h4, h5, h6, h7, h8, h9, h10, locs, S, N⟩ := X
  exact ⟨h1, h2, h3, h4, h5, h6, h7, h8, h9, h10, locs, S.more hk hn, N⟩
theorem o_iloadN (X : OW p l e R s m args below meth c Z y bytes mx ret n0 T h k n) {j : Fin 4} {v : Int32} (hd : decode bytes pc = .ok (.iload_n j, 1)) (hl : Ls[j.val]? = some (.val (.int v))) (pc' : Nat) (hp : pc + 1 = pc') (K : OE p e R below s n0 Q T (mkF m pc' Ls (.int v :: st))) : OE p e R below s n0 Q T (mkF m pc Ls st) := by
  obtain ⟨hx, hZ, hown, hby, hmx, hret, hnm, hlk, h0, hT, locs, S, N⟩ := X; subst hp
  exact OE.by (fun t q => XS.iloadN S.here hx rfl (hb hby hd) hl q) K
theorem o_iload (X : OW p l e R s m args below meth c Z y bytes mx ret n0 T h k n) {j : Nat} {v : Int32} (hd : decode bytes pc = .ok (.iload j, 2)) (hl : Ls[j]? = some (.val (.int v))) (pc' : Nat) (hp : pc + 2 = pc') (K : OE p e R below s n0 Q T (mkF m pc' Ls (.int v :: st))) : OE p e R below s n0 Q T (mkF m pc Ls st) := by
  obtain ⟨hx, hZ, hown, hby, hmx, hret, hnm, hlk, h0, hT, locs, S, N⟩ := X; subst hp
  exact OE.by (fun t q => XS.iload S.here hx rfl (hb hby hd) hl q) K
theorem o_aloadN (X : OW p l e R s m args below meth c Z y bytes mx ret n0 T h k n) {j : Fin 4} {v : Value} (hd : decode bytes pc = .ok (.aload_n j, 1)) (hl : Ls[j.val]? = some (.val v)) (hv : v.isRef = true) (pc' : Nat) (hp : pc + 1 = pc') (K : OE p e R below s n0 Q T (mkF m pc' Ls (v :: st))) : OE p e R below s n0 Q T (mkF m pc Ls st) := by
  obtain ⟨hx, hZ, hown, hby, hmx, hret, hnm, hlk, h0, hT, locs, S, N⟩ := X; subst hp
  exact OE.by (fun t q => XS.aloadN S.here hx rfl (hb hby hd) hl hv q) K
theorem o_aload (X : OW p l e R s m args below meth c Z y bytes mx ret n0 T h k n) {j : Nat} {v : Value} (hd : decode bytes pc = .ok (.aload j, 2)) (hl : Ls[j]? = some (.val v)) (hv : v.isRef = true) (pc' : Nat) (hp : pc + 2 = pc') (K : OE p e R below s n0 Q T (mkF m pc' Ls (v :: st))) : OE p e R below s n0 Q T (mkF m pc Ls st) := by
  obtain ⟨hx, hZ, hown, hby, hmx, hret, hnm, hlk, h0, hT, locs, S, N⟩ := X; subst hp
  exact OE.by (fun t q => XS.aload S.here hx rfl (hb hby hd) hl hv q) K
theorem o_lloadN (X : OW p l e R s m args below meth c Z y bytes mx ret n0 T h k n) {j : Fin 4} {v : Int64} (hd : decode bytes pc = .ok (.lload_n j, 1)) (hl : Ls[j.val]? = some (.val (.long v))) (pc' : Nat) (hp : pc + 1 = pc') (K : OE p e R below s n0 Q T (mkF m pc' Ls (.long v :: st))) : OE p e R below s n0 Q T (mkF m pc Ls st) := by
  obtain ⟨hx, hZ, hown, hby, hmx, hret, hnm, hlk, h0, hT, locs, S, N⟩ := X; subst hp
  exact OE.by (fun t q => XT.lloadN S.here hx rfl (hb hby hd) hl q) K
theorem o_lload (X : OW p l e R s m args below meth c Z y bytes mx ret n0 T h k n) {j : Nat} {v : Int64} (hd : decode bytes pc = .ok (.lload j, 2)) (hl : Ls[j]? = some (.val (.long v))) (pc' : Nat) (hp : pc + 2 = pc') (K : OE p e R below s n0 Q T (mkF m pc' Ls (.long v :: st))) : OE p e R below s n0 Q T (mkF m pc Ls st) := by
  obtain ⟨hx, hZ, hown, hby, hmx, hret, hnm, hlk, h0, hT, locs, S, N⟩ := X; subst hp
  exact OE.by (fun t q => XT.lload S.here hx rfl (hb hby hd) hl q) K
theorem o_iconst (X : OW p l e R s m args below meth c Z y bytes mx ret n0 T h k n) {i : Int} {v : Int32} (hd : decode bytes pc = .ok (.iconst i, 1)) (hv : Int32.ofInt i = v) (pc' : Nat) (hp : pc + 1 = pc') (K : OE p e R below s n0 Q T (mkF m pc' Ls (.int v :: st))) : OE p e R below s n0 Q T (mkF m pc Ls st) := by
  obtain ⟨hx, hZ, hown, hby, hmx, hret, hnm, hlk, h0, hT, locs, S, N⟩ := X; subst hp hv
  exact OE.by (fun t q => XS.iconst S.here hx rfl (hb hby hd) q) K
theorem o_bipush (X : OW p l e R s m args below meth c Z y bytes mx ret n0 T h k n) {i : Int} {v : Int32} (hd : decode bytes pc = .ok (.bipush i, 2)) (hv : (Int8.ofInt i).toInt32 = v) (pc' : Nat) (hp : pc + 2 = pc') (K : OE p e R below s n0 Q T (mkF m pc' Ls (.int v :: st))) : OE p e R below s n0 Q T (mkF m pc Ls st) := by
  obtain ⟨hx, hZ, hown, hby, hmx, hret, hnm, hlk, h0, hT, locs, S, N⟩ := X; subst hp hv
  exact OE.by (fun t q => XS.bipush S.here hx rfl (hb hby hd) q) K
theorem o_sipush (X : OW p l e R s m args below meth c Z y bytes mx ret n0 T h k n) {i : Int} {v : Int32} (hd : decode bytes pc = .ok (.sipush i, 3)) (hv : (Int16.ofInt i).toInt32 = v) (pc' : Nat) (hp : pc + 3 = pc') (K : OE p e R below s n0 Q T (mkF m pc' Ls (.int v :: st))) : OE p e R below s n0 Q T (mkF m pc Ls st) := by
  obtain ⟨hx, hZ, hown, hby, hmx, hret, hnm, hlk, h0, hT, locs, S, N⟩ := X; subst hp hv
  exact OE.by (fun t q => XS.sipush S.here hx rfl (hb hby hd) q) K
theorem o_lconst (X : OW p l e R s m args below meth c Z y bytes mx ret n0 T h k n) {i : Fin 2} {v : Int64} (hd : decode bytes pc = .ok (.lconst i, 1)) (hv : Int64.ofNat i = v) (pc' : Nat) (hp : pc + 1 = pc') (K : OE p e R below s n0 Q T (mkF m pc' Ls (.long v :: st))) : OE p e R below s n0 Q T (mkF m pc Ls st) := by
  obtain ⟨hx, hZ, hown, hby, hmx, hret, hnm, hlk, h0, hT, locs, S, N⟩ := X; subst hp hv
  exact OE.by (fun t q => XT.lconst S.here hx rfl (hb hby hd) q) K
theorem o_iadd (X : OW p l e R s m args below meth c Z y bytes mx ret n0 T h k n) {x z : Int32} (hd : decode bytes pc = .ok (.iadd, 1))  (pc' : Nat) (hp : pc + 1 = pc') (K : OE p e R below s n0 Q T (mkF m pc' Ls (.int (x + z) :: st))) : OE p e R below s n0 Q T (mkF m pc Ls (.int z :: .int x :: st)) := by
  obtain ⟨hx, hZ, hown, hby, hmx, hret, hnm, hlk, h0, hT, locs, S, N⟩ := X; subst hp
  exact OE.by (fun t q => XS.iadd S.here hx rfl (hb hby hd) rfl q) K
theorem o_isub (X : OW p l e R s m args below meth c Z y bytes mx ret n0 T h k n) {x z : Int32} (hd : decode bytes pc = .ok (.isub, 1))  (pc' : Nat) (hp : pc + 1 = pc') (K : OE p e R below s n0 Q T (mkF m pc' Ls (.int (x - z) :: st))) : OE p e R below s n0 Q T (mkF m pc Ls (.int z :: .int x :: st)) := by
  obtain ⟨hx, hZ, hown, hby, hmx, hret, hnm, hlk, h0, hT, locs, S, N⟩ := X; subst hp
  exact OE.by (fun t q => XS.isub S.here hx rfl (hb hby hd) rfl q) K
theorem o_imul (X : OW p l e R s m args below meth c Z y bytes mx ret n0 T h k n) {x z : Int32} (hd : decode bytes pc = .ok (.imul, 1))  (pc' : Nat) (hp : pc + 1 = pc') (K : OE p e R below s n0 Q T (mkF m pc' Ls (.int (x * z) :: st))) : OE p e R below s n0 Q T (mkF m pc Ls (.int z :: .int x :: st)) := by
  obtain ⟨hx, hZ, hown, hby, hmx, hret, hnm, hlk, h0, hT, locs, S, N⟩ := X; subst hp
  exact OE.by (fun t q => XS.imul S.here hx rfl (hb hby hd) rfl q) K
theorem o_iand (X : OW p l e R s m args below meth c Z y bytes mx ret n0 T h k n) {x z : Int32} (hd : decode bytes pc = .ok (.iand, 1))  (pc' : Nat) (hp : pc + 1 = pc') (K : OE p e R below s n0 Q T (mkF m pc' Ls (.int (x &&& z) :: st))) : OE p e R below s n0 Q T (mkF m pc Ls (.int z :: .int x :: st)) := by
  obtain ⟨hx, hZ, hown, hby, hmx, hret, hnm, hlk, h0, hT, locs, S, N⟩ := X; subst hp
  exact OE.by (fun t q => XS.iand S.here hx rfl (hb hby hd) rfl q) K
theorem o_ior (X : OW p l e R s m args below meth c Z y bytes mx ret n0 T h k n) {x z : Int32} (hd : decode bytes pc = .ok (.ior, 1))  (pc' : Nat) (hp : pc + 1 = pc') (K : OE p e R below s n0 Q T (mkF m pc' Ls (.int (x ||| z) :: st))) : OE p e R below s n0 Q T (mkF m pc Ls (.int z :: .int x :: st)) := by
  obtain ⟨hx, hZ, hown, hby, hmx, hret, hnm, hlk, h0, hT, locs, S, N⟩ := X; subst hp
  exact OE.by (fun t q => XT.ior S.here hx rfl (hb hby hd) rfl q) K
theorem o_ixor (X : OW p l e R s m args below meth c Z y bytes mx ret n0 T h k n) {x z : Int32} (hd : decode bytes pc = .ok (.ixor, 1))  (pc' : Nat) (hp : pc + 1 = pc') (K : OE p e R below s n0 Q T (mkF m pc' Ls (.int (x ^^^ z) :: st))) : OE p e R below s n0 Q T (mkF m pc Ls (.int z :: .int x :: st)) := by
  obtain ⟨hx, hZ, hown, hby, hmx, hret, hnm, hlk, h0, hT, locs, S, N⟩ := X; subst hp
  exact OE.by (fun t q => XT.ixor S.here hx rfl (hb hby hd) rfl q) K
theorem o_ishl (X : OW p l e R s m args below meth c Z y bytes mx ret n0 T h k n) {x z : Int32} (hd : decode bytes pc = .ok (.ishl, 1))  (pc' : Nat) (hp : pc + 1 = pc') (K : OE p e R below s n0 Q T (mkF m pc' Ls (.int (x <<< (z &&& 31)) :: st))) : OE p e R below s n0 Q T (mkF m pc Ls (.int z :: .int x :: st)) := by
  obtain ⟨hx, hZ, hown, hby, hmx, hret, hnm, hlk, h0, hT, locs, S, N⟩ := X; subst hp
  exact OE.by (fun t q => XT.ishl S.here hx rfl (hb hby hd) rfl q) K
theorem o_ishr (X : OW p l e R s m args below meth c Z y bytes mx ret n0 T h k n) {x z : Int32} (hd : decode bytes pc = .ok (.ishr, 1))  (pc' : Nat) (hp : pc + 1 = pc') (K : OE p e R below s n0 Q T (mkF m pc' Ls (.int (x >>> (z &&& 31)) :: st))) : OE p e R below s n0 Q T (mkF m pc Ls (.int z :: .int x :: st)) := by
  obtain ⟨hx, hZ, hown, hby, hmx, hret, hnm, hlk, h0, hT, locs, S, N⟩ := X; subst hp
  exact OE.by (fun t q => XT.ishr S.here hx rfl (hb hby hd) rfl q) K
theorem o_iushr (X : OW p l e R s m args below meth c Z y bytes mx ret n0 T h k n) {x z : Int32} (hd : decode bytes pc = .ok (.iushr, 1))  (pc' : Nat) (hp : pc + 1 = pc') (K : OE p e R below s n0 Q T (mkF m pc' Ls (.int (XT.ushr x z) :: st))) : OE p e R below s n0 Q T (mkF m pc Ls (.int z :: .int x :: st)) := by
  obtain ⟨hx, hZ, hown, hby, hmx, hret, hnm, hlk, h0, hT, locs, S, N⟩ := X; subst hp
  exact OE.by (fun t q => XT.iushr S.here hx rfl (hb hby hd) rfl q) K
theorem o_idiv (X : OW p l e R s m args below meth c Z y bytes mx ret n0 T h k n) {x z : Int32} (hd : decode bytes pc = .ok (.idiv, 1)) (hz : z ≠ 0) (pc' : Nat) (hp : pc + 1 = pc') (K : OE p e R below s n0 Q T (mkF m pc' Ls (.int (x / z) :: st))) : OE p e R below s n0 Q T (mkF m pc Ls (.int z :: .int x :: st)) := by
  obtain ⟨hx, hZ, hown, hby, hmx, hret, hnm, hlk, h0, hT, locs, S, N⟩ := X; subst hp
  exact OE.by (fun t q => XS.idiv S.here hx rfl (hb hby hd) rfl hz q) K
theorem o_irem (X : OW p l e R s m args below meth c Z y bytes mx ret n0 T h k n) {x z : Int32} (hd : decode bytes pc = .ok (.irem, 1)) (hz : z ≠ 0) (pc' : Nat) (hp : pc + 1 = pc') (K : OE p e R below s n0 Q T (mkF m pc' Ls (.int (x % z) :: st))) : OE p e R below s n0 Q T (mkF m pc Ls (.int z :: .int x :: st)) := by
  obtain ⟨hx, hZ, hown, hby, hmx, hret, hnm, hlk, h0, hT, locs, S, N⟩ := X; subst hp
  exact OE.by (fun t q => iremM S hx rfl (hb hby hd) rfl hz q) K
theorem o_ladd (X : OW p l e R s m args below meth c Z y bytes mx ret n0 T h k n) {x z : Int64} (hd : decode bytes pc = .ok (.ladd, 1))  (pc' : Nat) (hp : pc + 1 = pc') (K : OE p e R below s n0 Q T (mkF m pc' Ls (.long (x + z) :: st))) : OE p e R below s n0 Q T (mkF m pc Ls (.long z :: .long x :: st)) := by
  obtain ⟨hx, hZ, hown, hby, hmx, hret, hnm, hlk, h0, hT, locs, S, N⟩ := X; subst hp
  exact OE.by (fun t q => XT.ladd S.here hx rfl (hb hby hd) rfl q) K
theorem o_lsub (X : OW p l e R s m args below meth c Z y bytes mx ret n0 T h k n) {x z : Int64} (hd : decode bytes pc = .ok (.lsub, 1))  (pc' : Nat) (hp : pc + 1 = pc') (K : OE p e R below s n0 Q T (mkF m pc' Ls (.long (x - z) :: st))) : OE p e R below s n0 Q T (mkF m pc Ls (.long z :: .long x :: st)) := by
  obtain ⟨hx, hZ, hown, hby, hmx, hret, hnm, hlk, h0, hT, locs, S, N⟩ := X; subst hp
  exact OE.by (fun t q => XT.lsub S.here hx rfl (hb hby hd) rfl q) K
theorem o_lor (X : OW p l e R s m args below meth c Z y bytes mx ret n0 T h k n) {x z : Int64} (hd : decode bytes pc = .ok (.lor, 1))  (pc' : Nat) (hp : pc + 1 = pc') (K : OE p e R below s n0 Q T (mkF m pc' Ls (.long (x ||| z) :: st))) : OE p e R below s n0 Q T (mkF m pc Ls (.long z :: .long x :: st)) := by
  obtain ⟨hx, hZ, hown, hby, hmx, hret, hnm, hlk, h0, hT, locs, S, N⟩ := X; subst hp
  exact OE.by (fun t q => XT.lor S.here hx rfl (hb hby hd) rfl q) K
theorem o_land (X : OW p l e R s m args below meth c Z y bytes mx ret n0 T h k n) {x z : Int64} (hd : decode bytes pc = .ok (.land, 1))  (pc' : Nat) (hp : pc + 1 = pc') (K : OE p e R below s n0 Q T (mkF m pc' Ls (.long (x &&& z) :: st))) : OE p e R below s n0 Q T (mkF m pc Ls (.long z :: .long x :: st)) := by
  obtain ⟨hx, hZ, hown, hby, hmx, hret, hnm, hlk, h0, hT, locs, S, N⟩ := X; subst hp
  exact OE.by (fun t q => XT.land S.here hx rfl (hb hby hd) rfl q) K
theorem o_lmul (X : OW p l e R s m args below meth c Z y bytes mx ret n0 T h k n) {x z : Int64} (hd : decode bytes pc = .ok (.lmul, 1))  (pc' : Nat) (hp : pc + 1 = pc') (K : OE p e R below s n0 Q T (mkF m pc' Ls (.long (x * z) :: st))) : OE p e R below s n0 Q T (mkF m pc Ls (.long z :: .long x :: st)) := by
  obtain ⟨hx, hZ, hown, hby, hmx, hret, hnm, hlk, h0, hT, locs, S, N⟩ := X; subst hp
  exact OE.by (fun t q => XT.lmul S.here hx rfl (hb hby hd) rfl q) K
theorem o_lshl (X : OW p l e R s m args below meth c Z y bytes mx ret n0 T h k n) {x : Int64} {z : Int32} (hd : decode bytes pc = .ok (.lshl, 1))  (pc' : Nat) (hp : pc + 1 = pc') (K : OE p e R below s n0 Q T (mkF m pc' Ls (.long (x <<< (z.toInt64 &&& 63)) :: st))) : OE p e R below s n0 Q T (mkF m pc Ls (.int z :: .long x :: st)) := by
  obtain ⟨hx, hZ, hown, hby, hmx, hret, hnm, hlk, h0, hT, locs, S, N⟩ := X; subst hp
  exact OE.by (fun t q => XT.lshl S.here hx rfl (hb hby hd) rfl q) K
theorem o_lushr (X : OW p l e R s m args below meth c Z y bytes mx ret n0 T h k n) {x : Int64} {z : Int32} (hd : decode bytes pc = .ok (.lushr, 1))  (pc' : Nat) (hp : pc + 1 = pc') (K : OE p e R below s n0 Q T (mkF m pc' Ls (.long (XT.ushrL x z) :: st))) : OE p e R below s n0 Q T (mkF m pc Ls (.int z :: .long x :: st)) := by
  obtain ⟨hx, hZ, hown, hby, hmx, hret, hnm, hlk, h0, hT, locs, S, N⟩ := X; subst hp
  exact OE.by (fun t q => XT.lushr S.here hx rfl (hb hby hd) rfl q) K
theorem o_lcmp (X : OW p l e R s m args below meth c Z y bytes mx ret n0 T h k n) {x z : Int64} (hd : decode bytes pc = .ok (.lcmp, 1))  (pc' : Nat) (hp : pc + 1 = pc') (K : OE p e R below s n0 Q T (mkF m pc' Ls (.int (XT.cmpL x z) :: st))) : OE p e R below s n0 Q T (mkF m pc Ls (.long z :: .long x :: st)) := by
  obtain ⟨hx, hZ, hown, hby, hmx, hret, hnm, hlk, h0, hT, locs, S, N⟩ := X; subst hp
  exact OE.by (fun t q => XT.lcmp S.here hx rfl (hb hby hd) rfl q) K
theorem o_i2l (X : OW p l e R s m args below meth c Z y bytes mx ret n0 T h k n) {x : Int32} (hd : decode bytes pc = .ok (.i2l, 1))  (pc' : Nat) (hp : pc + 1 = pc') (K : OE p e R below s n0 Q T (mkF m pc' Ls (.long x.toInt64 :: st))) : OE p e R below s n0 Q T (mkF m pc Ls (.int x :: st)) := by
  obtain ⟨hx, hZ, hown, hby, hmx, hret, hnm, hlk, h0, hT, locs, S, N⟩ := X; subst hp
  exact OE.by (fun t q => XT.i2l S.here hx rfl (hb hby hd) rfl q) K
theorem o_l2i (X : OW p l e R s m args below meth c Z y bytes mx ret n0 T h k n) {x : Int64} (hd : decode bytes pc = .ok (.l2i, 1))  (pc' : Nat) (hp : pc + 1 = pc') (K : OE p e R below s n0 Q T (mkF m pc' Ls (.int x.toInt32 :: st))) : OE p e R below s n0 Q T (mkF m pc Ls (.long x :: st)) := by
  obtain ⟨hx, hZ, hown, hby, hmx, hret, hnm, hlk, h0, hT, locs, S, N⟩ := X; subst hp
  exact OE.by (fun t q => XT.l2i S.here hx rfl (hb hby hd) rfl q) K
theorem o_i2b (X : OW p l e R s m args below meth c Z y bytes mx ret n0 T h k n) {x : Int32} (hd : decode bytes pc = .ok (.i2b, 1))  (pc' : Nat) (hp : pc + 1 = pc') (K : OE p e R below s n0 Q T (mkF m pc' Ls (.int x.toInt8.toInt32 :: st))) : OE p e R below s n0 Q T (mkF m pc Ls (.int x :: st)) := by
  obtain ⟨hx, hZ, hown, hby, hmx, hret, hnm, hlk, h0, hT, locs, S, N⟩ := X; subst hp
  exact OE.by (fun t q => XT.i2b S.here hx rfl (hb hby hd) rfl q) K
theorem o_i2c (X : OW p l e R s m args below meth c Z y bytes mx ret n0 T h k n) {x : Int32} (hd : decode bytes pc = .ok (.i2c, 1))  (pc' : Nat) (hp : pc + 1 = pc') (K : OE p e R below s n0 Q T (mkF m pc' Ls (.int x.toUInt32.toUInt16.toUInt32.toInt32 :: st))) : OE p e R below s n0 Q T (mkF m pc Ls (.int x :: st)) := by
  obtain ⟨hx, hZ, hown, hby, hmx, hret, hnm, hlk, h0, hT, locs, S, N⟩ := X; subst hp
  exact OE.by (fun t q => XT.i2c S.here hx rfl (hb hby hd) rfl q) K
theorem o_dup (X : OW p l e R s m args below meth c Z y bytes mx ret n0 T h k n) {v : Value} (hd : decode bytes pc = .ok (.dup, 1)) (hc : v.category = 1) (pc' : Nat) (hp : pc + 1 = pc') (K : OE p e R below s n0 Q T (mkF m pc' Ls (v :: v :: st))) : OE p e R below s n0 Q T (mkF m pc Ls (v :: st)) := by
  obtain ⟨hx, hZ, hown, hby, hmx, hret, hnm, hlk, h0, hT, locs, S, N⟩ := X; subst hp
  exact OE.by (fun t q => XS.dup S.here hx rfl (hb hby hd) rfl hc q) K
theorem o_pop (X : OW p l e R s m args below meth c Z y bytes mx ret n0 T h k n) {v : Value} (hd : decode bytes pc = .ok (.pop, 1)) (hc : v.category = 1) (pc' : Nat) (hp : pc + 1 = pc') (K : OE p e R below s n0 Q T (mkF m pc' Ls st)) : OE p e R below s n0 Q T (mkF m pc Ls (v :: st)) := by
  obtain ⟨hx, hZ, hown, hby, hmx, hret, hnm, hlk, h0, hT, locs, S, N⟩ := X; subst hp
  exact OE.by (fun t q => XT.pop S.here hx rfl (hb hby hd) rfl hc q) K
theorem o_dupX1 (X : OW p l e R s m args below meth c Z y bytes mx ret n0 T h k n) {v w : Value} (hd : decode bytes pc = .ok (.dup_x1, 1)) (hc : v.category = 1) (hc' : w.category = 1) (pc' : Nat) (hp : pc + 1 = pc') (K : OE p e R below s n0 Q T (mkF m pc' Ls (v :: w :: v :: st))) : OE p e R below s n0 Q T (mkF m pc Ls (v :: w :: st)) := by
  obtain ⟨hx, hZ, hown, hby, hmx, hret, hnm, hlk, h0, hT, locs, S, N⟩ := X; subst hp
  exact OE.by (fun t q => XT.dupX1 S.here hx rfl (hb hby hd) rfl hc hc' q) K
theorem o_dup2 (X : OW p l e R s m args below meth c Z y bytes mx ret n0 T h k n) {v w : Value} (hd : decode bytes pc = .ok (.dup2, 1)) (hc : v.category = 1) (hc' : w.category = 1) (pc' : Nat) (hp : pc + 1 = pc') (K : OE p e R below s n0 Q T (mkF m pc' Ls (v :: w :: v :: w :: st))) : OE p e R below s n0 Q T (mkF m pc Ls (v :: w :: st)) := by
  obtain ⟨hx, hZ, hown, hby, hmx, hret, hnm, hlk, h0, hT, locs, S, N⟩ := X; subst hp
  exact OE.by (fun t q => XT.dup2 S.here hx rfl (hb hby hd) rfl hc hc' q) K
theorem o_istoreN (X : OW p l e R s m args below meth c Z y bytes mx ret n0 T h k n) {j : Fin 4} {v : Int32} (hd : decode bytes pc = .ok (.istore_n j, 1)) (Ls' : Array Slot) (hl : storeLocals Ls j.val (.int v) = some Ls') (pc' : Nat) (hp : pc + 1 = pc') (K : OE p e R below s n0 Q T (mkF m pc' Ls' st)) : OE p e R below s n0 Q T (mkF m pc Ls (.int v :: st)) := by
  obtain ⟨hx, hZ, hown, hby, hmx, hret, hnm, hlk, h0, hT, locs, S, N⟩ := X; subst hp
  exact OE.by (fun t q => XS.istoreN S.here hx rfl (hb hby hd) rfl hl q) K
theorem o_istore (X : OW p l e R s m args below meth c Z y bytes mx ret n0 T h k n) {j : Nat} {v : Int32} (hd : decode bytes pc = .ok (.istore j, 2)) (Ls' : Array Slot) (hl : storeLocals Ls j (.int v) = some Ls') (pc' : Nat) (hp : pc + 2 = pc') (K : OE p e R below s n0 Q T (mkF m pc' Ls' st)) : OE p e R below s n0 Q T (mkF m pc Ls (.int v :: st)) := by
  obtain ⟨hx, hZ, hown, hby, hmx, hret, hnm, hlk, h0, hT, locs, S, N⟩ := X; subst hp
  exact OE.by (fun t q => XS.istore S.here hx rfl (hb hby hd) rfl hl q) K
theorem o_lstoreN (X : OW p l e R s m args below meth c Z y bytes mx ret n0 T h k n) {j : Fin 4} {v : Int64} (hd : decode bytes pc = .ok (.lstore_n j, 1)) (Ls' : Array Slot) (hl : storeLocals Ls j.val (.long v) = some Ls') (pc' : Nat) (hp : pc + 1 = pc') (K : OE p e R below s n0 Q T (mkF m pc' Ls' st)) : OE p e R below s n0 Q T (mkF m pc Ls (.long v :: st)) := by
  obtain ⟨hx, hZ, hown, hby, hmx, hret, hnm, hlk, h0, hT, locs, S, N⟩ := X; subst hp
  exact OE.by (fun t q => XT.lstoreN S.here hx rfl (hb hby hd) rfl hl q) K
theorem o_lstore (X : OW p l e R s m args below meth c Z y bytes mx ret n0 T h k n) {j : Nat} {v : Int64} (hd : decode bytes pc = .ok (.lstore j, 2)) (Ls' : Array Slot) (hl : storeLocals Ls j (.long v) = some Ls') (pc' : Nat) (hp : pc + 2 = pc') (K : OE p e R below s n0 Q T (mkF m pc' Ls' st)) : OE p e R below s n0 Q T (mkF m pc Ls (.long v :: st)) := by
  obtain ⟨hx, hZ, hown, hby, hmx, hret, hnm, hlk, h0, hT, locs, S, N⟩ := X; subst hp
  exact OE.by (fun t q => XT.lstore S.here hx rfl (hb hby hd) rfl hl q) K
theorem o_astoreN (X : OW p l e R s m args below meth c Z y bytes mx ret n0 T h k n) {j : Fin 4} {v : Value} (hd : decode bytes pc = .ok (.astore_n j, 1)) (hv : v.isRef = true) (Ls' : Array Slot) (hl : storeLocals Ls j.val v = some Ls') (pc' : Nat) (hp : pc + 1 = pc') (K : OE p e R below s n0 Q T (mkF m pc' Ls' st)) : OE p e R below s n0 Q T (mkF m pc Ls (v :: st)) := by
  obtain ⟨hx, hZ, hown, hby, hmx, hret, hnm, hlk, h0, hT, locs, S, N⟩ := X; subst hp
  exact OE.by (fun t q => XS.astoreN S.here hx rfl (hb hby hd) rfl hv hl q) K
theorem o_astore (X : OW p l e R s m args below meth c Z y bytes mx ret n0 T h k n) {j : Nat} {v : Value} (hd : decode bytes pc = .ok (.astore j, 2)) (hv : v.isRef = true) (Ls' : Array Slot) (hl : storeLocals Ls j v = some Ls') (pc' : Nat) (hp : pc + 2 = pc') (K : OE p e R below s n0 Q T (mkF m pc' Ls' st)) : OE p e R below s n0 Q T (mkF m pc Ls (v :: st)) := by
  obtain ⟨hx, hZ, hown, hby, hmx, hret, hnm, hlk, h0, hT, locs, S, N⟩ := X; subst hp
  exact OE.by (fun t q => XS.astore S.here hx rfl (hb hby hd) rfl hv hl q) K
theorem o_iinc (X : OW p l e R s m args below meth c Z y bytes mx ret n0 T h k n) {j : Nat} {i : Int} {v w : Int32} (hd : decode bytes pc = .ok (.iinc j i, 3)) (hg : Ls[j]? = some (.val (.int v))) (hw : v + Int32.ofInt i = w) (Ls' : Array Slot) (hl : storeLocals Ls j (.int w) = some Ls') (pc' : Nat) (hp : pc + 3 = pc') (K : OE p e R below s n0 Q T (mkF m pc' Ls' st)) : OE p e R below s n0 Q T (mkF m pc Ls st) := by
  obtain ⟨hx, hZ, hown, hby, hmx, hret, hnm, hlk, h0, hT, locs, S, N⟩ := X; subst hp hw
  exact OE.by (fun t q => XS.iinc S.here hx rfl (hb hby hd) hg hl q) K
theorem o_goto (X : OW p l e R s m args below meth c Z y bytes mx ret n0 T h k n) {o : Int} (hd : decode bytes pc = .ok (.goto o, 3)) (pc' : Nat) (ho : 0 ≤ (pc : Int) + o) (hp : ((pc : Int) + o).toNat = pc') (K : OE p e R below s n0 Q T (mkF m pc' Ls st)) : OE p e R below s n0 Q T (mkF m pc Ls st) := by
  obtain ⟨hx, hZ, hown, hby, hmx, hret, hnm, hlk, h0, hT, locs, S, N⟩ := X
  exact OE.by (fun t q => XS.goto S.here hx rfl rfl (hb hby hd) ho hp q) K
theorem o_icmpEq (X : OW p l e R s m args below meth c Z y bytes mx ret n0 T h k n) {o : Int} {x z : Int32} (hd : decode bytes pc = .ok (.if_icmp .eq o, 3)) (pcT pcF : Nat) (ho : 0 ≤ (pc : Int) + o) (hT : ((pc : Int) + o).toNat = pcT) (hF : pc + 3 = pcF) (KT : x = z → OE p e R below s n0 Q T (mkF m pcT Ls st)) (KF : ¬ x = z → OE p e R below s n0 Q T (mkF m pcF Ls st)) : OE p e R below s n0 Q T (mkF m pc Ls (.int z :: .int x :: st)) := by
  obtain ⟨hx, hZ, hown, hby, hmx, hret, hnm, hlk, h0, hT', locs, S, N⟩ := X; subst hF
  by_cases q : x = z
  · exact OE.by (fun t r => XS.icmpYes S.here hx rfl rfl (hb hby hd) rfl ((teq q).1) ho hT r) (KT q)
  · exact OE.by (fun t r => XS.icmpNo S.here hx rfl (hb hby hd) rfl ((feq q).1) r) (KF q)
theorem o_ifEq (X : OW p l e R s m args below meth c Z y bytes mx ret n0 T h k n) {o : Int} {x : Int32} (hd : decode bytes pc = .ok (.ifCond .eq o, 3)) (pcT pcF : Nat) (ho : 0 ≤ (pc : Int) + o) (hT : ((pc : Int) + o).toNat = pcT) (hF : pc + 3 = pcF) (KT : x = 0 → OE p e R below s n0 Q T (mkF m pcT Ls st)) (KF : ¬ x = 0 → OE p e R below s n0 Q T (mkF m pcF Ls st)) : OE p e R below s n0 Q T (mkF m pc Ls (.int x :: st)) := by
  obtain ⟨hx, hZ, hown, hby, hmx, hret, hnm, hlk, h0, hT', locs, S, N⟩ := X; subst hF
  by_cases q : x = 0
  · exact OE.by (fun t r => XS.ifYes S.here hx rfl rfl (hb hby hd) rfl ((if0 _ _).trans (teq q).1) ho hT r) (KT q)
  · exact OE.by (fun t r => XS.ifNo S.here hx rfl (hb hby hd) rfl ((if0 _ _).trans (feq q).1) r) (KF q)
theorem o_icmpNe (X : OW p l e R s m args below meth c Z y bytes mx ret n0 T h k n) {o : Int} {x z : Int32} (hd : decode bytes pc = .ok (.if_icmp .ne o, 3)) (pcT pcF : Nat) (ho : 0 ≤ (pc : Int) + o) (hT : ((pc : Int) + o).toNat = pcT) (hF : pc + 3 = pcF) (KT : ¬ x = z → OE p e R below s n0 Q T (mkF m pcT Ls st)) (KF : x = z → OE p e R below s n0 Q T (mkF m pcF Ls st)) : OE p e R below s n0 Q T (mkF m pc Ls (.int z :: .int x :: st)) := by
  obtain ⟨hx, hZ, hown, hby, hmx, hret, hnm, hlk, h0, hT', locs, S, N⟩ := X; subst hF
  by_cases q : x = z
  · exact OE.by (fun t r => XS.icmpNo S.here hx rfl (hb hby hd) rfl ((teq q).2) r) (KF q)
  · exact OE.by (fun t r => XS.icmpYes S.here hx rfl rfl (hb hby hd) rfl ((feq q).2) ho hT r) (KT q)
theorem o_ifNe (X : OW p l e R s m args below meth c Z y bytes mx ret n0 T h k n) {o : Int} {x : Int32} (hd : decode bytes pc = .ok (.ifCond .ne o, 3)) (pcT pcF : Nat) (ho : 0 ≤ (pc : Int) + o) (hT : ((pc : Int) + o).toNat = pcT) (hF : pc + 3 = pcF) (KT : ¬ x = 0 → OE p e R below s n0 Q T (mkF m pcT Ls st)) (KF : x = 0 → OE p e R below s n0 Q T (mkF m pcF Ls st)) : OE p e R below s n0 Q T (mkF m pc Ls (.int x :: st)) := by
  obtain ⟨hx, hZ, hown, hby, hmx, hret, hnm, hlk, h0, hT', locs, S, N⟩ := X; subst hF
  by_cases q : x = 0
  · exact OE.by (fun t r => XS.ifNo S.here hx rfl (hb hby hd) rfl ((if0 _ _).trans (teq q).2) r) (KF q)
  · exact OE.by (fun t r => XS.ifYes S.here hx rfl rfl (hb hby hd) rfl ((if0 _ _).trans (feq q).2) ho hT r) (KT q)
theorem o_icmpLt (X : OW p l e R s m args below meth c Z y bytes mx ret n0 T h k n) {o : Int} {x z : Int32} (hd : decode bytes pc = .ok (.if_icmp .lt o, 3)) (pcT pcF : Nat) (ho : 0 ≤ (pc : Int) + o) (hT : ((pc : Int) + o).toNat = pcT) (hF : pc + 3 = pcF) (KT : x < z → OE p e R below s n0 Q T (mkF m pcT Ls st)) (KF : ¬ x < z → OE p e R below s n0 Q T (mkF m pcF Ls st)) : OE p e R below s n0 Q T (mkF m pc Ls (.int z :: .int x :: st)) := by
  obtain ⟨hx, hZ, hown, hby, hmx, hret, hnm, hlk, h0, hT', locs, S, N⟩ := X; subst hF
  by_cases q : x < z
  · exact OE.by (fun t r => XS.icmpYes S.here hx rfl rfl (hb hby hd) rfl ((tlt q).1) ho hT r) (KT q)
  · exact OE.by (fun t r => XS.icmpNo S.here hx rfl (hb hby hd) rfl ((flt q).1) r) (KF q)
theorem o_ifLt (X : OW p l e R s m args below meth c Z y bytes mx ret n0 T h k n) {o : Int} {x : Int32} (hd : decode bytes pc = .ok (.ifCond .lt o, 3)) (pcT pcF : Nat) (ho : 0 ≤ (pc : Int) + o) (hT : ((pc : Int) + o).toNat = pcT) (hF : pc + 3 = pcF) (KT : x < 0 → OE p e R below s n0 Q T (mkF m pcT Ls st)) (KF : ¬ x < 0 → OE p e R below s n0 Q T (mkF m pcF Ls st)) : OE p e R below s n0 Q T (mkF m pc Ls (.int x :: st)) := by
  obtain ⟨hx, hZ, hown, hby, hmx, hret, hnm, hlk, h0, hT', locs, S, N⟩ := X; subst hF
  by_cases q : x < 0
  · exact OE.by (fun t r => XS.ifYes S.here hx rfl rfl (hb hby hd) rfl ((if0 _ _).trans (tlt q).1) ho hT r) (KT q)
  · exact OE.by (fun t r => XS.ifNo S.here hx rfl (hb hby hd) rfl ((if0 _ _).trans (flt q).1) r) (KF q)
theorem o_icmpGe (X : OW p l e R s m args below meth c Z y bytes mx ret n0 T h k n) {o : Int} {x z : Int32} (hd : decode bytes pc = .ok (.if_icmp .ge o, 3)) (pcT pcF : Nat) (ho : 0 ≤ (pc : Int) + o) (hT : ((pc : Int) + o).toNat = pcT) (hF : pc + 3 = pcF) (KT : ¬ x < z → OE p e R below s n0 Q T (mkF m pcT Ls st)) (KF : x < z → OE p e R below s n0 Q T (mkF m pcF Ls st)) : OE p e R below s n0 Q T (mkF m pc Ls (.int z :: .int x :: st)) := by
  obtain ⟨hx, hZ, hown, hby, hmx, hret, hnm, hlk, h0, hT', locs, S, N⟩ := X; subst hF
  by_cases q : x < z
  · exact OE.by (fun t r => XS.icmpNo S.here hx rfl (hb hby hd) rfl ((tlt q).2.1) r) (KF q)
  · exact OE.by (fun t r => XS.icmpYes S.here hx rfl rfl (hb hby hd) rfl ((flt q).2.1) ho hT r) (KT q)
theorem o_ifGe (X : OW p l e R s m args below meth c Z y bytes mx ret n0 T h k n) {o : Int} {x : Int32} (hd : decode bytes pc = .ok (.ifCond .ge o, 3)) (pcT pcF : Nat) (ho : 0 ≤ (pc : Int) + o) (hT : ((pc : Int) + o).toNat = pcT) (hF : pc + 3 = pcF) (KT : ¬ x < 0 → OE p e R below s n0 Q T (mkF m pcT Ls st)) (KF : x < 0 → OE p e R below s n0 Q T (mkF m pcF Ls st)) : OE p e R below s n0 Q T (mkF m pc Ls (.int x :: st)) := by
  obtain ⟨hx, hZ, hown, hby, hmx, hret, hnm, hlk, h0, hT', locs, S, N⟩ := X; subst hF
  by_cases q : x < 0
  · exact OE.by (fun t r => XS.ifNo S.here hx rfl (hb hby hd) rfl ((if0 _ _).trans (tlt q).2.1) r) (KF q)
  · exact OE.by (fun t r => XS.ifYes S.here hx rfl rfl (hb hby hd) rfl ((if0 _ _).trans (flt q).2.1) ho hT r) (KT q)
theorem o_icmpGt (X : OW p l e R s m args below meth c Z y bytes mx ret n0 T h k n) {o : Int} {x z : Int32} (hd : decode bytes pc = .ok (.if_icmp .gt o, 3)) (pcT pcF : Nat) (ho : 0 ≤ (pc : Int) + o) (hT : ((pc : Int) + o).toNat = pcT) (hF : pc + 3 = pcF) (KT : z < x → OE p e R below s n0 Q T (mkF m pcT Ls st)) (KF : ¬ z < x → OE p e R below s n0 Q T (mkF m pcF Ls st)) : OE p e R below s n0 Q T (mkF m pc Ls (.int z :: .int x :: st)) := by
  obtain ⟨hx, hZ, hown, hby, hmx, hret, hnm, hlk, h0, hT', locs, S, N⟩ := X; subst hF
  by_cases q : z < x
  · exact OE.by (fun t r => XS.icmpYes S.here hx rfl rfl (hb hby hd) rfl ((tlt q).2.2.1) ho hT r) (KT q)
  · exact OE.by (fun t r => XS.icmpNo S.here hx rfl (hb hby hd) rfl ((flt q).2.2.1) r) (KF q)
theorem o_ifGt (X : OW p l e R s m args below meth c Z y bytes mx ret n0 T h k n) {o : Int} {x : Int32} (hd : decode bytes pc = .ok (.ifCond .gt o, 3)) (pcT pcF : Nat) (ho : 0 ≤ (pc : Int) + o) (hT : ((pc : Int) + o).toNat = pcT) (hF : pc + 3 = pcF) (KT : 0 < x → OE p e R below s n0 Q T (mkF m pcT Ls st)) (KF : ¬ 0 < x → OE p e R below s n0 Q T (mkF m pcF Ls st)) : OE p e R below s n0 Q T (mkF m pc Ls (.int x :: st)) := by
  obtain ⟨hx, hZ, hown, hby, hmx, hret, hnm, hlk, h0, hT', locs, S, N⟩ := X; subst hF
  by_cases q : 0 < x
  · exact OE.by (fun t r => XS.ifYes S.here hx rfl rfl (hb hby hd) rfl ((if0 _ _).trans (tlt q).2.2.1) ho hT r) (KT q)
  · exact OE.by (fun t r => XS.ifNo S.here hx rfl (hb hby hd) rfl ((if0 _ _).trans (flt q).2.2.1) r) (KF q)
theorem o_icmpLe (X : OW p l e R s m args below meth c Z y bytes mx ret n0 T h k n) {o : Int} {x z : Int32} (hd : decode bytes pc = .ok (.if_icmp .le o, 3)) (pcT pcF : Nat) (ho : 0 ≤ (pc : Int) + o) (hT : ((pc : Int) + o).toNat = pcT) (hF : pc + 3 = pcF) (KT : ¬ z < x → OE p e R below s n0 Q T (mkF m pcT Ls st)) (KF : z < x → OE p e R below s n0 Q T (mkF m pcF Ls st)) : OE p e R below s n0 Q T (mkF m pc Ls (.int z :: .int x :: st)) := by
  obtain ⟨hx, hZ, hown, hby, hmx, hret, hnm, hlk, h0, hT', locs, S, N⟩ := X; subst hF
  by_cases q : z < x
  · exact OE.by (fun t r => XS.icmpNo S.here hx rfl (hb hby hd) rfl ((tlt q).2.2.2) r) (KF q)
  · exact OE.by (fun t r => XS.icmpYes S.here hx rfl rfl (hb hby hd) rfl ((flt q).2.2.2) ho hT r) (KT q)
theorem o_ifLe (X : OW p l e R s m args below meth c Z y bytes mx ret n0 T h k n) {o : Int} {x : Int32} (hd : decode bytes pc = .ok (.ifCond .le o, 3)) (pcT pcF : Nat) (ho : 0 ≤ (pc : Int) + o) (hT : ((pc : Int) + o).toNat = pcT) (hF : pc + 3 = pcF) (KT : ¬ 0 < x → OE p e R below s n0 Q T (mkF m pcT Ls st)) (KF : 0 < x → OE p e R below s n0 Q T (mkF m pcF Ls st)) : OE p e R below s n0 Q T (mkF m pc Ls (.int x :: st)) := by
  obtain ⟨hx, hZ, hown, hby, hmx, hret, hnm, hlk, h0, hT', locs, S, N⟩ := X; subst hF
  by_cases q : 0 < x
  · exact OE.by (fun t r => XS.ifNo S.here hx rfl (hb hby hd) rfl ((if0 _ _).trans (tlt q).2.2.2) r) (KF q)
  · exact OE.by (fun t r => XS.ifYes S.here hx rfl rfl (hb hby hd) rfl ((if0 _ _).trans (flt q).2.2.2) ho hT r) (KT q)
theorem o_ifnullR (X : OW p l e R s m args below meth c Z y bytes mx ret n0 T h k n) {o : Int} {a : Addr} (hd : decode bytes pc = .ok (.ifnull o, 3)) (pc' : Nat) (hp : pc + 3 = pc') (K : OE p e R below s n0 Q T (mkF m pc' Ls st)) : OE p e R below s n0 Q T (mkF m pc Ls (.ref a :: st)) := by
  obtain ⟨hx, hZ, hown, hby, hmx, hret, hnm, hlk, h0, hT, locs, S, N⟩ := X; subst hp
  exact OE.by (fun t q => XS.ifnullNo S.here hx rfl (hb hby hd) rfl q) K
theorem o_ifnonnullR (X : OW p l e R s m args below meth c Z y bytes mx ret n0 T h k n) {o : Int} {a : Addr} (hd : decode bytes pc = .ok (.ifnonnull o, 3)) (pc' : Nat) (ho : 0 ≤ (pc : Int) + o) (hp : ((pc : Int) + o).toNat = pc') (K : OE p e R below s n0 Q T (mkF m pc' Ls st)) : OE p e R below s n0 Q T (mkF m pc Ls (.ref a :: st)) := by
  obtain ⟨hx, hZ, hown, hby, hmx, hret, hnm, hlk, h0, hT, locs, S, N⟩ := X
  exact OE.by (fun t q => XT.ifnonnullYes S.here hx rfl rfl (hb hby hd) rfl ho hp q) K
theorem o_acmpEqN (X : OW p l e R s m args below meth c Z y bytes mx ret n0 T h k n) {o : Int} {a b : Addr} (hd : decode bytes pc = .ok (.if_acmp .eq o, 3)) (hab : a ≠ b) (pc' : Nat) (hp : pc + 3 = pc') (K : OE p e R below s n0 Q T (mkF m pc' Ls st)) : OE p e R below s n0 Q T (mkF m pc Ls (.ref b :: .ref a :: st)) := by
  obtain ⟨hx, hZ, hown, hby, hmx, hret, hnm, hlk, h0, hT, locs, S, N⟩ := X; subst hp
  exact OE.by (fun t q => XT.acmpNo S.here hx rfl (hb hby hd) rfl rfl rfl (decide_eq_false fun r => hab (Value.ref.inj r)) q) K
theorem o_acmpNeY (X : OW p l e R s m args below meth c Z y bytes mx ret n0 T h k n) {o : Int} {a b : Addr} (hd : decode bytes pc = .ok (.if_acmp .ne o, 3)) (hab : a ≠ b) (pc' : Nat) (ho : 0 ≤ (pc : Int) + o) (hp : ((pc : Int) + o).toNat = pc') (K : OE p e R below s n0 Q T (mkF m pc' Ls st)) : OE p e R below s n0 Q T (mkF m pc Ls (.ref b :: .ref a :: st)) := by
  obtain ⟨hx, hZ, hown, hby, hmx, hret, hnm, hlk, h0, hT, locs, S, N⟩ := X
  exact OE.by (fun t q => XT.acmpYes S.here hx rfl rfl (hb hby hd) rfl rfl rfl (decide_eq_true fun r => hab (Value.ref.inj r)) ho hp q) K
theorem o_ldc (X : OW p l e R s m args below meth c Z y bytes mx ret n0 T h k n) {i : Nat} {v : Int32} (hd : decode bytes pc = .ok (.ldc i, 2)) (w : (Cond.constant y.cls i v).before a0 Z = true) (pc' : Nat) (hp : pc + 2 = pc') (K : OE p e R below s n0 Q T (mkF m pc' Ls (.int v :: st))) : OE p e R below s n0 Q T (mkF m pc Ls st) := by
  obtain ⟨hx, hZ, hown, hby, hmx, hret, hnm, hlk, h0, hT, locs, S, N⟩ := X; subst hp
  exact OE.by (fun t q => S.ldcInt hx hown (mvT hZ w) (g := mkF m pc Ls st) rfl (hb hby hd) t q) K
theorem o_ldc2L (X : OW p l e R s m args below meth c Z y bytes mx ret n0 T h k n) {i : Nat} {v : Int64} (hd : decode bytes pc = .ok (.ldc2_w i, 3)) (w : (Cond.constantLong y.cls i v).before a0 Z = true) (pc' : Nat) (hp : pc + 3 = pc') (K : OE p e R below s n0 Q T (mkF m pc' Ls (.long v :: st))) : OE p e R below s n0 Q T (mkF m pc Ls st) := by
  obtain ⟨hx, hZ, hown, hby, hmx, hret, hnm, hlk, h0, hT, locs, S, N⟩ := X; subst hp
  exact OE.by (fun t q => S.ldc2Long hx hown (mvT hZ w) (g := mkF m pc Ls st) rfl (hb hby hd) t q) K
theorem o_retZ (X : OW p l e R s m args below meth c Z y bytes mx (some .boolean) n0 T h k n) {z : Int32} (hd : decode bytes pc = .ok (.ireturn, 1)) (hk : k ≤ R.cells) (hn : n ≤ R.slots) (hq : Q (some (.int (nar .boolean z))) h) : OE p e R below s n0 Q T (mkF m pc Ls (.int z :: st)) := by
  obtain ⟨hx, hZ, hown, hby, hmx, hret, hnm, hlk, h0, hT, locs, S, N⟩ := X
  obtain ⟨fs, hr, hrun, hended, hW, hsame⟩ := S.leave (v := some (.int (nar .boolean z))) (fun q => by rw [hret] at q; cases q) hlk
  exact ⟨_, _, retN S hx (t := .boolean) hret (by simp) (hb hby hd) hr, hrun, hended, _, _, rfl, ⟨by show Q _ T.heap; rw [hT]; exact hq, N⟩, ⟨_, rfl⟩, hW, hsame.mono hk hn⟩
theorem o_retB (X : OW p l e R s m args below meth c Z y bytes mx (some .byte) n0 T h k n) {z : Int32} (hd : decode bytes pc = .ok (.ireturn, 1)) (hk : k ≤ R.cells) (hn : n ≤ R.slots) (hq : Q (some (.int (nar .byte z))) h) : OE p e R below s n0 Q T (mkF m pc Ls (.int z :: st)) := by
  obtain ⟨hx, hZ, hown, hby, hmx, hret, hnm, hlk, h0, hT, locs, S, N⟩ := X
  obtain ⟨fs, hr, hrun, hended, hW, hsame⟩ := S.leave (v := some (.int (nar .byte z))) (fun q => by rw [hret] at q; cases q) hlk
  exact ⟨_, _, retN S hx (t := .byte) hret (by simp) (hb hby hd) hr, hrun, hended, _, _, rfl, ⟨by show Q _ T.heap; rw [hT]; exact hq, N⟩, ⟨_, rfl⟩, hW, hsame.mono hk hn⟩
theorem o_retC (X : OW p l e R s m args below meth c Z y bytes mx (some .char) n0 T h k n) {z : Int32} (hd : decode bytes pc = .ok (.ireturn, 1)) (hk : k ≤ R.cells) (hn : n ≤ R.slots) (hq : Q (some (.int (nar .char z))) h) : OE p e R below s n0 Q T (mkF m pc Ls (.int z :: st)) := by
  obtain ⟨hx, hZ, hown, hby, hmx, hret, hnm, hlk, h0, hT, locs, S, N⟩ := X
  obtain ⟨fs, hr, hrun, hended, hW, hsame⟩ := S.leave (v := some (.int (nar .char z))) (fun q => by rw [hret] at q; cases q) hlk
  exact ⟨_, _, retN S hx (t := .char) hret (by simp) (hb hby hd) hr, hrun, hended, _, _, rfl, ⟨by show Q _ T.heap; rw [hT]; exact hq, N⟩, ⟨_, rfl⟩, hW, hsame.mono hk hn⟩
theorem o_retI (X : OW p l e R s m args below meth c Z y bytes mx (some .int) n0 T h k n) {z : Int32} (hd : decode bytes pc = .ok (.ireturn, 1)) (hk : k ≤ R.cells) (hn : n ≤ R.slots) (hq : Q (some (.int z)) h) : OE p e R below s n0 Q T (mkF m pc Ls (.int z :: st)) := by
  obtain ⟨hx, hZ, hown, hby, hmx, hret, hnm, hlk, h0, hT, locs, S, N⟩ := X
  obtain ⟨fs, hr, hrun, hended, hW, hsame⟩ := S.leave (v := some (.int z)) (fun q => by rw [hret] at q; cases q) hlk
  exact ⟨_, _, retOut S hx hret rfl (Or.inl ⟨rfl, Or.inl rfl, z, rfl⟩) (hb hby hd) hr, hrun, hended, _, _, rfl, ⟨by show Q _ T.heap; rw [hT]; exact hq, N⟩, ⟨_, rfl⟩, hW, hsame.mono hk hn⟩
theorem o_retJ (X : OW p l e R s m args below meth c Z y bytes mx (some .long) n0 T h k n) {z : Int64} (hd : decode bytes pc = .ok (.lreturn, 1)) (hk : k ≤ R.cells) (hn : n ≤ R.slots) (hq : Q (some (.long z)) h) : OE p e R below s n0 Q T (mkF m pc Ls (.long z :: st)) := by
  obtain ⟨hx, hZ, hown, hby, hmx, hret, hnm, hlk, h0, hT, locs, S, N⟩ := X
  obtain ⟨fs, hr, hrun, hended, hW, hsame⟩ := S.leave (v := some (.long z)) (fun q => by rw [hret] at q; cases q) hlk
  exact ⟨_, _, retOut S hx hret rfl (Or.inr (Or.inl ⟨rfl, rfl, z, rfl⟩)) (hb hby hd) hr, hrun, hended, _, _, rfl, ⟨by show Q _ T.heap; rw [hT]; exact hq, N⟩, ⟨_, rfl⟩, hW, hsame.mono hk hn⟩
theorem o_retA {ty : FieldType} (X : OW p l e R s m args below meth c Z y bytes mx (some ty) n0 T h k n) (hty : ty.isReference = true) {a : Addr} (hnar : narrow ty (.ref a) = .ref a) (hd : decode bytes pc = .ok (.areturn, 1)) (hk : k ≤ R.cells) (hn : n ≤ R.slots) (hq : Q (some (.ref a)) h) : OE p e R below s n0 Q T (mkF m pc Ls (.ref a :: st)) := by
  obtain ⟨hx, hZ, hown, hby, hmx, hret, hnm, hlk, h0, hT, locs, S, N⟩ := X
  obtain ⟨fs, hr, hrun, hended, hW, hsame⟩ := S.leave (v := some (.ref a)) (fun q => by rw [hret] at q; cases q) hlk
  exact ⟨_, _, retOut S hx hret hnar (Or.inr (Or.inr (Or.inr (Or.inr ⟨rfl, hty, rfl⟩)))) (hb hby hd) hr, hrun, hended, _, _, rfl, ⟨by show Q _ T.heap; rw [hT]; exact hq, N⟩, ⟨_, rfl⟩, hW, hsame.mono hk hn⟩
theorem o_ret (X : OW p l e R s m args below meth c Z y bytes mx none n0 T h k n) (hd : decode bytes pc = .ok (.return_, 1)) (hk : k ≤ R.cells) (hn : n ≤ R.slots) (hq : Q none h) : OE p e R below s n0 Q T (mkF m pc Ls []) := by
  obtain ⟨hx, hZ, hown, hby, hmx, hret, hnm, hlk, h0, hT, locs, S, N⟩ := X
  obtain ⟨fs, hr, hrun, hended, hW, hsame⟩ := S.leave (v := none) (fun _ => rfl) hlk
  exact ⟨_, _, S.returnOut hx hret (hb hby hd) hr, hrun, hended, _, _, rfl, ⟨by show Q _ T.heap; rw [hT]; exact hq, N⟩, ⟨_, rfl⟩, hW, hsame.mono hk hn⟩
/-! the heap: a list of places, each with what its cell says -/
def OA (Z : State) (ty : FieldType) (vs : List Int32) (c : Cell) : Prop := Z.isArrayOf c ty ∧ c.vm ≠ .unknown ∧ c.slots = (vs.map Value.int).toArray ∧ (∀ x ∈ vs, fits ty (.int x) = true) ∧ Z.vm.findClass ("[" ++ ty.toString) = some c.cls
def OL (n0 : Nat) (h : Heap) (L : List (Addr × (Cell → Prop))) : Prop := (L.map (·.1)).Nodup ∧ ∀ q ∈ L, n0 ≤ q.1 ∧ ∃ c : Cell, h[q.1]? = some c ∧ q.2 c
variable {L : List (Addr × (Cell → Prop))} {h' : Heap} {a : Addr} {ty : FieldType} {vs : List Int32} {PP : Cell → Prop}
theorem OL.nil : OL n0 h [] := ⟨List.nodup_nil, fun _ q => nomatch q⟩
theorem OL.ext (H : OL n0 h L) (E : Ext h h') : OL n0 h' L := ⟨H.1, fun q hq => by obtain ⟨h1, c, h2, h3⟩ := H.2 q hq; exact ⟨h1, c, E.2 _ _ h2, h3⟩⟩
theorem OL.lt (H : OL n0 h L) {q : Addr × (Cell → Prop)} (hq : q ∈ L) : q.1 < h.size := by obtain ⟨-, c, h2, -⟩ := H.2 q hq; exact (Array.getElem?_eq_some_iff.mp h2).1
theorem OL.push (H : OL n0 h L) (E : Ext h h') (h0 : n0 ≤ h.size) {c : Cell} (hc : h'[h.size]? = some c) (hp : PP c) : OL n0 h' ((h.size, PP) :: L) := by
  refine ⟨?_, fun q hq => ?_⟩
  · rw [List.map_cons, List.nodup_cons]
    refine ⟨fun hx => ?_, H.1⟩
    obtain ⟨q, hq, e⟩ := List.mem_map.mp hx
    have e' : q.1 = h.size := e
    exact absurd (H.lt hq) (by rw [e']; exact Nat.lt_irrefl _)
  · rcases List.mem_cons.mp hq with hq | hq
    · cases hq; exact ⟨h0, c, hc, hp⟩
    · exact (H.ext E).2 q hq
theorem OL.perm {L' : List (Addr × (Cell → Prop))} (H : OL n0 h L) (q : L.Perm L') : OL n0 h L' := ⟨(q.map (·.1)).nodup_iff.mp H.1, fun z hz => H.2 z (q.mem_iff.mpr hz)⟩
/-- the i-th place comes to the front -/
theorem OL.front (H : OL n0 h L) (i : Nat) {q : Addr × (Cell → Prop)} (hi : L[i]? = some q) : OL n0 h (q :: L.eraseIdx i) := by
  obtain ⟨hl, e⟩ := List.getElem?_eq_some_iff.mp hi
  refine H.perm ?_
  have e1 : L = L.take i ++ q :: L.drop (i + 1) := by rw [← e, List.getElem_cons_drop]; exact (List.take_append_drop i L).symm
  have e2 : L.eraseIdx i = L.take i ++ L.drop (i + 1) := List.eraseIdx_eq_take_drop_succ L i
  rw [e2]
  exact (List.Perm.of_eq e1).trans List.perm_middle
theorem OL.get (H : OL n0 h L) {i : Nat} (hi : L[i]? = some (a, PP)) : n0 ≤ a ∧ ∃ c : Cell, h[a]? = some c ∧ PP c := H.2 (a, PP) (List.mem_of_getElem? hi)
theorem OL.ne (H : OL n0 h L) {i j : Nat} {b : Addr} {PB : Cell → Prop} (hi : L[i]? = some (a, PP)) (hj : L[j]? = some (b, PB)) (hij : i ≠ j) : a ≠ b := by
  intro e; subst e
  have h1 : (L.map (·.1))[i]? = some a := by simp [hi]
  have h2 : (L.map (·.1))[j]? = some a := by simp [hj]
  obtain ⟨l1, -⟩ := List.getElem?_eq_some_iff.mp h1
  exact hij ((List.getElem?_inj l1 H.1).mp (h1.trans h2.symm))
theorem OL.wr (H : OL n0 h L) {i sl : Nat} {v : Value} {P' : Cell → Prop} (hi : L[i]? = some (a, PP)) (W : Wr h h' a sl v) (hP : ∀ c : Cell, h[a]? = some c → PP c → P' (c.setSlot sl v)) : OL n0 h' (L.set i (a, P')) := by
  have hmap : (L.set i (a, P')).map (·.1) = L.map (·.1) := by
    apply List.ext_getElem?
    intro j
    simp only [List.getElem?_map, List.getElem?_set]
    split
    · rename_i e; subst e; rw [if_pos (List.getElem?_eq_some_iff.mp hi).1, hi]; rfl
    · rfl
  refine ⟨by rw [hmap]; exact H.1, fun q hq => ?_⟩
  obtain ⟨j, hj⟩ := List.getElem?_of_mem hq
  rw [List.getElem?_set] at hj
  split at hj
  · rename_i e; subst e
    split at hj
    · cases hj
      obtain ⟨h1, c, h2, h3⟩ := H.get hi
      obtain ⟨c', e1, -, -, -, -, -, e7⟩ := wr_at W h2
      exact ⟨h1, c', e1, by rw [(e7 rfl).1]; exact hP c h2 h3⟩
    · cases hj
  · rename_i e
    obtain ⟨b, PB⟩ := q
    obtain ⟨h1, c, h2, h3⟩ := H.get hj
    obtain ⟨c', e1, -, -, -, e5, -⟩ := wr_at W h2
    have := e5 (H.ne hj hi (fun r => e r.symm))
    subst this
    exact ⟨h1, c', e1, h3⟩
theorem OA.set {c : Cell} {j : Nat} {x : Int32} (A : OA Z ty vs c) (hf : fits ty (.int x) = true) : OA Z ty (vs.set j x) (c.setSlot j (.int x)) := by
  obtain ⟨h1, h2, h3, h4, h5⟩ := A
  refine ⟨h1, h2, ?_, fun z hz => ?_, h5⟩
  · show c.slots.setIfInBounds j (.int x) = _
    rw [h3]; simp [List.map_set]
  · rcases List.mem_or_eq_of_mem_set hz with q | q
    · exact h4 z q
    · rw [q]; exact hf
theorem OA.new {k : ClassId} {z : Int32} {N : Nat} (hN : z.toInt = N) (hd : defaultValue ty = .int 0) (hf : fits ty (.int 0) = true) (A : Arr Z h a (newA k ty z) ty) (E : Exa Z h a ("[" ++ ty.toString)) : OA Z ty (List.replicate N 0) (newA k ty z) := by
  obtain ⟨c, kk, e1, e2, -⟩ := E
  cases A.1.symm.trans e1
  refine ⟨A.2.1, A.2.2, ?_, fun x hx => by rw [List.eq_of_mem_replicate hx]; exact hf, e2⟩
  have e : z.toNatClampNeg = N := by simp only [Int32.toNatClampNeg, hN]; rfl
  show Array.replicate z.toNatClampNeg (defaultValue ty) = _
  rw [e, hd]; simp
theorem o_idx {j : Int32} {i N : Nat} (hj : j.toInt = i) (hi : i < N) : ¬ (j < 0 ∨ N ≤ j.toNatClampNeg) ∧ j.toNatClampNeg = i := by
  have e : j.toNatClampNeg = i := by simp only [Int32.toNatClampNeg, hj]; rfl
  refine ⟨?_, e⟩
  rw [e, Int32.lt_iff_toInt_lt, hj, show (0 : Int32).toInt = 0 from rfl]; omega
theorem OA.size {c : Cell} (A : OA Z ty vs c) : c.slots.size = vs.length := by rw [A.2.2.1]; simp
theorem o_newarray (X : OW p l e R s m args below meth c Z y bytes mx ret n0 T h k n) (H : OL n0 h L) {aty : ArrayType} (hd : decode bytes pc = .ok (.newarray aty, 2)) (w : (Cond.arrayClass (newarray.typeOf aty)).before a0 Z = true) (hdv : defaultValue (newarray.typeOf aty) = .int 0) (hfv : fits (newarray.typeOf aty) (.int 0) = true) {z : Int32} (N cap : Nat) (hN : z.toInt = N) (hcap : N ≤ cap) (hb8 : cap * 8 ≤ 536870912) (k2 n2 : Nat) (hk2 : k + 1 = k2) (hn2 : n + cap = n2) (hc : k2 ≤ R.cells) (hl : n2 ≤ R.slots) (pc' : Nat) (hp : pc + 2 = pc')
    (K : ∀ T' h' a, OW p l e R s m args below meth c Z y bytes mx ret n0 T' h' k2 n2 → OL n0 h' ((a, OA Z (newarray.typeOf aty) (List.replicate N 0)) :: L) → OE p e R below s n0 Q T' (mkF m pc' Ls (.ref a :: st))) : OE p e R below s n0 Q T (mkF m pc Ls (.int z :: st)) := by
  have h0 := X.size
  obtain ⟨hx, hZ, hown, hby, hmx, hret, hnm, hlk, hn0, hT, locs, S, N0⟩ := X; subst hp hk2 hn2
  obtain ⟨T', h', cA, S', hT', E, A, EX, stp⟩ := newPE S hx hZ w hT (g := mkF m pc Ls (.int z :: st)) rfl (hb hby hd) rfl (by rw [Int32.lt_iff_toInt_lt, hN, show (0 : Int32).toInt = 0 from rfl]; omega) (cap := cap) (by simp only [Int32.toNatClampNeg, hN]; exact hcap) hb8 hc hl rfl
  exact OE.by stp (K T' h' h.size ⟨hx, hZ, hown, hby, hmx, hret, hnm, hlk, hn0, hT', locs, S', N0⟩ (H.push E h0 A.1 (OA.new hN hdv hfv A EX)))
theorem o_arraylength (X : OW p l e R s m args below meth c Z y bytes mx ret n0 T h k n) (H : OL n0 h L) (i : Nat) (hi : L[i]? = some (a, OA Z ty vs)) (hd : decode bytes pc = .ok (.arraylength, 1)) (z : Int32) (hz : Int32.ofNat vs.length = z) (pc' : Nat) (hp : pc + 1 = pc')
    (K : OE p e R below s n0 Q T (mkF m pc' Ls (.int z :: st))) : OE p e R below s n0 Q T (mkF m pc Ls (.ref a :: st)) := by
  obtain ⟨hx, hZ, hown, hby, hmx, hret, hnm, hlk, hn0, hT, locs, S, N0⟩ := X; subst hp
  obtain ⟨h1, c', h2, A⟩ := H.get hi
  refine OE.by (fun t q => S.arraylength hx (by rw [hT]; exact h2) (State.isArrayOf_alike hZ.alike A.1) (g := mkF m pc Ls (.ref a :: st)) rfl rfl (hb hby hd) t ?_) K
  have e1 : c'.slots.size.toInt32 = z := by rw [A.size]; exact hz
  rw [e1]; exact q
theorem o_iaload (X : OW p l e R s m args below meth c Z y bytes mx ret n0 T h k n) (H : OL n0 h L) (i : Nat) (hi : L[i]? = some (a, OA Z .int vs)) (hd : decode bytes pc = .ok (.iaload, 1)) {j : Int32} (jn : Nat) (hj : j.toInt = jn) (v : Int32) (hv : vs[jn]? = some v) (pc' : Nat) (hp : pc + 1 = pc')
    (K : OE p e R below s n0 Q T (mkF m pc' Ls (.int v :: st))) : OE p e R below s n0 Q T (mkF m pc Ls (.int j :: .ref a :: st)) := by
  obtain ⟨hx, hZ, hown, hby, hmx, hret, hnm, hlk, hn0, hT, locs, S, N0⟩ := X; subst hp
  obtain ⟨h1, c', h2, A⟩ := H.get hi
  have hlt := (List.getElem?_eq_some_iff.mp hv).1
  obtain ⟨q1, q2⟩ := o_idx hj (N := c'.slots.size) (by rw [A.size]; exact hlt)
  exact OE.by (fun t q => S.iaload hx (by rw [hT]; exact h2) (State.isArrayOf_alike hZ.alike A.1) A.2.1 q1 (v := .int v) (by rw [q2, A.2.2.1]; simp [hv]) (g := mkF m pc Ls (.int j :: .ref a :: st)) rfl rfl (hb hby hd) t q) K
theorem o_baloadB (X : OW p l e R s m args below meth c Z y bytes mx ret n0 T h k n) (H : OL n0 h L) (i : Nat) (hi : L[i]? = some (a, OA Z .byte vs)) (hd : decode bytes pc = .ok (.baload, 1)) {j : Int32} (jn : Nat) (hj : j.toInt = jn) (v : Int32) (hv : vs[jn]? = some v) (pc' : Nat) (hp : pc + 1 = pc')
    (K : OE p e R below s n0 Q T (mkF m pc' Ls (.int v :: st))) : OE p e R below s n0 Q T (mkF m pc Ls (.int j :: .ref a :: st)) := by
  obtain ⟨hx, hZ, hown, hby, hmx, hret, hnm, hlk, hn0, hT, locs, S, N0⟩ := X; subst hp
  obtain ⟨h1, c', h2, A⟩ := H.get hi
  have hlt := (List.getElem?_eq_some_iff.mp hv).1
  obtain ⟨q1, q2⟩ := o_idx hj (N := c'.slots.size) (by rw [A.size]; exact hlt)
  exact OE.by (fun t q => S.baloadBytes hx (by rw [hT]; exact h2) (State.isArrayOf_alike hZ.alike A.1) A.2.1 q1 (v := .int v) (by rw [q2, A.2.2.1]; simp [hv]) (g := mkF m pc Ls (.int j :: .ref a :: st)) rfl rfl (hb hby hd) t q) K
theorem o_baloadZ (X : OW p l e R s m args below meth c Z y bytes mx ret n0 T h k n) (H : OL n0 h L) (i : Nat) (hi : L[i]? = some (a, OA Z .boolean vs)) (hd : decode bytes pc = .ok (.baload, 1)) {j : Int32} (jn : Nat) (hj : j.toInt = jn) (v : Int32) (hv : vs[jn]? = some v) (pc' : Nat) (hp : pc + 1 = pc')
    (K : OE p e R below s n0 Q T (mkF m pc' Ls (.int v :: st))) : OE p e R below s n0 Q T (mkF m pc Ls (.int j :: .ref a :: st)) := by
  obtain ⟨hx, hZ, hown, hby, hmx, hret, hnm, hlk, hn0, hT, locs, S, N0⟩ := X; subst hp
  obtain ⟨h1, c', h2, A⟩ := H.get hi
  have hlt := (List.getElem?_eq_some_iff.mp hv).1
  obtain ⟨q1, q2⟩ := o_idx hj (N := c'.slots.size) (by rw [A.size]; exact hlt)
  exact OE.by (fun t q => S.baloadBooleans hx (by rw [hT]; exact h2) (State.isArrayOf_alike hZ.alike A.1) A.2.1 q1 (v := .int v) (by rw [q2, A.2.2.1]; simp [hv]) (g := mkF m pc Ls (.int j :: .ref a :: st)) rfl rfl (hb hby hd) t q) K
theorem o_iastore (X : OW p l e R s m args below meth c Z y bytes mx ret n0 T h k n) (H : OL n0 h L) (i : Nat) (hi : L[i]? = some (a, OA Z .int vs)) (hd : decode bytes pc = .ok (.iastore, 1)) {j x : Int32} (jn : Nat) (hj : j.toInt = jn) (hlt : jn < vs.length) (pc' : Nat) (hp : pc + 1 = pc')
    (K : ∀ T' h', OW p l e R s m args below meth c Z y bytes mx ret n0 T' h' k n → OL n0 h' (L.set i (a, OA Z .int (vs.set jn x))) → OE p e R below s n0 Q T' (mkF m pc' Ls st)) : OE p e R below s n0 Q T (mkF m pc Ls (.int x :: .int j :: .ref a :: st)) := by
  obtain ⟨hx, hZ, hown, hby, hmx, hret, hnm, hlk, hn0, hT, locs, S, N0⟩ := X; subst hp
  obtain ⟨h1, c', h2, A⟩ := H.get hi
  obtain ⟨q1, q2⟩ := o_idx hj (N := c'.slots.size) (by rw [A.size]; exact hlt)
  obtain ⟨T', h', S', hT', W, stp⟩ := stI S hx hZ hT ⟨h2, A.1, A.2.1⟩ q1 (x := x) (g := mkF m pc Ls (.int x :: .int j :: .ref a :: st)) rfl rfl (hb hby hd)
  rw [q2] at W S'
  exact OE.by stp (K T' h' ⟨hx, hZ, hown, hby, hmx, hret, hnm, hlk, hn0, hT', _, S', N0.app fun z hz => by cases List.mem_singleton.mp hz; exact h1⟩ (H.wr hi W fun c _ B => B.set rfl))
theorem o_bastoreB (X : OW p l e R s m args below meth c Z y bytes mx ret n0 T h k n) (H : OL n0 h L) (i : Nat) (hi : L[i]? = some (a, OA Z .byte vs)) (hd : decode bytes pc = .ok (.bastore, 1)) {j x : Int32} (jn : Nat) (hj : j.toInt = jn) (hlt : jn < vs.length) (v : Int32) (hv : x.toInt8.toInt32 = v) (pc' : Nat) (hp : pc + 1 = pc')
    (K : ∀ T' h', OW p l e R s m args below meth c Z y bytes mx ret n0 T' h' k n → OL n0 h' (L.set i (a, OA Z .byte (vs.set jn v))) → OE p e R below s n0 Q T' (mkF m pc' Ls st)) : OE p e R below s n0 Q T (mkF m pc Ls (.int x :: .int j :: .ref a :: st)) := by
  obtain ⟨hx, hZ, hown, hby, hmx, hret, hnm, hlk, hn0, hT, locs, S, N0⟩ := X; subst hp hv
  obtain ⟨h1, c', h2, A⟩ := H.get hi
  obtain ⟨q1, q2⟩ := o_idx hj (N := c'.slots.size) (by rw [A.size]; exact hlt)
  obtain ⟨T', h', S', hT', W, stp⟩ := stB S hx hZ hT ⟨h2, A.1, A.2.1⟩ q1 (x := x) (g := mkF m pc Ls (.int x :: .int j :: .ref a :: st)) rfl rfl (hb hby hd)
  rw [q2] at W S'
  exact OE.by stp (K T' h' ⟨hx, hZ, hown, hby, hmx, hret, hnm, hlk, hn0, hT', _, S', N0.app fun z hz => by cases List.mem_singleton.mp hz; exact h1⟩ (H.wr hi W fun c _ B => B.set (fits_nar_byte x)))
theorem o_bastoreZ (X : OW p l e R s m args below meth c Z y bytes mx ret n0 T h k n) (H : OL n0 h L) (i : Nat) (hi : L[i]? = some (a, OA Z .boolean vs)) (hd : decode bytes pc = .ok (.bastore, 1)) {j x : Int32} (jn : Nat) (hj : j.toInt = jn) (hlt : jn < vs.length) (v : Int32) (hv : nar .boolean x = v) (pc' : Nat) (hp : pc + 1 = pc')
    (K : ∀ T' h', OW p l e R s m args below meth c Z y bytes mx ret n0 T' h' k n → OL n0 h' (L.set i (a, OA Z .boolean (vs.set jn v))) → OE p e R below s n0 Q T' (mkF m pc' Ls st)) : OE p e R below s n0 Q T (mkF m pc Ls (.int x :: .int j :: .ref a :: st)) := by
  obtain ⟨hx, hZ, hown, hby, hmx, hret, hnm, hlk, hn0, hT, locs, S, N0⟩ := X; subst hp hv
  obtain ⟨h1, c', h2, A⟩ := H.get hi
  obtain ⟨q1, q2⟩ := o_idx hj (N := c'.slots.size) (by rw [A.size]; exact hlt)
  obtain ⟨T', h', S', hT', W, stp⟩ := stZ S hx hZ hT ⟨h2, A.1, A.2.1⟩ q1 (x := x) (g := mkF m pc Ls (.int x :: .int j :: .ref a :: st)) rfl rfl (hb hby hd)
  rw [q2] at W S'
  exact OE.by stp (K T' h' ⟨hx, hZ, hown, hby, hmx, hret, hnm, hlk, hn0, hT', _, S', N0.app fun z hz => by cases List.mem_singleton.mp hz; exact h1⟩ (H.wr hi W fun c _ B => B.set (fits_nar_bool x)))
theorem o_b8 (x : Int32) : x.toInt8.toInt32.toInt8.toInt32 = x.toInt8.toInt32 := by simp
/-! contracts and calls -/
def OC (l : Launch) (Z : State) (y : MethodName) (bytes : ByteArray) (mx : Nat) (ret : Option FieldType) (ws : List Jvm.Cond) (rm : Room) (n0 : Nat) (as' : Array Value) (h0 : Heap) (Q : Option Value → Heap → Prop) : Prop :=
  MetFree l y (head1 (Jvm.Cond.code y bytes mx ret :: ws) rm) (fun a U => a = as' ∧ Z.Warmed39 U.vm ∧ U.heap = h0) (fun _ _ _ _ _ => True) (fun _ U o U' => ∃ v L, o = .returned v ∧ (Q v U'.heap ∧ Fr n0 L) ∧ FrameEnd U o U' L rm.cells rm.slots)
theorem OC.of {ws : List Jvm.Cond} {rm : Room} {as' : Array Value} {h0 : Heap} (hp : plainName y.cls = true) (hn : n0 ≤ h0.size) (Ls : Array Slot) (hef : ∀ m : MethodId, entryFrame m as' mx = mkF m 0 Ls [])
    (B : ∀ p e s m below meth c T, OW p l e rm s m as' below meth c Z y bytes mx ret n0 T h0 0 0 → ∀ Q' : Option Value → Heap → Prop, (∀ r h, Q r h → Q' r h) → OE p e rm below s n0 Q' T (mkF m 0 Ls [])) : OC l Z y bytes mx ret ws rm n0 as' h0 Q := by
  refine MetFree.of_bodySF (plainFor_of_name hp) hisR ?_
  intro p e s m args below meth c s₁ Bd hml0 hP hK
  obtain ⟨rfl, hZ, hh⟩ := hP
  have hnm := (name_of_methodNamed Bd.named Bd.method).1
  have X0 : Stand p l e rm s m args below meth c s₁ [] 0 0 := Stand.of_body Bd
  have e0 : s₁.heap = h0 := by rw [← hh, Bd.state]; rfl
  rw [hef m]
  exact B p e s m below meth c s₁ ⟨Bd.exec, hZ, findClass_of_methodNamed Bd.named, Bd.bytes, hml0, Bd.returns, hnm, Bd.notSynchronized, by rw [hh]; exact hn, e0, [], X0, Fr.nil n0⟩ Q (fun _ _ q => q)
theorem o_callS (X : OW p l e R s m args below meth c Z y bytes mx ret n0 T h k n) {i : Nat} (hd : decode bytes pc = .ok (.invokestatic i, 3)) {y' : MethodName} {bytes' : ByteArray} {mx' : Nat} {ret' : Option FieldType} {rm : Room} {as' : Array Value} {Q' : Option Value → Heap → Prop} (C : OC l Z y' bytes' mx' ret' [] rm n0 as' h Q')
    (w1 : (Cond.methodLink y.cls i y').before a0 Z = true) (w2 : (Cond.static y').before a0 Z = true) (w3 : (Cond.initialized y'.cls).before a0 Z = true) (w4 : (Cond.code y' bytes' mx' ret').before a0 Z = true) (hy : y'.cls ≠ "java/lang/invoke/MethodHandle" ∧ y'.cls ≠ "java/lang/invoke/VarHandle")
    (Wd : Nat) (hf : rm.frames + 1 ≤ R.frames) (hlo : Wd + (mx' + 11) + rm.locals ≤ R.locals) (hls : Ls.size = mx) (argsL : List Value) (has : as' = argsL.toArray) {ps : List FieldType} {r' : Option FieldType} (hpd : parseMethodDescriptor y'.desc = some ⟨ps, r'⟩) (hlen : argsL.length = ps.length) (hst : st = argsL.reverse ++ rest) (hW : (rest.map fun v => v.category).sum ≤ Wd) (k2 n2 : Nat) (hk2 : k + rm.cells = k2) (hn2 : n + rm.slots = n2) (hk : k2 ≤ R.cells) (hn : n2 ≤ R.slots) (pc' : Nat) (hp : pc + 3 = pc')
    (K : ∀ v T' h', OW p l e R s m args below meth c Z y bytes mx ret n0 T' h' k2 n2 → Q' v h' → OE p e R below s n0 Q T' (mkF m pc' Ls (v.toList ++ rest))) : OE p e R below s n0 Q T (mkF m pc Ls st) := by
  obtain ⟨hx, hZ, hown, hby, hmx, hret, hnm, hlk, hn0, hT, locs, S, N0⟩ := X; subst hp has hk2 hn2
  obtain ⟨v, _, ⟨T2, L2, k2, n2⟩, -, X2, ⟨Lc, hQ, l2, y2, z2⟩, stp⟩ := Jvm.LawKit.callS S hx (y := y') hown (mvT hZ w1) (mvT hZ w2) (mvT hZ w3) (mvT hZ w4) hy (backOf (W := Wd) (Q := fun v hh LL => Q' v hh ∧ Fr n0 LL) C hZ w4 w3 hf hlo) (g := mkF m pc Ls st) rfl (by rw [hmx]; exact hls) (argsL := argsL) (rest := rest) (lenOf hpd hlen) hst (by show 2 * 0 + _ ≤ _; omega) (hb hby hd) (fun _ _ => ⟨rfl, hT, hk, hn⟩)
  dsimp only [Pt.U, Pt.locs, Pt.cells, Pt.slots] at X2 l2 y2 z2 stp hQ
  subst l2 y2 z2
  exact OE.by stp (K v T2 T2.heap ⟨hx, hZ, hown, hby, hmx, hret, hnm, hlk, hn0, rfl, _, X2, N0.app hQ.2⟩ hQ.1)
end OwnKit
theorem d1_0 : decode prog_68_method_10_code 0 = .ok (.iconst 1, 1) := by decide +kernel
theorem d1_1 : decode prog_68_method_10_code 1 = .ok (.istore_n 3, 1) := by decide +kernel
theorem d1_2 : decode prog_68_method_10_code 2 = .ok (.iload_n 1, 1) := by decide +kernel
theorem d1_3 : decode prog_68_method_10_code 3 = .ok (.istore 4, 2) := by decide +kernel
theorem d1_5 : decode prog_68_method_10_code 5 = .ok (.iload 4, 2) := by decide +kernel
theorem d1_7 : decode prog_68_method_10_code 7 = .ok (.iload_n 2, 1) := by decide +kernel
theorem d1_8 : decode prog_68_method_10_code 8 = .ok (.if_icmp .ge 19, 3) := by decide +kernel
theorem d1_11 : decode prog_68_method_10_code 11 = .ok (.bipush 31, 2) := by decide +kernel
theorem d1_13 : decode prog_68_method_10_code 13 = .ok (.iload_n 3, 1) := by decide +kernel
theorem d1_14 : decode prog_68_method_10_code 14 = .ok (.imul, 1) := by decide +kernel
theorem d1_15 : decode prog_68_method_10_code 15 = .ok (.aload_n 0, 1) := by decide +kernel
theorem d1_16 : decode prog_68_method_10_code 16 = .ok (.iload 4, 2) := by decide +kernel
theorem d1_18 : decode prog_68_method_10_code 18 = .ok (.baload, 1) := by decide +kernel
theorem d1_19 : decode prog_68_method_10_code 19 = .ok (.iadd, 1) := by decide +kernel
theorem d1_20 : decode prog_68_method_10_code 20 = .ok (.istore_n 3, 1) := by decide +kernel
theorem d1_21 : decode prog_68_method_10_code 21 = .ok (.iinc 4 1, 3) := by decide +kernel
theorem d1_24 : decode prog_68_method_10_code 24 = .ok (.goto (-19), 3) := by decide +kernel
theorem d1_27 : decode prog_68_method_10_code 27 = .ok (.iload_n 3, 1) := by decide +kernel
theorem d1_28 : decode prog_68_method_10_code 28 = .ok (.ldc 132, 2) := by decide +kernel
theorem d1_30 : decode prog_68_method_10_code 30 = .ok (.imul, 1) := by decide +kernel
theorem d1_31 : decode prog_68_method_10_code 31 = .ok (.istore 4, 2) := by decide +kernel
theorem d1_33 : decode prog_68_method_10_code 33 = .ok (.iload 4, 2) := by decide +kernel
theorem d1_35 : decode prog_68_method_10_code 35 = .ok (.iload 4, 2) := by decide +kernel
theorem d1_37 : decode prog_68_method_10_code 37 = .ok (.bipush 16, 2) := by decide +kernel
theorem d1_39 : decode prog_68_method_10_code 39 = .ok (.iushr, 1) := by decide +kernel
theorem d1_40 : decode prog_68_method_10_code 40 = .ok (.ixor, 1) := by decide +kernel
theorem d1_41 : decode prog_68_method_10_code 41 = .ok (.ireturn, 1) := by decide +kernel
theorem d2_0 : decode method_3_code 0 = .ok (.iload_n 0, 1) := by decide +kernel
theorem d2_1 : decode method_3_code 1 = .ok (.ifCond .gt 5, 3) := by decide +kernel
theorem d2_4 : decode method_3_code 4 = .ok (.iconst 1, 1) := by decide +kernel
theorem d2_5 : decode method_3_code 5 = .ok (.ireturn, 1) := by decide +kernel
theorem d2_6 : decode method_3_code 6 = .ok (.iload_n 0, 1) := by decide +kernel
theorem d2_7 : decode method_3_code 7 = .ok (.iconst 1, 1) := by decide +kernel
theorem d2_8 : decode method_3_code 8 = .ok (.if_icmp .ne 6, 3) := by decide +kernel
theorem d2_11 : decode method_3_code 11 = .ok (.bipush 31, 2) := by decide +kernel
theorem d2_13 : decode method_3_code 13 = .ok (.ireturn, 1) := by decide +kernel
theorem d2_14 : decode method_3_code 14 = .ok (.iload_n 0, 1) := by decide +kernel
theorem d2_15 : decode method_3_code 15 = .ok (.iconst 2, 1) := by decide +kernel
theorem d2_16 : decode method_3_code 16 = .ok (.if_icmp .ne 7, 3) := by decide +kernel
theorem d2_19 : decode method_3_code 19 = .ok (.sipush 961, 3) := by decide +kernel
theorem d2_22 : decode method_3_code 22 = .ok (.ireturn, 1) := by decide +kernel
theorem d2_23 : decode method_3_code 23 = .ok (.iload_n 0, 1) := by decide +kernel
theorem d2_24 : decode method_3_code 24 = .ok (.iconst 3, 1) := by decide +kernel
theorem d2_25 : decode method_3_code 25 = .ok (.if_icmp .ne 7, 3) := by decide +kernel
theorem d2_28 : decode method_3_code 28 = .ok (.sipush 29791, 3) := by decide +kernel
theorem d2_31 : decode method_3_code 31 = .ok (.ireturn, 1) := by decide +kernel
theorem d2_32 : decode method_3_code 32 = .ok (.ldc 20, 2) := by decide +kernel
theorem d2_34 : decode method_3_code 34 = .ok (.ireturn, 1) := by decide +kernel
theorem pn_0 : plainName "com/example/vestbook/vestbook/member/MemberIds" = true := by first | (simp [plainName, overriddenIn]; done) | decide +kernel
theorem pn_1 : plainName "com/example/vestbook/vestbook/member/MemberIdsHashPinLaw" = true := by first | (simp [plainName, overriddenIn]; done) | decide +kernel
theorem pd_1 : parseMethodDescriptor "([BII)I" = some ⟨[(.array .byte), .int, .int], (some .int)⟩ := by decide +kernel
theorem pd_2 : parseMethodDescriptor "(I)I" = some ⟨[.int], (some .int)⟩ := by decide +kernel
def f_pow (n : Int32) : Int32 := if 0 < n then (if n = 1 then 31 else if n = 2 then 961 else if n = 3 then 29791 else 923521) else 1
def f_fin (p : Int32) : Int32 := (p * (-1640531527)) ^^^ XT.ushr (p * (-1640531527)) 16
theorem v_un (g : Int32) : (g ^^^ XT.ushr g 16) ^^^ XT.ushr (g ^^^ XT.ushr g 16) 16 = g := by
  have e : ∀ z : Int32, (XT.ushr z 16).toBitVec = z.toBitVec >>> 16 := fun z => rfl
  apply Int32.toBitVec_inj.mp
  rw [Int32.toBitVec_xor, Int32.toBitVec_xor, e, e, Int32.toBitVec_xor, e]
  generalize g.toBitVec = b
  rw [BitVec.ushiftRight_xor_distrib, ← BitVec.shiftRight_add]
  have z : b >>> (16 + 16) = 0#32 := by apply BitVec.eq_of_toNat_eq; rw [BitVec.toNat_ushiftRight, Nat.shiftRight_eq_div_pow]; simp; omega
  rw [z, BitVec.xor_zero, BitVec.xor_assoc, BitVec.xor_self, BitVec.xor_zero]
theorem v_poly (p : Int32) : ((f_fin p) ^^^ (XT.ushr (f_fin p) (16 : Int32))) * (340573321 : Int32) = p := by
  unfold f_fin; rw [v_un, Int32.mul_assoc, show (-1640531527 : Int32) * 340573321 = 1 from by decide, Int32.mul_one]
theorem v_s (x : Int32) : (x &&& 7) % 5 = 0 ∨ (x &&& 7) % 5 = 1 ∨ (x &&& 7) % 5 = 2 ∨ (x &&& 7) % 5 = 3 ∨ (x &&& 7) % 5 = 4 := by
  have h := Jvm.Kit.i32_mask x 7 (k := 3) (by decide) (by decide)
  have r := (c_irem (x &&& 7) 5 5 rfl).1 (by omega)
  simp only [← Int32.toInt_inj, Int32.reduceToInt]; omega
theorem v_l0 (x : Int32) : (x &&& 7) % ((5 : Int32) - (0 : Int32)) = 0 ∨ (x &&& 7) % ((5 : Int32) - (0 : Int32)) = 1 ∨ (x &&& 7) % ((5 : Int32) - (0 : Int32)) = 2 ∨ (x &&& 7) % ((5 : Int32) - (0 : Int32)) = 3 ∨ (x &&& 7) % ((5 : Int32) - (0 : Int32)) = 4 := by
  have h := Jvm.Kit.i32_mask x 7 (k := 3) (by decide) (by decide)
  have r := (c_irem (x &&& 7) ((5 : Int32) - (0 : Int32)) 5 rfl).1 (by omega)
  simp only [← Int32.toInt_inj, Int32.reduceToInt] at r ⊢; omega
theorem v_l1 (x : Int32) : (x &&& 7) % ((5 : Int32) - (1 : Int32)) = 0 ∨ (x &&& 7) % ((5 : Int32) - (1 : Int32)) = 1 ∨ (x &&& 7) % ((5 : Int32) - (1 : Int32)) = 2 ∨ (x &&& 7) % ((5 : Int32) - (1 : Int32)) = 3 := by
  have h := Jvm.Kit.i32_mask x 7 (k := 3) (by decide) (by decide)
  have r := (c_irem (x &&& 7) ((5 : Int32) - (1 : Int32)) 4 rfl).1 (by omega)
  simp only [← Int32.toInt_inj, Int32.reduceToInt] at r ⊢; omega
theorem v_l2 (x : Int32) : (x &&& 7) % ((5 : Int32) - (2 : Int32)) = 0 ∨ (x &&& 7) % ((5 : Int32) - (2 : Int32)) = 1 ∨ (x &&& 7) % ((5 : Int32) - (2 : Int32)) = 2 := by
  have h := Jvm.Kit.i32_mask x 7 (k := 3) (by decide) (by decide)
  have r := (c_irem (x &&& 7) ((5 : Int32) - (2 : Int32)) 3 rfl).1 (by omega)
  simp only [← Int32.toInt_inj, Int32.reduceToInt] at r ⊢; omega
theorem v_l3 (x : Int32) : (x &&& 7) % ((5 : Int32) - (3 : Int32)) = 0 ∨ (x &&& 7) % ((5 : Int32) - (3 : Int32)) = 1 := by
  have h := Jvm.Kit.i32_mask x 7 (k := 3) (by decide) (by decide)
  have r := (c_irem (x &&& 7) ((5 : Int32) - (3 : Int32)) 2 rfl).1 (by omega)
  simp only [← Int32.toInt_inj, Int32.reduceToInt] at r ⊢; omega
theorem v_l4 (x : Int32) : (x &&& 7) % ((5 : Int32) - (4 : Int32)) = 0 := by
  have h := Jvm.Kit.i32_mask x 7 (k := 3) (by decide) (by decide)
  have r := (c_irem (x &&& 7) ((5 : Int32) - (4 : Int32)) 1 rfl).1 (by omega)
  simp only [← Int32.toInt_inj, Int32.reduceToInt] at r ⊢; omega
set_option maxRecDepth 65536 in
set_option maxHeartbeats 40000000 in
theorem c_pow (l : Launch) (Z : State) (a0 : Array Value) (hw : ∀ d ∈ tables_1, d.before a0 Z = true) (ws : List Jvm.Cond) (n0 : Nat) (h0 : Heap) (hn0 : n0 ≤ h0.size) (xn : Int32) :
    OC l Z (⟨"com/example/vestbook/vestbook/member/MemberIdsHashPinLaw", "pow31", "(I)I"⟩ : MethodName) method_3_code 1 (some .int) ws ({ frames := 0, cells := 0, slots := 0, locals := 0 } : Room) n0 #[(.int xn)] h0 (fun r h => r = some (.int (f_pow xn)) ∧ h0 = h) := by
  refine OC.of pn_1 hn0 #[.val (.int xn)] (fun m => by first | (simp [entryFrame, mkF, argsToLocals, Value.category, maxLocals]; done) | rfl) ?_
  intro p e s m below meth cd0 T0 X0 Q' hQ
  refine o_iloadN X0 d2_0 rfl 1 rfl ?_
  refine o_ifGt X0 d2_1 6 4 (by decide) (by decide) rfl ?_ ?_
  · intro hc1
    refine o_iloadN X0 d2_6 rfl 7 rfl ?_
    refine o_iconst (v := (1 : Int32)) X0 d2_7 rfl 8 rfl ?_
    refine o_icmpNe X0 d2_8 14 11 (by decide) (by decide) rfl ?_ ?_
    · intro hc8
      refine o_iloadN X0 d2_14 rfl 15 rfl ?_
      refine o_iconst (v := (2 : Int32)) X0 d2_15 rfl 16 rfl ?_
      refine o_icmpNe X0 d2_16 23 19 (by decide) (by decide) rfl ?_ ?_
      · intro hc16
        refine o_iloadN X0 d2_23 rfl 24 rfl ?_
        refine o_iconst (v := (3 : Int32)) X0 d2_24 rfl 25 rfl ?_
        refine o_icmpNe X0 d2_25 32 28 (by decide) (by decide) rfl ?_ ?_
        · intro hc25
          refine o_ldc (v := (923521 : Int32)) X0 d2_32 (hw _ (List.mem_of_getElem? (i := 11) rfl)) 34 rfl ?_
          exact o_retI X0 d2_34 (by decide) (by decide) (hQ _ _ ⟨by show some (Value.int (923521 : Int32)) = some (Value.int (f_pow xn)); simp [f_pow, hc1, hc8, hc16, hc25], rfl⟩)
        · intro hc25
          refine o_sipush (v := (29791 : Int32)) X0 d2_28 rfl 31 rfl ?_
          exact o_retI X0 d2_31 (by decide) (by decide) (hQ _ _ ⟨by show some (Value.int (29791 : Int32)) = some (Value.int (f_pow xn)); simp [f_pow, hc1, hc8, hc16, hc25], rfl⟩)
      · intro hc16
        refine o_sipush (v := (961 : Int32)) X0 d2_19 rfl 22 rfl ?_
        exact o_retI X0 d2_22 (by decide) (by decide) (hQ _ _ ⟨by show some (Value.int (961 : Int32)) = some (Value.int (f_pow xn)); simp [f_pow, hc1, hc8, hc16], rfl⟩)
    · intro hc8
      refine o_bipush (v := (31 : Int32)) X0 d2_11 rfl 13 rfl ?_
      exact o_retI X0 d2_13 (by decide) (by decide) (hQ _ _ ⟨by show some (Value.int (31 : Int32)) = some (Value.int (f_pow xn)); simp [f_pow, hc1, hc8], rfl⟩)
  · intro hc1
    refine o_iconst (v := (1 : Int32)) X0 d2_4 rfl 5 rfl ?_
    exact o_retI X0 d2_5 (by decide) (by decide) (hQ _ _ ⟨by show some (Value.int (1 : Int32)) = some (Value.int (f_pow xn)); simp [f_pow, hc1], rfl⟩)
set_option maxRecDepth 65536 in
set_option maxHeartbeats 40000000 in
theorem c_hash_0_0 (l : Launch) (Z : State) (a0 : Array Value) (hw : ∀ d ∈ tables_1, d.before a0 Z = true) (ws : List Jvm.Cond) (n0 : Nat) (h0 : Heap) (hn0 : n0 ≤ h0.size) (xa : Addr) (t0 t1 t2 t3 : Int32) (L' : List (Addr × (Cell → Prop))) (H0 : OL n0 h0 ((xa, OA Z .byte [t0, t1, t2, t3]) :: L')) :
    OC l Z (⟨"com/example/vestbook/vestbook/member/MemberIds", "hash", "([BII)I"⟩ : MethodName) prog_68_method_10_code 5 (some .int) ws ({ frames := 0, cells := 0, slots := 0, locals := 0 } : Room) n0 #[(.ref xa), (.int (0 : Int32)), (.int (0 : Int32))] h0 (fun r h => r = some (.int (f_fin (1 : Int32))) ∧ h0 = h) := by
  refine OC.of pn_0 hn0 #[.val (.ref xa), .val (.int (0 : Int32)), .val (.int (0 : Int32)), .unset, .unset] (fun m => by first | (simp [entryFrame, mkF, argsToLocals, Value.category, maxLocals]; done) | rfl) ?_
  intro p e s m below meth cd0 T0 X0 Q' hQ
  refine o_iconst (v := (1 : Int32)) X0 d1_0 rfl 1 rfl ?_
  refine o_istoreN X0 d1_1 #[.val (.ref xa), .val (.int (0 : Int32)), .val (.int (0 : Int32)), .val (.int (1 : Int32)), .unset] rfl 2 rfl ?_
  refine o_iloadN X0 d1_2 rfl 3 rfl ?_
  refine o_istore X0 d1_3 #[.val (.ref xa), .val (.int (0 : Int32)), .val (.int (0 : Int32)), .val (.int (1 : Int32)), .val (.int (0 : Int32))] rfl 5 rfl ?_
  refine o_iload X0 d1_5 rfl 7 rfl ?_
  refine o_iloadN X0 d1_7 rfl 8 rfl ?_
  refine o_icmpGe X0 d1_8 27 11 (by decide) (by decide) rfl ?_ (fun q => by exfalso; exact absurd q (by decide))
  intro hc8
  refine o_iloadN X0 d1_27 rfl 28 rfl ?_
  refine o_ldc (v := (-1640531527 : Int32)) X0 d1_28 (hw _ (List.mem_of_getElem? (i := 5) rfl)) 30 rfl ?_
  refine o_imul X0 d1_30 31 rfl ?_
  refine o_istore X0 d1_31 #[.val (.ref xa), .val (.int (0 : Int32)), .val (.int (0 : Int32)), .val (.int (1 : Int32)), .val (.int ((1 : Int32) * (-1640531527 : Int32)))] rfl 33 rfl ?_
  rw [show ((1 : Int32) * (-1640531527 : Int32)) = (-1640531527 : Int32) from rfl]
  refine o_iload X0 d1_33 rfl 35 rfl ?_
  refine o_iload X0 d1_35 rfl 37 rfl ?_
  refine o_bipush (v := (16 : Int32)) X0 d1_37 rfl 39 rfl ?_
  refine o_iushr X0 d1_39 40 rfl ?_
  refine o_ixor X0 d1_40 41 rfl ?_
  exact o_retI X0 d1_41 (by decide) (by decide) (hQ _ _ ⟨rfl, rfl⟩)
set_option maxRecDepth 65536 in
set_option maxHeartbeats 40000000 in
theorem c_hash_0_1 (l : Launch) (Z : State) (a0 : Array Value) (hw : ∀ d ∈ tables_1, d.before a0 Z = true) (ws : List Jvm.Cond) (n0 : Nat) (h0 : Heap) (hn0 : n0 ≤ h0.size) (xa : Addr) (t0 t1 t2 t3 : Int32) (L' : List (Addr × (Cell → Prop))) (H0 : OL n0 h0 ((xa, OA Z .byte [t0, t1, t2, t3]) :: L')) :
    OC l Z (⟨"com/example/vestbook/vestbook/member/MemberIds", "hash", "([BII)I"⟩ : MethodName) prog_68_method_10_code 5 (some .int) ws ({ frames := 0, cells := 0, slots := 0, locals := 0 } : Room) n0 #[(.ref xa), (.int (0 : Int32)), (.int (1 : Int32))] h0 (fun r h => r = some (.int (f_fin (((31 : Int32) * (1 : Int32)) + t0))) ∧ h0 = h) := by
  refine OC.of pn_0 hn0 #[.val (.ref xa), .val (.int (0 : Int32)), .val (.int (1 : Int32)), .unset, .unset] (fun m => by first | (simp [entryFrame, mkF, argsToLocals, Value.category, maxLocals]; done) | rfl) ?_
  intro p e s m below meth cd0 T0 X0 Q' hQ
  refine o_iconst (v := (1 : Int32)) X0 d1_0 rfl 1 rfl ?_
  refine o_istoreN X0 d1_1 #[.val (.ref xa), .val (.int (0 : Int32)), .val (.int (1 : Int32)), .val (.int (1 : Int32)), .unset] rfl 2 rfl ?_
  refine o_iloadN X0 d1_2 rfl 3 rfl ?_
  refine o_istore X0 d1_3 #[.val (.ref xa), .val (.int (0 : Int32)), .val (.int (1 : Int32)), .val (.int (1 : Int32)), .val (.int (0 : Int32))] rfl 5 rfl ?_
  refine o_iload X0 d1_5 rfl 7 rfl ?_
  refine o_iloadN X0 d1_7 rfl 8 rfl ?_
  refine o_icmpGe X0 d1_8 27 11 (by decide) (by decide) rfl (fun q => by exfalso; exact absurd q (by decide)) ?_
  intro hc8
  refine o_bipush (v := (31 : Int32)) X0 d1_11 rfl 13 rfl ?_
  refine o_iloadN X0 d1_13 rfl 14 rfl ?_
  refine o_imul X0 d1_14 15 rfl ?_
  refine o_aloadN X0 d1_15 rfl rfl 16 rfl ?_
  refine o_iload X0 d1_16 rfl 18 rfl ?_
  refine o_baloadB X0 H0 0 rfl d1_18 0 rfl t0 rfl 19 rfl ?_
  refine o_iadd X0 d1_19 20 rfl ?_
  refine o_istoreN X0 d1_20 #[.val (.ref xa), .val (.int (0 : Int32)), .val (.int (1 : Int32)), .val (.int (((31 : Int32) * (1 : Int32)) + t0)), .val (.int (0 : Int32))] rfl 21 rfl ?_
  refine o_iinc (v := (0 : Int32)) (w := (1 : Int32)) X0 d1_21 rfl rfl #[.val (.ref xa), .val (.int (0 : Int32)), .val (.int (1 : Int32)), .val (.int (((31 : Int32) * (1 : Int32)) + t0)), .val (.int (1 : Int32))] rfl 24 rfl ?_
  refine o_goto X0 d1_24 5 (by decide) (by decide) ?_
  refine o_iload X0 d1_5 rfl 7 rfl ?_
  refine o_iloadN X0 d1_7 rfl 8 rfl ?_
  refine o_icmpGe X0 d1_8 27 11 (by decide) (by decide) rfl ?_ (fun q => by exfalso; exact absurd q (by decide))
  intro hc8_1
  refine o_iloadN X0 d1_27 rfl 28 rfl ?_
  refine o_ldc (v := (-1640531527 : Int32)) X0 d1_28 (hw _ (List.mem_of_getElem? (i := 5) rfl)) 30 rfl ?_
  refine o_imul X0 d1_30 31 rfl ?_
  refine o_istore X0 d1_31 #[.val (.ref xa), .val (.int (0 : Int32)), .val (.int (1 : Int32)), .val (.int (((31 : Int32) * (1 : Int32)) + t0)), .val (.int ((((31 : Int32) * (1 : Int32)) + t0) * (-1640531527 : Int32)))] rfl 33 rfl ?_
  refine o_iload X0 d1_33 rfl 35 rfl ?_
  refine o_iload X0 d1_35 rfl 37 rfl ?_
  refine o_bipush (v := (16 : Int32)) X0 d1_37 rfl 39 rfl ?_
  refine o_iushr X0 d1_39 40 rfl ?_
  refine o_ixor X0 d1_40 41 rfl ?_
  exact o_retI X0 d1_41 (by decide) (by decide) (hQ _ _ ⟨rfl, rfl⟩)
set_option maxRecDepth 65536 in
set_option maxHeartbeats 40000000 in
theorem c_hash_0_2 (l : Launch) (Z : State) (a0 : Array Value) (hw : ∀ d ∈ tables_1, d.before a0 Z = true) (ws : List Jvm.Cond) (n0 : Nat) (h0 : Heap) (hn0 : n0 ≤ h0.size) (xa : Addr) (t0 t1 t2 t3 : Int32) (L' : List (Addr × (Cell → Prop))) (H0 : OL n0 h0 ((xa, OA Z .byte [t0, t1, t2, t3]) :: L')) :
    OC l Z (⟨"com/example/vestbook/vestbook/member/MemberIds", "hash", "([BII)I"⟩ : MethodName) prog_68_method_10_code 5 (some .int) ws ({ frames := 0, cells := 0, slots := 0, locals := 0 } : Room) n0 #[(.ref xa), (.int (0 : Int32)), (.int (2 : Int32))] h0 (fun r h => r = some (.int (f_fin (((31 : Int32) * (((31 : Int32) * (1 : Int32)) + t0)) + t1))) ∧ h0 = h) := by
  refine OC.of pn_0 hn0 #[.val (.ref xa), .val (.int (0 : Int32)), .val (.int (2 : Int32)), .unset, .unset] (fun m => by first | (simp [entryFrame, mkF, argsToLocals, Value.category, maxLocals]; done) | rfl) ?_
  intro p e s m below meth cd0 T0 X0 Q' hQ
  refine o_iconst (v := (1 : Int32)) X0 d1_0 rfl 1 rfl ?_
  refine o_istoreN X0 d1_1 #[.val (.ref xa), .val (.int (0 : Int32)), .val (.int (2 : Int32)), .val (.int (1 : Int32)), .unset] rfl 2 rfl ?_
  refine o_iloadN X0 d1_2 rfl 3 rfl ?_
  refine o_istore X0 d1_3 #[.val (.ref xa), .val (.int (0 : Int32)), .val (.int (2 : Int32)), .val (.int (1 : Int32)), .val (.int (0 : Int32))] rfl 5 rfl ?_
  refine o_iload X0 d1_5 rfl 7 rfl ?_
  refine o_iloadN X0 d1_7 rfl 8 rfl ?_
  refine o_icmpGe X0 d1_8 27 11 (by decide) (by decide) rfl (fun q => by exfalso; exact absurd q (by decide)) ?_
  intro hc8
  refine o_bipush (v := (31 : Int32)) X0 d1_11 rfl 13 rfl ?_
  refine o_iloadN X0 d1_13 rfl 14 rfl ?_
  refine o_imul X0 d1_14 15 rfl ?_
  refine o_aloadN X0 d1_15 rfl rfl 16 rfl ?_
  refine o_iload X0 d1_16 rfl 18 rfl ?_
  refine o_baloadB X0 H0 0 rfl d1_18 0 rfl t0 rfl 19 rfl ?_
  refine o_iadd X0 d1_19 20 rfl ?_
  refine o_istoreN X0 d1_20 #[.val (.ref xa), .val (.int (0 : Int32)), .val (.int (2 : Int32)), .val (.int (((31 : Int32) * (1 : Int32)) + t0)), .val (.int (0 : Int32))] rfl 21 rfl ?_
  refine o_iinc (v := (0 : Int32)) (w := (1 : Int32)) X0 d1_21 rfl rfl #[.val (.ref xa), .val (.int (0 : Int32)), .val (.int (2 : Int32)), .val (.int (((31 : Int32) * (1 : Int32)) + t0)), .val (.int (1 : Int32))] rfl 24 rfl ?_
  refine o_goto X0 d1_24 5 (by decide) (by decide) ?_
  refine o_iload X0 d1_5 rfl 7 rfl ?_
  refine o_iloadN X0 d1_7 rfl 8 rfl ?_
  refine o_icmpGe X0 d1_8 27 11 (by decide) (by decide) rfl (fun q => by exfalso; exact absurd q (by decide)) ?_
  intro hc8_1
  refine o_bipush (v := (31 : Int32)) X0 d1_11 rfl 13 rfl ?_
  refine o_iloadN X0 d1_13 rfl 14 rfl ?_
  refine o_imul X0 d1_14 15 rfl ?_
  refine o_aloadN X0 d1_15 rfl rfl 16 rfl ?_
  refine o_iload X0 d1_16 rfl 18 rfl ?_
  refine o_baloadB X0 H0 0 rfl d1_18 1 rfl t1 rfl 19 rfl ?_
  refine o_iadd X0 d1_19 20 rfl ?_
  refine o_istoreN X0 d1_20 #[.val (.ref xa), .val (.int (0 : Int32)), .val (.int (2 : Int32)), .val (.int (((31 : Int32) * (((31 : Int32) * (1 : Int32)) + t0)) + t1)), .val (.int (1 : Int32))] rfl 21 rfl ?_
  refine o_iinc (v := (1 : Int32)) (w := (2 : Int32)) X0 d1_21 rfl rfl #[.val (.ref xa), .val (.int (0 : Int32)), .val (.int (2 : Int32)), .val (.int (((31 : Int32) * (((31 : Int32) * (1 : Int32)) + t0)) + t1)), .val (.int (2 : Int32))] rfl 24 rfl ?_
  refine o_goto X0 d1_24 5 (by decide) (by decide) ?_
  refine o_iload X0 d1_5 rfl 7 rfl ?_
  refine o_iloadN X0 d1_7 rfl 8 rfl ?_
  refine o_icmpGe X0 d1_8 27 11 (by decide) (by decide) rfl ?_ (fun q => by exfalso; exact absurd q (by decide))
  intro hc8_2
  refine o_iloadN X0 d1_27 rfl 28 rfl ?_
  refine o_ldc (v := (-1640531527 : Int32)) X0 d1_28 (hw _ (List.mem_of_getElem? (i := 5) rfl)) 30 rfl ?_
  refine o_imul X0 d1_30 31 rfl ?_
  refine o_istore X0 d1_31 #[.val (.ref xa), .val (.int (0 : Int32)), .val (.int (2 : Int32)), .val (.int (((31 : Int32) * (((31 : Int32) * (1 : Int32)) + t0)) + t1)), .val (.int ((((31 : Int32) * (((31 : Int32) * (1 : Int32)) + t0)) + t1) * (-1640531527 : Int32)))] rfl 33 rfl ?_
  refine o_iload X0 d1_33 rfl 35 rfl ?_
  refine o_iload X0 d1_35 rfl 37 rfl ?_
  refine o_bipush (v := (16 : Int32)) X0 d1_37 rfl 39 rfl ?_
  refine o_iushr X0 d1_39 40 rfl ?_
  refine o_ixor X0 d1_40 41 rfl ?_
  exact o_retI X0 d1_41 (by decide) (by decide) (hQ _ _ ⟨rfl, rfl⟩)
set_option maxRecDepth 65536 in
set_option maxHeartbeats 40000000 in
theorem c_hash_0_3 (l : Launch) (Z : State) (a0 : Array Value) (hw : ∀ d ∈ tables_1, d.before a0 Z = true) (ws : List Jvm.Cond) (n0 : Nat) (h0 : Heap) (hn0 : n0 ≤ h0.size) (xa : Addr) (t0 t1 t2 t3 : Int32) (L' : List (Addr × (Cell → Prop))) (H0 : OL n0 h0 ((xa, OA Z .byte [t0, t1, t2, t3]) :: L')) :
    OC l Z (⟨"com/example/vestbook/vestbook/member/MemberIds", "hash", "([BII)I"⟩ : MethodName) prog_68_method_10_code 5 (some .int) ws ({ frames := 0, cells := 0, slots := 0, locals := 0 } : Room) n0 #[(.ref xa), (.int (0 : Int32)), (.int (3 : Int32))] h0 (fun r h => r = some (.int (f_fin (((31 : Int32) * (((31 : Int32) * (((31 : Int32) * (1 : Int32)) + t0)) + t1)) + t2))) ∧ h0 = h) := by
  refine OC.of pn_0 hn0 #[.val (.ref xa), .val (.int (0 : Int32)), .val (.int (3 : Int32)), .unset, .unset] (fun m => by first | (simp [entryFrame, mkF, argsToLocals, Value.category, maxLocals]; done) | rfl) ?_
  intro p e s m below meth cd0 T0 X0 Q' hQ
  refine o_iconst (v := (1 : Int32)) X0 d1_0 rfl 1 rfl ?_
  refine o_istoreN X0 d1_1 #[.val (.ref xa), .val (.int (0 : Int32)), .val (.int (3 : Int32)), .val (.int (1 : Int32)), .unset] rfl 2 rfl ?_
  refine o_iloadN X0 d1_2 rfl 3 rfl ?_
  refine o_istore X0 d1_3 #[.val (.ref xa), .val (.int (0 : Int32)), .val (.int (3 : Int32)), .val (.int (1 : Int32)), .val (.int (0 : Int32))] rfl 5 rfl ?_
  refine o_iload X0 d1_5 rfl 7 rfl ?_
  refine o_iloadN X0 d1_7 rfl 8 rfl ?_
  refine o_icmpGe X0 d1_8 27 11 (by decide) (by decide) rfl (fun q => by exfalso; exact absurd q (by decide)) ?_
  intro hc8
  refine o_bipush (v := (31 : Int32)) X0 d1_11 rfl 13 rfl ?_
  refine o_iloadN X0 d1_13 rfl 14 rfl ?_
  refine o_imul X0 d1_14 15 rfl ?_
  refine o_aloadN X0 d1_15 rfl rfl 16 rfl ?_
  refine o_iload X0 d1_16 rfl 18 rfl ?_
  refine o_baloadB X0 H0 0 rfl d1_18 0 rfl t0 rfl 19 rfl ?_
  refine o_iadd X0 d1_19 20 rfl ?_
  refine o_istoreN X0 d1_20 #[.val (.ref xa), .val (.int (0 : Int32)), .val (.int (3 : Int32)), .val (.int (((31 : Int32) * (1 : Int32)) + t0)), .val (.int (0 : Int32))] rfl 21 rfl ?_
  refine o_iinc (v := (0 : Int32)) (w := (1 : Int32)) X0 d1_21 rfl rfl #[.val (.ref xa), .val (.int (0 : Int32)), .val (.int (3 : Int32)), .val (.int (((31 : Int32) * (1 : Int32)) + t0)), .val (.int (1 : Int32))] rfl 24 rfl ?_
  refine o_goto X0 d1_24 5 (by decide) (by decide) ?_
  refine o_iload X0 d1_5 rfl 7 rfl ?_
  refine o_iloadN X0 d1_7 rfl 8 rfl ?_
  refine o_icmpGe X0 d1_8 27 11 (by decide) (by decide) rfl (fun q => by exfalso; exact absurd q (by decide)) ?_
  intro hc8_1
  refine o_bipush (v := (31 : Int32)) X0 d1_11 rfl 13 rfl ?_
  refine o_iloadN X0 d1_13 rfl 14 rfl ?_
  refine o_imul X0 d1_14 15 rfl ?_
  refine o_aloadN X0 d1_15 rfl rfl 16 rfl ?_
  refine o_iload X0 d1_16 rfl 18 rfl ?_
  refine o_baloadB X0 H0 0 rfl d1_18 1 rfl t1 rfl 19 rfl ?_
  refine o_iadd X0 d1_19 20 rfl ?_
  refine o_istoreN X0 d1_20 #[.val (.ref xa), .val (.int (0 : Int32)), .val (.int (3 : Int32)), .val (.int (((31 : Int32) * (((31 : Int32) * (1 : Int32)) + t0)) + t1)), .val (.int (1 : Int32))] rfl 21 rfl ?_
  refine o_iinc (v := (1 : Int32)) (w := (2 : Int32)) X0 d1_21 rfl rfl #[.val (.ref xa), .val (.int (0 : Int32)), .val (.int (3 : Int32)), .val (.int (((31 : Int32) * (((31 : Int32) * (1 : Int32)) + t0)) + t1)), .val (.int (2 : Int32))] rfl 24 rfl ?_
  refine o_goto X0 d1_24 5 (by decide) (by decide) ?_
  refine o_iload X0 d1_5 rfl 7 rfl ?_
  refine o_iloadN X0 d1_7 rfl 8 rfl ?_
  refine o_icmpGe X0 d1_8 27 11 (by decide) (by decide) rfl (fun q => by exfalso; exact absurd q (by decide)) ?_
  intro hc8_2
  refine o_bipush (v := (31 : Int32)) X0 d1_11 rfl 13 rfl ?_
  refine o_iloadN X0 d1_13 rfl 14 rfl ?_
  refine o_imul X0 d1_14 15 rfl ?_
  refine o_aloadN X0 d1_15 rfl rfl 16 rfl ?_
  refine o_iload X0 d1_16 rfl 18 rfl ?_
  refine o_baloadB X0 H0 0 rfl d1_18 2 rfl t2 rfl 19 rfl ?_
  refine o_iadd X0 d1_19 20 rfl ?_
  refine o_istoreN X0 d1_20 #[.val (.ref xa), .val (.int (0 : Int32)), .val (.int (3 : Int32)), .val (.int (((31 : Int32) * (((31 : Int32) * (((31 : Int32) * (1 : Int32)) + t0)) + t1)) + t2)), .val (.int (2 : Int32))] rfl 21 rfl ?_
  refine o_iinc (v := (2 : Int32)) (w := (3 : Int32)) X0 d1_21 rfl rfl #[.val (.ref xa), .val (.int (0 : Int32)), .val (.int (3 : Int32)), .val (.int (((31 : Int32) * (((31 : Int32) * (((31 : Int32) * (1 : Int32)) + t0)) + t1)) + t2)), .val (.int (3 : Int32))] rfl 24 rfl ?_
  refine o_goto X0 d1_24 5 (by decide) (by decide) ?_
  refine o_iload X0 d1_5 rfl 7 rfl ?_
  refine o_iloadN X0 d1_7 rfl 8 rfl ?_
  refine o_icmpGe X0 d1_8 27 11 (by decide) (by decide) rfl ?_ (fun q => by exfalso; exact absurd q (by decide))
  intro hc8_3
  refine o_iloadN X0 d1_27 rfl 28 rfl ?_
  refine o_ldc (v := (-1640531527 : Int32)) X0 d1_28 (hw _ (List.mem_of_getElem? (i := 5) rfl)) 30 rfl ?_
  refine o_imul X0 d1_30 31 rfl ?_
  refine o_istore X0 d1_31 #[.val (.ref xa), .val (.int (0 : Int32)), .val (.int (3 : Int32)), .val (.int (((31 : Int32) * (((31 : Int32) * (((31 : Int32) * (1 : Int32)) + t0)) + t1)) + t2)), .val (.int ((((31 : Int32) * (((31 : Int32) * (((31 : Int32) * (1 : Int32)) + t0)) + t1)) + t2) * (-1640531527 : Int32)))] rfl 33 rfl ?_
  refine o_iload X0 d1_33 rfl 35 rfl ?_
  refine o_iload X0 d1_35 rfl 37 rfl ?_
  refine o_bipush (v := (16 : Int32)) X0 d1_37 rfl 39 rfl ?_
  refine o_iushr X0 d1_39 40 rfl ?_
  refine o_ixor X0 d1_40 41 rfl ?_
  exact o_retI X0 d1_41 (by decide) (by decide) (hQ _ _ ⟨rfl, rfl⟩)
set_option maxRecDepth 65536 in
set_option maxHeartbeats 40000000 in
theorem c_hash_0_4 (l : Launch) (Z : State) (a0 : Array Value) (hw : ∀ d ∈ tables_1, d.before a0 Z = true) (ws : List Jvm.Cond) (n0 : Nat) (h0 : Heap) (hn0 : n0 ≤ h0.size) (xa : Addr) (t0 t1 t2 t3 : Int32) (L' : List (Addr × (Cell → Prop))) (H0 : OL n0 h0 ((xa, OA Z .byte [t0, t1, t2, t3]) :: L')) :
    OC l Z (⟨"com/example/vestbook/vestbook/member/MemberIds", "hash", "([BII)I"⟩ : MethodName) prog_68_method_10_code 5 (some .int) ws ({ frames := 0, cells := 0, slots := 0, locals := 0 } : Room) n0 #[(.ref xa), (.int (0 : Int32)), (.int (4 : Int32))] h0 (fun r h => r = some (.int (f_fin (((31 : Int32) * (((31 : Int32) * (((31 : Int32) * (((31 : Int32) * (1 : Int32)) + t0)) + t1)) + t2)) + t3))) ∧ h0 = h) := by
  refine OC.of pn_0 hn0 #[.val (.ref xa), .val (.int (0 : Int32)), .val (.int (4 : Int32)), .unset, .unset] (fun m => by first | (simp [entryFrame, mkF, argsToLocals, Value.category, maxLocals]; done) | rfl) ?_
  intro p e s m below meth cd0 T0 X0 Q' hQ
  refine o_iconst (v := (1 : Int32)) X0 d1_0 rfl 1 rfl ?_
  refine o_istoreN X0 d1_1 #[.val (.ref xa), .val (.int (0 : Int32)), .val (.int (4 : Int32)), .val (.int (1 : Int32)), .unset] rfl 2 rfl ?_
  refine o_iloadN X0 d1_2 rfl 3 rfl ?_
  refine o_istore X0 d1_3 #[.val (.ref xa), .val (.int (0 : Int32)), .val (.int (4 : Int32)), .val (.int (1 : Int32)), .val (.int (0 : Int32))] rfl 5 rfl ?_
  refine o_iload X0 d1_5 rfl 7 rfl ?_
  refine o_iloadN X0 d1_7 rfl 8 rfl ?_
  refine o_icmpGe X0 d1_8 27 11 (by decide) (by decide) rfl (fun q => by exfalso; exact absurd q (by decide)) ?_
  intro hc8
  refine o_bipush (v := (31 : Int32)) X0 d1_11 rfl 13 rfl ?_
  refine o_iloadN X0 d1_13 rfl 14 rfl ?_
  refine o_imul X0 d1_14 15 rfl ?_
  refine o_aloadN X0 d1_15 rfl rfl 16 rfl ?_
  refine o_iload X0 d1_16 rfl 18 rfl ?_
  refine o_baloadB X0 H0 0 rfl d1_18 0 rfl t0 rfl 19 rfl ?_
  refine o_iadd X0 d1_19 20 rfl ?_
  refine o_istoreN X0 d1_20 #[.val (.ref xa), .val (.int (0 : Int32)), .val (.int (4 : Int32)), .val (.int (((31 : Int32) * (1 : Int32)) + t0)), .val (.int (0 : Int32))] rfl 21 rfl ?_
  refine o_iinc (v := (0 : Int32)) (w := (1 : Int32)) X0 d1_21 rfl rfl #[.val (.ref xa), .val (.int (0 : Int32)), .val (.int (4 : Int32)), .val (.int (((31 : Int32) * (1 : Int32)) + t0)), .val (.int (1 : Int32))] rfl 24 rfl ?_
  refine o_goto X0 d1_24 5 (by decide) (by decide) ?_
  refine o_iload X0 d1_5 rfl 7 rfl ?_
  refine o_iloadN X0 d1_7 rfl 8 rfl ?_
  refine o_icmpGe X0 d1_8 27 11 (by decide) (by decide) rfl (fun q => by exfalso; exact absurd q (by decide)) ?_
  intro hc8_1
  refine o_bipush (v := (31 : Int32)) X0 d1_11 rfl 13 rfl ?_
  refine o_iloadN X0 d1_13 rfl 14 rfl ?_
  refine o_imul X0 d1_14 15 rfl ?_
  refine o_aloadN X0 d1_15 rfl rfl 16 rfl ?_
  refine o_iload X0 d1_16 rfl 18 rfl ?_
  refine o_baloadB X0 H0 0 rfl d1_18 1 rfl t1 rfl 19 rfl ?_
  refine o_iadd X0 d1_19 20 rfl ?_
  refine o_istoreN X0 d1_20 #[.val (.ref xa), .val (.int (0 : Int32)), .val (.int (4 : Int32)), .val (.int (((31 : Int32) * (((31 : Int32) * (1 : Int32)) + t0)) + t1)), .val (.int (1 : Int32))] rfl 21 rfl ?_
  refine o_iinc (v := (1 : Int32)) (w := (2 : Int32)) X0 d1_21 rfl rfl #[.val (.ref xa), .val (.int (0 : Int32)), .val (.int (4 : Int32)), .val (.int (((31 : Int32) * (((31 : Int32) * (1 : Int32)) + t0)) + t1)), .val (.int (2 : Int32))] rfl 24 rfl ?_
  refine o_goto X0 d1_24 5 (by decide) (by decide) ?_
  refine o_iload X0 d1_5 rfl 7 rfl ?_
  refine o_iloadN X0 d1_7 rfl 8 rfl ?_
  refine o_icmpGe X0 d1_8 27 11 (by decide) (by decide) rfl (fun q => by exfalso; exact absurd q (by decide)) ?_
  intro hc8_2
  refine o_bipush (v := (31 : Int32)) X0 d1_11 rfl 13 rfl ?_
  refine o_iloadN X0 d1_13 rfl 14 rfl ?_
  refine o_imul X0 d1_14 15 rfl ?_
  refine o_aloadN X0 d1_15 rfl rfl 16 rfl ?_
  refine o_iload X0 d1_16 rfl 18 rfl ?_
  refine o_baloadB X0 H0 0 rfl d1_18 2 rfl t2 rfl 19 rfl ?_
  refine o_iadd X0 d1_19 20 rfl ?_
  refine o_istoreN X0 d1_20 #[.val (.ref xa), .val (.int (0 : Int32)), .val (.int (4 : Int32)), .val (.int (((31 : Int32) * (((31 : Int32) * (((31 : Int32) * (1 : Int32)) + t0)) + t1)) + t2)), .val (.int (2 : Int32))] rfl 21 rfl ?_
  refine o_iinc (v := (2 : Int32)) (w := (3 : Int32)) X0 d1_21 rfl rfl #[.val (.ref xa), .val (.int (0 : Int32)), .val (.int (4 : Int32)), .val (.int (((31 : Int32) * (((31 : Int32) * (((31 : Int32) * (1 : Int32)) + t0)) + t1)) + t2)), .val (.int (3 : Int32))] rfl 24 rfl ?_
  refine o_goto X0 d1_24 5 (by decide) (by decide) ?_
  refine o_iload X0 d1_5 rfl 7 rfl ?_
  refine o_iloadN X0 d1_7 rfl 8 rfl ?_
  refine o_icmpGe X0 d1_8 27 11 (by decide) (by decide) rfl (fun q => by exfalso; exact absurd q (by decide)) ?_
  intro hc8_3
  refine o_bipush (v := (31 : Int32)) X0 d1_11 rfl 13 rfl ?_
  refine o_iloadN X0 d1_13 rfl 14 rfl ?_
  refine o_imul X0 d1_14 15 rfl ?_
  refine o_aloadN X0 d1_15 rfl rfl 16 rfl ?_
  refine o_iload X0 d1_16 rfl 18 rfl ?_
  refine o_baloadB X0 H0 0 rfl d1_18 3 rfl t3 rfl 19 rfl ?_
  refine o_iadd X0 d1_19 20 rfl ?_
  refine o_istoreN X0 d1_20 #[.val (.ref xa), .val (.int (0 : Int32)), .val (.int (4 : Int32)), .val (.int (((31 : Int32) * (((31 : Int32) * (((31 : Int32) * (((31 : Int32) * (1 : Int32)) + t0)) + t1)) + t2)) + t3)), .val (.int (3 : Int32))] rfl 21 rfl ?_
  refine o_iinc (v := (3 : Int32)) (w := (4 : Int32)) X0 d1_21 rfl rfl #[.val (.ref xa), .val (.int (0 : Int32)), .val (.int (4 : Int32)), .val (.int (((31 : Int32) * (((31 : Int32) * (((31 : Int32) * (((31 : Int32) * (1 : Int32)) + t0)) + t1)) + t2)) + t3)), .val (.int (4 : Int32))] rfl 24 rfl ?_
  refine o_goto X0 d1_24 5 (by decide) (by decide) ?_
  refine o_iload X0 d1_5 rfl 7 rfl ?_
  refine o_iloadN X0 d1_7 rfl 8 rfl ?_
  refine o_icmpGe X0 d1_8 27 11 (by decide) (by decide) rfl ?_ (fun q => by exfalso; exact absurd q (by decide))
  intro hc8_4
  refine o_iloadN X0 d1_27 rfl 28 rfl ?_
  refine o_ldc (v := (-1640531527 : Int32)) X0 d1_28 (hw _ (List.mem_of_getElem? (i := 5) rfl)) 30 rfl ?_
  refine o_imul X0 d1_30 31 rfl ?_
  refine o_istore X0 d1_31 #[.val (.ref xa), .val (.int (0 : Int32)), .val (.int (4 : Int32)), .val (.int (((31 : Int32) * (((31 : Int32) * (((31 : Int32) * (((31 : Int32) * (1 : Int32)) + t0)) + t1)) + t2)) + t3)), .val (.int ((((31 : Int32) * (((31 : Int32) * (((31 : Int32) * (((31 : Int32) * (1 : Int32)) + t0)) + t1)) + t2)) + t3) * (-1640531527 : Int32)))] rfl 33 rfl ?_
  refine o_iload X0 d1_33 rfl 35 rfl ?_
  refine o_iload X0 d1_35 rfl 37 rfl ?_
  refine o_bipush (v := (16 : Int32)) X0 d1_37 rfl 39 rfl ?_
  refine o_iushr X0 d1_39 40 rfl ?_
  refine o_ixor X0 d1_40 41 rfl ?_
  exact o_retI X0 d1_41 (by decide) (by decide) (hQ _ _ ⟨rfl, rfl⟩)
set_option maxRecDepth 65536 in
set_option maxHeartbeats 40000000 in
theorem c_hash_1_0 (l : Launch) (Z : State) (a0 : Array Value) (hw : ∀ d ∈ tables_1, d.before a0 Z = true) (ws : List Jvm.Cond) (n0 : Nat) (h0 : Heap) (hn0 : n0 ≤ h0.size) (xa : Addr) (t0 t1 t2 t3 : Int32) (L' : List (Addr × (Cell → Prop))) (H0 : OL n0 h0 ((xa, OA Z .byte [t0, t1, t2, t3]) :: L')) :
    OC l Z (⟨"com/example/vestbook/vestbook/member/MemberIds", "hash", "([BII)I"⟩ : MethodName) prog_68_method_10_code 5 (some .int) ws ({ frames := 0, cells := 0, slots := 0, locals := 0 } : Room) n0 #[(.ref xa), (.int (1 : Int32)), (.int (1 : Int32))] h0 (fun r h => r = some (.int (f_fin (1 : Int32))) ∧ h0 = h) := by
  refine OC.of pn_0 hn0 #[.val (.ref xa), .val (.int (1 : Int32)), .val (.int (1 : Int32)), .unset, .unset] (fun m => by first | (simp [entryFrame, mkF, argsToLocals, Value.category, maxLocals]; done) | rfl) ?_
  intro p e s m below meth cd0 T0 X0 Q' hQ
  refine o_iconst (v := (1 : Int32)) X0 d1_0 rfl 1 rfl ?_
  refine o_istoreN X0 d1_1 #[.val (.ref xa), .val (.int (1 : Int32)), .val (.int (1 : Int32)), .val (.int (1 : Int32)), .unset] rfl 2 rfl ?_
  refine o_iloadN X0 d1_2 rfl 3 rfl ?_
  refine o_istore X0 d1_3 #[.val (.ref xa), .val (.int (1 : Int32)), .val (.int (1 : Int32)), .val (.int (1 : Int32)), .val (.int (1 : Int32))] rfl 5 rfl ?_
  refine o_iload X0 d1_5 rfl 7 rfl ?_
  refine o_iloadN X0 d1_7 rfl 8 rfl ?_
  refine o_icmpGe X0 d1_8 27 11 (by decide) (by decide) rfl ?_ (fun q => by exfalso; exact absurd q (by decide))
  intro hc8
  refine o_iloadN X0 d1_27 rfl 28 rfl ?_
  refine o_ldc (v := (-1640531527 : Int32)) X0 d1_28 (hw _ (List.mem_of_getElem? (i := 5) rfl)) 30 rfl ?_
  refine o_imul X0 d1_30 31 rfl ?_
  refine o_istore X0 d1_31 #[.val (.ref xa), .val (.int (1 : Int32)), .val (.int (1 : Int32)), .val (.int (1 : Int32)), .val (.int ((1 : Int32) * (-1640531527 : Int32)))] rfl 33 rfl ?_
  rw [show ((1 : Int32) * (-1640531527 : Int32)) = (-1640531527 : Int32) from rfl]
  refine o_iload X0 d1_33 rfl 35 rfl ?_
  refine o_iload X0 d1_35 rfl 37 rfl ?_
  refine o_bipush (v := (16 : Int32)) X0 d1_37 rfl 39 rfl ?_
  refine o_iushr X0 d1_39 40 rfl ?_
  refine o_ixor X0 d1_40 41 rfl ?_
  exact o_retI X0 d1_41 (by decide) (by decide) (hQ _ _ ⟨rfl, rfl⟩)
set_option maxRecDepth 65536 in
set_option maxHeartbeats 40000000 in
theorem c_hash_1_1 (l : Launch) (Z : State) (a0 : Array Value) (hw : ∀ d ∈ tables_1, d.before a0 Z = true) (ws : List Jvm.Cond) (n0 : Nat) (h0 : Heap) (hn0 : n0 ≤ h0.size) (xa : Addr) (t0 t1 t2 t3 : Int32) (L' : List (Addr × (Cell → Prop))) (H0 : OL n0 h0 ((xa, OA Z .byte [t0, t1, t2, t3]) :: L')) :
    OC l Z (⟨"com/example/vestbook/vestbook/member/MemberIds", "hash", "([BII)I"⟩ : MethodName) prog_68_method_10_code 5 (some .int) ws ({ frames := 0, cells := 0, slots := 0, locals := 0 } : Room) n0 #[(.ref xa), (.int (1 : Int32)), (.int (2 : Int32))] h0 (fun r h => r = some (.int (f_fin (((31 : Int32) * (1 : Int32)) + t1))) ∧ h0 = h) := by
  refine OC.of pn_0 hn0 #[.val (.ref xa), .val (.int (1 : Int32)), .val (.int (2 : Int32)), .unset, .unset] (fun m => by first | (simp [entryFrame, mkF, argsToLocals, Value.category, maxLocals]; done) | rfl) ?_
  intro p e s m below meth cd0 T0 X0 Q' hQ
  refine o_iconst (v := (1 : Int32)) X0 d1_0 rfl 1 rfl ?_
  refine o_istoreN X0 d1_1 #[.val (.ref xa), .val (.int (1 : Int32)), .val (.int (2 : Int32)), .val (.int (1 : Int32)), .unset] rfl 2 rfl ?_
  refine o_iloadN X0 d1_2 rfl 3 rfl ?_
  refine o_istore X0 d1_3 #[.val (.ref xa), .val (.int (1 : Int32)), .val (.int (2 : Int32)), .val (.int (1 : Int32)), .val (.int (1 : Int32))] rfl 5 rfl ?_
  refine o_iload X0 d1_5 rfl 7 rfl ?_
  refine o_iloadN X0 d1_7 rfl 8 rfl ?_
  refine o_icmpGe X0 d1_8 27 11 (by decide) (by decide) rfl (fun q => by exfalso; exact absurd q (by decide)) ?_
  intro hc8
  refine o_bipush (v := (31 : Int32)) X0 d1_11 rfl 13 rfl ?_
  refine o_iloadN X0 d1_13 rfl 14 rfl ?_
  refine o_imul X0 d1_14 15 rfl ?_
  refine o_aloadN X0 d1_15 rfl rfl 16 rfl ?_
  refine o_iload X0 d1_16 rfl 18 rfl ?_
  refine o_baloadB X0 H0 0 rfl d1_18 1 rfl t1 rfl 19 rfl ?_
  refine o_iadd X0 d1_19 20 rfl ?_
  refine o_istoreN X0 d1_20 #[.val (.ref xa), .val (.int (1 : Int32)), .val (.int (2 : Int32)), .val (.int (((31 : Int32) * (1 : Int32)) + t1)), .val (.int (1 : Int32))] rfl 21 rfl ?_
  refine o_iinc (v := (1 : Int32)) (w := (2 : Int32)) X0 d1_21 rfl rfl #[.val (.ref xa), .val (.int (1 : Int32)), .val (.int (2 : Int32)), .val (.int (((31 : Int32) * (1 : Int32)) + t1)), .val (.int (2 : Int32))] rfl 24 rfl ?_
  refine o_goto X0 d1_24 5 (by decide) (by decide) ?_
  refine o_iload X0 d1_5 rfl 7 rfl ?_
  refine o_iloadN X0 d1_7 rfl 8 rfl ?_
  refine o_icmpGe X0 d1_8 27 11 (by decide) (by decide) rfl ?_ (fun q => by exfalso; exact absurd q (by decide))
  intro hc8_1
  refine o_iloadN X0 d1_27 rfl 28 rfl ?_
  refine o_ldc (v := (-1640531527 : Int32)) X0 d1_28 (hw _ (List.mem_of_getElem? (i := 5) rfl)) 30 rfl ?_
  refine o_imul X0 d1_30 31 rfl ?_
  refine o_istore X0 d1_31 #[.val (.ref xa), .val (.int (1 : Int32)), .val (.int (2 : Int32)), .val (.int (((31 : Int32) * (1 : Int32)) + t1)), .val (.int ((((31 : Int32) * (1 : Int32)) + t1) * (-1640531527 : Int32)))] rfl 33 rfl ?_
  refine o_iload X0 d1_33 rfl 35 rfl ?_
  refine o_iload X0 d1_35 rfl 37 rfl ?_
  refine o_bipush (v := (16 : Int32)) X0 d1_37 rfl 39 rfl ?_
  refine o_iushr X0 d1_39 40 rfl ?_
  refine o_ixor X0 d1_40 41 rfl ?_
  exact o_retI X0 d1_41 (by decide) (by decide) (hQ _ _ ⟨rfl, rfl⟩)
set_option maxRecDepth 65536 in
set_option maxHeartbeats 40000000 in
theorem c_hash_1_2 (l : Launch) (Z : State) (a0 : Array Value) (hw : ∀ d ∈ tables_1, d.before a0 Z = true) (ws : List Jvm.Cond) (n0 : Nat) (h0 : Heap) (hn0 : n0 ≤ h0.size) (xa : Addr) (t0 t1 t2 t3 : Int32) (L' : List (Addr × (Cell → Prop))) (H0 : OL n0 h0 ((xa, OA Z .byte [t0, t1, t2, t3]) :: L')) :
    OC l Z (⟨"com/example/vestbook/vestbook/member/MemberIds", "hash", "([BII)I"⟩ : MethodName) prog_68_method_10_code 5 (some .int) ws ({ frames := 0, cells := 0, slots := 0, locals := 0 } : Room) n0 #[(.ref xa), (.int (1 : Int32)), (.int (3 : Int32))] h0 (fun r h => r = some (.int (f_fin (((31 : Int32) * (((31 : Int32) * (1 : Int32)) + t1)) + t2))) ∧ h0 = h) := by
  refine OC.of pn_0 hn0 #[.val (.ref xa), .val (.int (1 : Int32)), .val (.int (3 : Int32)), .unset, .unset] (fun m => by first | (simp [entryFrame, mkF, argsToLocals, Value.category, maxLocals]; done) | rfl) ?_
  intro p e s m below meth cd0 T0 X0 Q' hQ
  refine o_iconst (v := (1 : Int32)) X0 d1_0 rfl 1 rfl ?_
  refine o_istoreN X0 d1_1 #[.val (.ref xa), .val (.int (1 : Int32)), .val (.int (3 : Int32)), .val (.int (1 : Int32)), .unset] rfl 2 rfl ?_
  refine o_iloadN X0 d1_2 rfl 3 rfl ?_
  refine o_istore X0 d1_3 #[.val (.ref xa), .val (.int (1 : Int32)), .val (.int (3 : Int32)), .val (.int (1 : Int32)), .val (.int (1 : Int32))] rfl 5 rfl ?_
  refine o_iload X0 d1_5 rfl 7 rfl ?_
  refine o_iloadN X0 d1_7 rfl 8 rfl ?_
  refine o_icmpGe X0 d1_8 27 11 (by decide) (by decide) rfl (fun q => by exfalso; exact absurd q (by decide)) ?_
  intro hc8
  refine o_bipush (v := (31 : Int32)) X0 d1_11 rfl 13 rfl ?_
  refine o_iloadN X0 d1_13 rfl 14 rfl ?_
  refine o_imul X0 d1_14 15 rfl ?_
  refine o_aloadN X0 d1_15 rfl rfl 16 rfl ?_
  refine o_iload X0 d1_16 rfl 18 rfl ?_
  refine o_baloadB X0 H0 0 rfl d1_18 1 rfl t1 rfl 19 rfl ?_
  refine o_iadd X0 d1_19 20 rfl ?_
  refine o_istoreN X0 d1_20 #[.val (.ref xa), .val (.int (1 : Int32)), .val (.int (3 : Int32)), .val (.int (((31 : Int32) * (1 : Int32)) + t1)), .val (.int (1 : Int32))] rfl 21 rfl ?_
  refine o_iinc (v := (1 : Int32)) (w := (2 : Int32)) X0 d1_21 rfl rfl #[.val (.ref xa), .val (.int (1 : Int32)), .val (.int (3 : Int32)), .val (.int (((31 : Int32) * (1 : Int32)) + t1)), .val (.int (2 : Int32))] rfl 24 rfl ?_
  refine o_goto X0 d1_24 5 (by decide) (by decide) ?_
  refine o_iload X0 d1_5 rfl 7 rfl ?_
  refine o_iloadN X0 d1_7 rfl 8 rfl ?_
  refine o_icmpGe X0 d1_8 27 11 (by decide) (by decide) rfl (fun q => by exfalso; exact absurd q (by decide)) ?_
  intro hc8_1
  refine o_bipush (v := (31 : Int32)) X0 d1_11 rfl 13 rfl ?_
  refine o_iloadN X0 d1_13 rfl 14 rfl ?_
  refine o_imul X0 d1_14 15 rfl ?_
  refine o_aloadN X0 d1_15 rfl rfl 16 rfl ?_
  refine o_iload X0 d1_16 rfl 18 rfl ?_
  refine o_baloadB X0 H0 0 rfl d1_18 2 rfl t2 rfl 19 rfl ?_
  refine o_iadd X0 d1_19 20 rfl ?_
  refine o_istoreN X0 d1_20 #[.val (.ref xa), .val (.int (1 : Int32)), .val (.int (3 : Int32)), .val (.int (((31 : Int32) * (((31 : Int32) * (1 : Int32)) + t1)) + t2)), .val (.int (2 : Int32))] rfl 21 rfl ?_
  refine o_iinc (v := (2 : Int32)) (w := (3 : Int32)) X0 d1_21 rfl rfl #[.val (.ref xa), .val (.int (1 : Int32)), .val (.int (3 : Int32)), .val (.int (((31 : Int32) * (((31 : Int32) * (1 : Int32)) + t1)) + t2)), .val (.int (3 : Int32))] rfl 24 rfl ?_
  refine o_goto X0 d1_24 5 (by decide) (by decide) ?_
  refine o_iload X0 d1_5 rfl 7 rfl ?_
  refine o_iloadN X0 d1_7 rfl 8 rfl ?_
  refine o_icmpGe X0 d1_8 27 11 (by decide) (by decide) rfl ?_ (fun q => by exfalso; exact absurd q (by decide))
  intro hc8_2
  refine o_iloadN X0 d1_27 rfl 28 rfl ?_
  refine o_ldc (v := (-1640531527 : Int32)) X0 d1_28 (hw _ (List.mem_of_getElem? (i := 5) rfl)) 30 rfl ?_
  refine o_imul X0 d1_30 31 rfl ?_
  refine o_istore X0 d1_31 #[.val (.ref xa), .val (.int (1 : Int32)), .val (.int (3 : Int32)), .val (.int (((31 : Int32) * (((31 : Int32) * (1 : Int32)) + t1)) + t2)), .val (.int ((((31 : Int32) * (((31 : Int32) * (1 : Int32)) + t1)) + t2) * (-1640531527 : Int32)))] rfl 33 rfl ?_
  refine o_iload X0 d1_33 rfl 35 rfl ?_
  refine o_iload X0 d1_35 rfl 37 rfl ?_
  refine o_bipush (v := (16 : Int32)) X0 d1_37 rfl 39 rfl ?_
  refine o_iushr X0 d1_39 40 rfl ?_
  refine o_ixor X0 d1_40 41 rfl ?_
  exact o_retI X0 d1_41 (by decide) (by decide) (hQ _ _ ⟨rfl, rfl⟩)
set_option maxRecDepth 65536 in
set_option maxHeartbeats 40000000 in
theorem c_hash_1_3 (l : Launch) (Z : State) (a0 : Array Value) (hw : ∀ d ∈ tables_1, d.before a0 Z = true) (ws : List Jvm.Cond) (n0 : Nat) (h0 : Heap) (hn0 : n0 ≤ h0.size) (xa : Addr) (t0 t1 t2 t3 : Int32) (L' : List (Addr × (Cell → Prop))) (H0 : OL n0 h0 ((xa, OA Z .byte [t0, t1, t2, t3]) :: L')) :
    OC l Z (⟨"com/example/vestbook/vestbook/member/MemberIds", "hash", "([BII)I"⟩ : MethodName) prog_68_method_10_code 5 (some .int) ws ({ frames := 0, cells := 0, slots := 0, locals := 0 } : Room) n0 #[(.ref xa), (.int (1 : Int32)), (.int (4 : Int32))] h0 (fun r h => r = some (.int (f_fin (((31 : Int32) * (((31 : Int32) * (((31 : Int32) * (1 : Int32)) + t1)) + t2)) + t3))) ∧ h0 = h) := by
  refine OC.of pn_0 hn0 #[.val (.ref xa), .val (.int (1 : Int32)), .val (.int (4 : Int32)), .unset, .unset] (fun m => by first | (simp [entryFrame, mkF, argsToLocals, Value.category, maxLocals]; done) | rfl) ?_
  intro p e s m below meth cd0 T0 X0 Q' hQ
  refine o_iconst (v := (1 : Int32)) X0 d1_0 rfl 1 rfl ?_
  refine o_istoreN X0 d1_1 #[.val (.ref xa), .val (.int (1 : Int32)), .val (.int (4 : Int32)), .val (.int (1 : Int32)), .unset] rfl 2 rfl ?_
  refine o_iloadN X0 d1_2 rfl 3 rfl ?_
  refine o_istore X0 d1_3 #[.val (.ref xa), .val (.int (1 : Int32)), .val (.int (4 : Int32)), .val (.int (1 : Int32)), .val (.int (1 : Int32))] rfl 5 rfl ?_
  refine o_iload X0 d1_5 rfl 7 rfl ?_
  refine o_iloadN X0 d1_7 rfl 8 rfl ?_
  refine o_icmpGe X0 d1_8 27 11 (by decide) (by decide) rfl (fun q => by exfalso; exact absurd q (by decide)) ?_
  intro hc8
  refine o_bipush (v := (31 : Int32)) X0 d1_11 rfl 13 rfl ?_
  refine o_iloadN X0 d1_13 rfl 14 rfl ?_
  refine o_imul X0 d1_14 15 rfl ?_
  refine o_aloadN X0 d1_15 rfl rfl 16 rfl ?_
  refine o_iload X0 d1_16 rfl 18 rfl ?_
  refine o_baloadB X0 H0 0 rfl d1_18 1 rfl t1 rfl 19 rfl ?_
  refine o_iadd X0 d1_19 20 rfl ?_
  refine o_istoreN X0 d1_20 #[.val (.ref xa), .val (.int (1 : Int32)), .val (.int (4 : Int32)), .val (.int (((31 : Int32) * (1 : Int32)) + t1)), .val (.int (1 : Int32))] rfl 21 rfl ?_
  refine o_iinc (v := (1 : Int32)) (w := (2 : Int32)) X0 d1_21 rfl rfl #[.val (.ref xa), .val (.int (1 : Int32)), .val (.int (4 : Int32)), .val (.int (((31 : Int32) * (1 : Int32)) + t1)), .val (.int (2 : Int32))] rfl 24 rfl ?_
  refine o_goto X0 d1_24 5 (by decide) (by decide) ?_
  refine o_iload X0 d1_5 rfl 7 rfl ?_
  refine o_iloadN X0 d1_7 rfl 8 rfl ?_
  refine o_icmpGe X0 d1_8 27 11 (by decide) (by decide) rfl (fun q => by exfalso; exact absurd q (by decide)) ?_
  intro hc8_1
  refine o_bipush (v := (31 : Int32)) X0 d1_11 rfl 13 rfl ?_
  refine o_iloadN X0 d1_13 rfl 14 rfl ?_
  refine o_imul X0 d1_14 15 rfl ?_
  refine o_aloadN X0 d1_15 rfl rfl 16 rfl ?_
  refine o_iload X0 d1_16 rfl 18 rfl ?_
  refine o_baloadB X0 H0 0 rfl d1_18 2 rfl t2 rfl 19 rfl ?_
  refine o_iadd X0 d1_19 20 rfl ?_
  refine o_istoreN X0 d1_20 #[.val (.ref xa), .val (.int (1 : Int32)), .val (.int (4 : Int32)), .val (.int (((31 : Int32) * (((31 : Int32) * (1 : Int32)) + t1)) + t2)), .val (.int (2 : Int32))] rfl 21 rfl ?_
  refine o_iinc (v := (2 : Int32)) (w := (3 : Int32)) X0 d1_21 rfl rfl #[.val (.ref xa), .val (.int (1 : Int32)), .val (.int (4 : Int32)), .val (.int (((31 : Int32) * (((31 : Int32) * (1 : Int32)) + t1)) + t2)), .val (.int (3 : Int32))] rfl 24 rfl ?_
  refine o_goto X0 d1_24 5 (by decide) (by decide) ?_
  refine o_iload X0 d1_5 rfl 7 rfl ?_
  refine o_iloadN X0 d1_7 rfl 8 rfl ?_
  refine o_icmpGe X0 d1_8 27 11 (by decide) (by decide) rfl (fun q => by exfalso; exact absurd q (by decide)) ?_
  intro hc8_2
  refine o_bipush (v := (31 : Int32)) X0 d1_11 rfl 13 rfl ?_
  refine o_iloadN X0 d1_13 rfl 14 rfl ?_
  refine o_imul X0 d1_14 15 rfl ?_
  refine o_aloadN X0 d1_15 rfl rfl 16 rfl ?_
  refine o_iload X0 d1_16 rfl 18 rfl ?_
  refine o_baloadB X0 H0 0 rfl d1_18 3 rfl t3 rfl 19 rfl ?_
  refine o_iadd X0 d1_19 20 rfl ?_
  refine o_istoreN X0 d1_20 #[.val (.ref xa), .val (.int (1 : Int32)), .val (.int (4 : Int32)), .val (.int (((31 : Int32) * (((31 : Int32) * (((31 : Int32) * (1 : Int32)) + t1)) + t2)) + t3)), .val (.int (3 : Int32))] rfl 21 rfl ?_
  refine o_iinc (v := (3 : Int32)) (w := (4 : Int32)) X0 d1_21 rfl rfl #[.val (.ref xa), .val (.int (1 : Int32)), .val (.int (4 : Int32)), .val (.int (((31 : Int32) * (((31 : Int32) * (((31 : Int32) * (1 : Int32)) + t1)) + t2)) + t3)), .val (.int (4 : Int32))] rfl 24 rfl ?_
  refine o_goto X0 d1_24 5 (by decide) (by decide) ?_
  refine o_iload X0 d1_5 rfl 7 rfl ?_
  refine o_iloadN X0 d1_7 rfl 8 rfl ?_
  refine o_icmpGe X0 d1_8 27 11 (by decide) (by decide) rfl ?_ (fun q => by exfalso; exact absurd q (by decide))
  intro hc8_3
  refine o_iloadN X0 d1_27 rfl 28 rfl ?_
  refine o_ldc (v := (-1640531527 : Int32)) X0 d1_28 (hw _ (List.mem_of_getElem? (i := 5) rfl)) 30 rfl ?_
  refine o_imul X0 d1_30 31 rfl ?_
  refine o_istore X0 d1_31 #[.val (.ref xa), .val (.int (1 : Int32)), .val (.int (4 : Int32)), .val (.int (((31 : Int32) * (((31 : Int32) * (((31 : Int32) * (1 : Int32)) + t1)) + t2)) + t3)), .val (.int ((((31 : Int32) * (((31 : Int32) * (((31 : Int32) * (1 : Int32)) + t1)) + t2)) + t3) * (-1640531527 : Int32)))] rfl 33 rfl ?_
  refine o_iload X0 d1_33 rfl 35 rfl ?_
  refine o_iload X0 d1_35 rfl 37 rfl ?_
  refine o_bipush (v := (16 : Int32)) X0 d1_37 rfl 39 rfl ?_
  refine o_iushr X0 d1_39 40 rfl ?_
  refine o_ixor X0 d1_40 41 rfl ?_
  exact o_retI X0 d1_41 (by decide) (by decide) (hQ _ _ ⟨rfl, rfl⟩)
set_option maxRecDepth 65536 in
set_option maxHeartbeats 40000000 in
theorem c_hash_2_0 (l : Launch) (Z : State) (a0 : Array Value) (hw : ∀ d ∈ tables_1, d.before a0 Z = true) (ws : List Jvm.Cond) (n0 : Nat) (h0 : Heap) (hn0 : n0 ≤ h0.size) (xa : Addr) (t0 t1 t2 t3 : Int32) (L' : List (Addr × (Cell → Prop))) (H0 : OL n0 h0 ((xa, OA Z .byte [t0, t1, t2, t3]) :: L')) :
    OC l Z (⟨"com/example/vestbook/vestbook/member/MemberIds", "hash", "([BII)I"⟩ : MethodName) prog_68_method_10_code 5 (some .int) ws ({ frames := 0, cells := 0, slots := 0, locals := 0 } : Room) n0 #[(.ref xa), (.int (2 : Int32)), (.int (2 : Int32))] h0 (fun r h => r = some (.int (f_fin (1 : Int32))) ∧ h0 = h) := by
  refine OC.of pn_0 hn0 #[.val (.ref xa), .val (.int (2 : Int32)), .val (.int (2 : Int32)), .unset, .unset] (fun m => by first | (simp [entryFrame, mkF, argsToLocals, Value.category, maxLocals]; done) | rfl) ?_
  intro p e s m below meth cd0 T0 X0 Q' hQ
  refine o_iconst (v := (1 : Int32)) X0 d1_0 rfl 1 rfl ?_
  refine o_istoreN X0 d1_1 #[.val (.ref xa), .val (.int (2 : Int32)), .val (.int (2 : Int32)), .val (.int (1 : Int32)), .unset] rfl 2 rfl ?_
  refine o_iloadN X0 d1_2 rfl 3 rfl ?_
  refine o_istore X0 d1_3 #[.val (.ref xa), .val (.int (2 : Int32)), .val (.int (2 : Int32)), .val (.int (1 : Int32)), .val (.int (2 : Int32))] rfl 5 rfl ?_
  refine o_iload X0 d1_5 rfl 7 rfl ?_
  refine o_iloadN X0 d1_7 rfl 8 rfl ?_
  refine o_icmpGe X0 d1_8 27 11 (by decide) (by decide) rfl ?_ (fun q => by exfalso; exact absurd q (by decide))
  intro hc8
  refine o_iloadN X0 d1_27 rfl 28 rfl ?_
  refine o_ldc (v := (-1640531527 : Int32)) X0 d1_28 (hw _ (List.mem_of_getElem? (i := 5) rfl)) 30 rfl ?_
  refine o_imul X0 d1_30 31 rfl ?_
  refine o_istore X0 d1_31 #[.val (.ref xa), .val (.int (2 : Int32)), .val (.int (2 : Int32)), .val (.int (1 : Int32)), .val (.int ((1 : Int32) * (-1640531527 : Int32)))] rfl 33 rfl ?_
  rw [show ((1 : Int32) * (-1640531527 : Int32)) = (-1640531527 : Int32) from rfl]
  refine o_iload X0 d1_33 rfl 35 rfl ?_
  refine o_iload X0 d1_35 rfl 37 rfl ?_
  refine o_bipush (v := (16 : Int32)) X0 d1_37 rfl 39 rfl ?_
  refine o_iushr X0 d1_39 40 rfl ?_
  refine o_ixor X0 d1_40 41 rfl ?_
  exact o_retI X0 d1_41 (by decide) (by decide) (hQ _ _ ⟨rfl, rfl⟩)
set_option maxRecDepth 65536 in
set_option maxHeartbeats 40000000 in
theorem c_hash_2_1 (l : Launch) (Z : State) (a0 : Array Value) (hw : ∀ d ∈ tables_1, d.before a0 Z = true) (ws : List Jvm.Cond) (n0 : Nat) (h0 : Heap) (hn0 : n0 ≤ h0.size) (xa : Addr) (t0 t1 t2 t3 : Int32) (L' : List (Addr × (Cell → Prop))) (H0 : OL n0 h0 ((xa, OA Z .byte [t0, t1, t2, t3]) :: L')) :
    OC l Z (⟨"com/example/vestbook/vestbook/member/MemberIds", "hash", "([BII)I"⟩ : MethodName) prog_68_method_10_code 5 (some .int) ws ({ frames := 0, cells := 0, slots := 0, locals := 0 } : Room) n0 #[(.ref xa), (.int (2 : Int32)), (.int (3 : Int32))] h0 (fun r h => r = some (.int (f_fin (((31 : Int32) * (1 : Int32)) + t2))) ∧ h0 = h) := by
  refine OC.of pn_0 hn0 #[.val (.ref xa), .val (.int (2 : Int32)), .val (.int (3 : Int32)), .unset, .unset] (fun m => by first | (simp [entryFrame, mkF, argsToLocals, Value.category, maxLocals]; done) | rfl) ?_
  intro p e s m below meth cd0 T0 X0 Q' hQ
  refine o_iconst (v := (1 : Int32)) X0 d1_0 rfl 1 rfl ?_
  refine o_istoreN X0 d1_1 #[.val (.ref xa), .val (.int (2 : Int32)), .val (.int (3 : Int32)), .val (.int (1 : Int32)), .unset] rfl 2 rfl ?_
  refine o_iloadN X0 d1_2 rfl 3 rfl ?_
  refine o_istore X0 d1_3 #[.val (.ref xa), .val (.int (2 : Int32)), .val (.int (3 : Int32)), .val (.int (1 : Int32)), .val (.int (2 : Int32))] rfl 5 rfl ?_
  refine o_iload X0 d1_5 rfl 7 rfl ?_
  refine o_iloadN X0 d1_7 rfl 8 rfl ?_
  refine o_icmpGe X0 d1_8 27 11 (by decide) (by decide) rfl (fun q => by exfalso; exact absurd q (by decide)) ?_
  intro hc8
  refine o_bipush (v := (31 : Int32)) X0 d1_11 rfl 13 rfl ?_
  refine o_iloadN X0 d1_13 rfl 14 rfl ?_
  refine o_imul X0 d1_14 15 rfl ?_
  refine o_aloadN X0 d1_15 rfl rfl 16 rfl ?_
  refine o_iload X0 d1_16 rfl 18 rfl ?_
  refine o_baloadB X0 H0 0 rfl d1_18 2 rfl t2 rfl 19 rfl ?_
  refine o_iadd X0 d1_19 20 rfl ?_
  refine o_istoreN X0 d1_20 #[.val (.ref xa), .val (.int (2 : Int32)), .val (.int (3 : Int32)), .val (.int (((31 : Int32) * (1 : Int32)) + t2)), .val (.int (2 : Int32))] rfl 21 rfl ?_
  refine o_iinc (v := (2 : Int32)) (w := (3 : Int32)) X0 d1_21 rfl rfl #[.val (.ref xa), .val (.int (2 : Int32)), .val (.int (3 : Int32)), .val (.int (((31 : Int32) * (1 : Int32)) + t2)), .val (.int (3 : Int32))] rfl 24 rfl ?_
  refine o_goto X0 d1_24 5 (by decide) (by decide) ?_
  refine o_iload X0 d1_5 rfl 7 rfl ?_
  refine o_iloadN X0 d1_7 rfl 8 rfl ?_
  refine o_icmpGe X0 d1_8 27 11 (by decide) (by decide) rfl ?_ (fun q => by exfalso; exact absurd q (by decide))
  intro hc8_1
  refine o_iloadN X0 d1_27 rfl 28 rfl ?_
  refine o_ldc (v := (-1640531527 : Int32)) X0 d1_28 (hw _ (List.mem_of_getElem? (i := 5) rfl)) 30 rfl ?_
  refine o_imul X0 d1_30 31 rfl ?_
  refine o_istore X0 d1_31 #[.val (.ref xa), .val (.int (2 : Int32)), .val (.int (3 : Int32)), .val (.int (((31 : Int32) * (1 : Int32)) + t2)), .val (.int ((((31 : Int32) * (1 : Int32)) + t2) * (-1640531527 : Int32)))] rfl 33 rfl ?_
  refine o_iload X0 d1_33 rfl 35 rfl ?_
  refine o_iload X0 d1_35 rfl 37 rfl ?_
  refine o_bipush (v := (16 : Int32)) X0 d1_37 rfl 39 rfl ?_
  refine o_iushr X0 d1_39 40 rfl ?_
  refine o_ixor X0 d1_40 41 rfl ?_
  exact o_retI X0 d1_41 (by decide) (by decide) (hQ _ _ ⟨rfl, rfl⟩)
set_option maxRecDepth 65536 in
set_option maxHeartbeats 40000000 in
theorem c_hash_2_2 (l : Launch) (Z : State) (a0 : Array Value) (hw : ∀ d ∈ tables_1, d.before a0 Z = true) (ws : List Jvm.Cond) (n0 : Nat) (h0 : Heap) (hn0 : n0 ≤ h0.size) (xa : Addr) (t0 t1 t2 t3 : Int32) (L' : List (Addr × (Cell → Prop))) (H0 : OL n0 h0 ((xa, OA Z .byte [t0, t1, t2, t3]) :: L')) :
    OC l Z (⟨"com/example/vestbook/vestbook/member/MemberIds", "hash", "([BII)I"⟩ : MethodName) prog_68_method_10_code 5 (some .int) ws ({ frames := 0, cells := 0, slots := 0, locals := 0 } : Room) n0 #[(.ref xa), (.int (2 : Int32)), (.int (4 : Int32))] h0 (fun r h => r = some (.int (f_fin (((31 : Int32) * (((31 : Int32) * (1 : Int32)) + t2)) + t3))) ∧ h0 = h) := by
  refine OC.of pn_0 hn0 #[.val (.ref xa), .val (.int (2 : Int32)), .val (.int (4 : Int32)), .unset, .unset] (fun m => by first | (simp [entryFrame, mkF, argsToLocals, Value.category, maxLocals]; done) | rfl) ?_
  intro p e s m below meth cd0 T0 X0 Q' hQ
  refine o_iconst (v := (1 : Int32)) X0 d1_0 rfl 1 rfl ?_
  refine o_istoreN X0 d1_1 #[.val (.ref xa), .val (.int (2 : Int32)), .val (.int (4 : Int32)), .val (.int (1 : Int32)), .unset] rfl 2 rfl ?_
  refine o_iloadN X0 d1_2 rfl 3 rfl ?_
  refine o_istore X0 d1_3 #[.val (.ref xa), .val (.int (2 : Int32)), .val (.int (4 : Int32)), .val (.int (1 : Int32)), .val (.int (2 : Int32))] rfl 5 rfl ?_
  refine o_iload X0 d1_5 rfl 7 rfl ?_
  refine o_iloadN X0 d1_7 rfl 8 rfl ?_
  refine o_icmpGe X0 d1_8 27 11 (by decide) (by decide) rfl (fun q => by exfalso; exact absurd q (by decide)) ?_
  intro hc8
  refine o_bipush (v := (31 : Int32)) X0 d1_11 rfl 13 rfl ?_
  refine o_iloadN X0 d1_13 rfl 14 rfl ?_
  refine o_imul X0 d1_14 15 rfl ?_
  refine o_aloadN X0 d1_15 rfl rfl 16 rfl ?_
  refine o_iload X0 d1_16 rfl 18 rfl ?_
  refine o_baloadB X0 H0 0 rfl d1_18 2 rfl t2 rfl 19 rfl ?_
  refine o_iadd X0 d1_19 20 rfl ?_
  refine o_istoreN X0 d1_20 #[.val (.ref xa), .val (.int (2 : Int32)), .val (.int (4 : Int32)), .val (.int (((31 : Int32) * (1 : Int32)) + t2)), .val (.int (2 : Int32))] rfl 21 rfl ?_
  refine o_iinc (v := (2 : Int32)) (w := (3 : Int32)) X0 d1_21 rfl rfl #[.val (.ref xa), .val (.int (2 : Int32)), .val (.int (4 : Int32)), .val (.int (((31 : Int32) * (1 : Int32)) + t2)), .val (.int (3 : Int32))] rfl 24 rfl ?_
  refine o_goto X0 d1_24 5 (by decide) (by decide) ?_
  refine o_iload X0 d1_5 rfl 7 rfl ?_
  refine o_iloadN X0 d1_7 rfl 8 rfl ?_
  refine o_icmpGe X0 d1_8 27 11 (by decide) (by decide) rfl (fun q => by exfalso; exact absurd q (by decide)) ?_
  intro hc8_1
  refine o_bipush (v := (31 : Int32)) X0 d1_11 rfl 13 rfl ?_
  refine o_iloadN X0 d1_13 rfl 14 rfl ?_
  refine o_imul X0 d1_14 15 rfl ?_
  refine o_aloadN X0 d1_15 rfl rfl 16 rfl ?_
  refine o_iload X0 d1_16 rfl 18 rfl ?_
  refine o_baloadB X0 H0 0 rfl d1_18 3 rfl t3 rfl 19 rfl ?_
  refine o_iadd X0 d1_19 20 rfl ?_
  refine o_istoreN X0 d1_20 #[.val (.ref xa), .val (.int (2 : Int32)), .val (.int (4 : Int32)), .val (.int (((31 : Int32) * (((31 : Int32) * (1 : Int32)) + t2)) + t3)), .val (.int (3 : Int32))] rfl 21 rfl ?_
  refine o_iinc (v := (3 : Int32)) (w := (4 : Int32)) X0 d1_21 rfl rfl #[.val (.ref xa), .val (.int (2 : Int32)), .val (.int (4 : Int32)), .val (.int (((31 : Int32) * (((31 : Int32) * (1 : Int32)) + t2)) + t3)), .val (.int (4 : Int32))] rfl 24 rfl ?_
  refine o_goto X0 d1_24 5 (by decide) (by decide) ?_
  refine o_iload X0 d1_5 rfl 7 rfl ?_
  refine o_iloadN X0 d1_7 rfl 8 rfl ?_
  refine o_icmpGe X0 d1_8 27 11 (by decide) (by decide) rfl ?_ (fun q => by exfalso; exact absurd q (by decide))
  intro hc8_2
  refine o_iloadN X0 d1_27 rfl 28 rfl ?_
  refine o_ldc (v := (-1640531527 : Int32)) X0 d1_28 (hw _ (List.mem_of_getElem? (i := 5) rfl)) 30 rfl ?_
  refine o_imul X0 d1_30 31 rfl ?_
  refine o_istore X0 d1_31 #[.val (.ref xa), .val (.int (2 : Int32)), .val (.int (4 : Int32)), .val (.int (((31 : Int32) * (((31 : Int32) * (1 : Int32)) + t2)) + t3)), .val (.int ((((31 : Int32) * (((31 : Int32) * (1 : Int32)) + t2)) + t3) * (-1640531527 : Int32)))] rfl 33 rfl ?_
  refine o_iload X0 d1_33 rfl 35 rfl ?_
  refine o_iload X0 d1_35 rfl 37 rfl ?_
  refine o_bipush (v := (16 : Int32)) X0 d1_37 rfl 39 rfl ?_
  refine o_iushr X0 d1_39 40 rfl ?_
  refine o_ixor X0 d1_40 41 rfl ?_
  exact o_retI X0 d1_41 (by decide) (by decide) (hQ _ _ ⟨rfl, rfl⟩)
set_option maxRecDepth 65536 in
set_option maxHeartbeats 40000000 in
theorem c_hash_3_0 (l : Launch) (Z : State) (a0 : Array Value) (hw : ∀ d ∈ tables_1, d.before a0 Z = true) (ws : List Jvm.Cond) (n0 : Nat) (h0 : Heap) (hn0 : n0 ≤ h0.size) (xa : Addr) (t0 t1 t2 t3 : Int32) (L' : List (Addr × (Cell → Prop))) (H0 : OL n0 h0 ((xa, OA Z .byte [t0, t1, t2, t3]) :: L')) :
    OC l Z (⟨"com/example/vestbook/vestbook/member/MemberIds", "hash", "([BII)I"⟩ : MethodName) prog_68_method_10_code 5 (some .int) ws ({ frames := 0, cells := 0, slots := 0, locals := 0 } : Room) n0 #[(.ref xa), (.int (3 : Int32)), (.int (3 : Int32))] h0 (fun r h => r = some (.int (f_fin (1 : Int32))) ∧ h0 = h) := by
  refine OC.of pn_0 hn0 #[.val (.ref xa), .val (.int (3 : Int32)), .val (.int (3 : Int32)), .unset, .unset] (fun m => by first | (simp [entryFrame, mkF, argsToLocals, Value.category, maxLocals]; done) | rfl) ?_
  intro p e s m below meth cd0 T0 X0 Q' hQ
  refine o_iconst (v := (1 : Int32)) X0 d1_0 rfl 1 rfl ?_
  refine o_istoreN X0 d1_1 #[.val (.ref xa), .val (.int (3 : Int32)), .val (.int (3 : Int32)), .val (.int (1 : Int32)), .unset] rfl 2 rfl ?_
  refine o_iloadN X0 d1_2 rfl 3 rfl ?_
  refine o_istore X0 d1_3 #[.val (.ref xa), .val (.int (3 : Int32)), .val (.int (3 : Int32)), .val (.int (1 : Int32)), .val (.int (3 : Int32))] rfl 5 rfl ?_
  refine o_iload X0 d1_5 rfl 7 rfl ?_
  refine o_iloadN X0 d1_7 rfl 8 rfl ?_
  refine o_icmpGe X0 d1_8 27 11 (by decide) (by decide) rfl ?_ (fun q => by exfalso; exact absurd q (by decide))
  intro hc8
  refine o_iloadN X0 d1_27 rfl 28 rfl ?_
  refine o_ldc (v := (-1640531527 : Int32)) X0 d1_28 (hw _ (List.mem_of_getElem? (i := 5) rfl)) 30 rfl ?_
  refine o_imul X0 d1_30 31 rfl ?_
  refine o_istore X0 d1_31 #[.val (.ref xa), .val (.int (3 : Int32)), .val (.int (3 : Int32)), .val (.int (1 : Int32)), .val (.int ((1 : Int32) * (-1640531527 : Int32)))] rfl 33 rfl ?_
  rw [show ((1 : Int32) * (-1640531527 : Int32)) = (-1640531527 : Int32) from rfl]
  refine o_iload X0 d1_33 rfl 35 rfl ?_
  refine o_iload X0 d1_35 rfl 37 rfl ?_
  refine o_bipush (v := (16 : Int32)) X0 d1_37 rfl 39 rfl ?_
  refine o_iushr X0 d1_39 40 rfl ?_
  refine o_ixor X0 d1_40 41 rfl ?_
  exact o_retI X0 d1_41 (by decide) (by decide) (hQ _ _ ⟨rfl, rfl⟩)
set_option maxRecDepth 65536 in
set_option maxHeartbeats 40000000 in
theorem c_hash_3_1 (l : Launch) (Z : State) (a0 : Array Value) (hw : ∀ d ∈ tables_1, d.before a0 Z = true) (ws : List Jvm.Cond) (n0 : Nat) (h0 : Heap) (hn0 : n0 ≤ h0.size) (xa : Addr) (t0 t1 t2 t3 : Int32) (L' : List (Addr × (Cell → Prop))) (H0 : OL n0 h0 ((xa, OA Z .byte [t0, t1, t2, t3]) :: L')) :
    OC l Z (⟨"com/example/vestbook/vestbook/member/MemberIds", "hash", "([BII)I"⟩ : MethodName) prog_68_method_10_code 5 (some .int) ws ({ frames := 0, cells := 0, slots := 0, locals := 0 } : Room) n0 #[(.ref xa), (.int (3 : Int32)), (.int (4 : Int32))] h0 (fun r h => r = some (.int (f_fin (((31 : Int32) * (1 : Int32)) + t3))) ∧ h0 = h) := by
  refine OC.of pn_0 hn0 #[.val (.ref xa), .val (.int (3 : Int32)), .val (.int (4 : Int32)), .unset, .unset] (fun m => by first | (simp [entryFrame, mkF, argsToLocals, Value.category, maxLocals]; done) | rfl) ?_
  intro p e s m below meth cd0 T0 X0 Q' hQ
  refine o_iconst (v := (1 : Int32)) X0 d1_0 rfl 1 rfl ?_
  refine o_istoreN X0 d1_1 #[.val (.ref xa), .val (.int (3 : Int32)), .val (.int (4 : Int32)), .val (.int (1 : Int32)), .unset] rfl 2 rfl ?_
  refine o_iloadN X0 d1_2 rfl 3 rfl ?_
  refine o_istore X0 d1_3 #[.val (.ref xa), .val (.int (3 : Int32)), .val (.int (4 : Int32)), .val (.int (1 : Int32)), .val (.int (3 : Int32))] rfl 5 rfl ?_
  refine o_iload X0 d1_5 rfl 7 rfl ?_
  refine o_iloadN X0 d1_7 rfl 8 rfl ?_
  refine o_icmpGe X0 d1_8 27 11 (by decide) (by decide) rfl (fun q => by exfalso; exact absurd q (by decide)) ?_
  intro hc8
  refine o_bipush (v := (31 : Int32)) X0 d1_11 rfl 13 rfl ?_
  refine o_iloadN X0 d1_13 rfl 14 rfl ?_
  refine o_imul X0 d1_14 15 rfl ?_
  refine o_aloadN X0 d1_15 rfl rfl 16 rfl ?_
  refine o_iload X0 d1_16 rfl 18 rfl ?_
  refine o_baloadB X0 H0 0 rfl d1_18 3 rfl t3 rfl 19 rfl ?_
  refine o_iadd X0 d1_19 20 rfl ?_
  refine o_istoreN X0 d1_20 #[.val (.ref xa), .val (.int (3 : Int32)), .val (.int (4 : Int32)), .val (.int (((31 : Int32) * (1 : Int32)) + t3)), .val (.int (3 : Int32))] rfl 21 rfl ?_
  refine o_iinc (v := (3 : Int32)) (w := (4 : Int32)) X0 d1_21 rfl rfl #[.val (.ref xa), .val (.int (3 : Int32)), .val (.int (4 : Int32)), .val (.int (((31 : Int32) * (1 : Int32)) + t3)), .val (.int (4 : Int32))] rfl 24 rfl ?_
  refine o_goto X0 d1_24 5 (by decide) (by decide) ?_
  refine o_iload X0 d1_5 rfl 7 rfl ?_
  refine o_iloadN X0 d1_7 rfl 8 rfl ?_
  refine o_icmpGe X0 d1_8 27 11 (by decide) (by decide) rfl ?_ (fun q => by exfalso; exact absurd q (by decide))
  intro hc8_1
  refine o_iloadN X0 d1_27 rfl 28 rfl ?_
  refine o_ldc (v := (-1640531527 : Int32)) X0 d1_28 (hw _ (List.mem_of_getElem? (i := 5) rfl)) 30 rfl ?_
  refine o_imul X0 d1_30 31 rfl ?_
  refine o_istore X0 d1_31 #[.val (.ref xa), .val (.int (3 : Int32)), .val (.int (4 : Int32)), .val (.int (((31 : Int32) * (1 : Int32)) + t3)), .val (.int ((((31 : Int32) * (1 : Int32)) + t3) * (-1640531527 : Int32)))] rfl 33 rfl ?_
  refine o_iload X0 d1_33 rfl 35 rfl ?_
  refine o_iload X0 d1_35 rfl 37 rfl ?_
  refine o_bipush (v := (16 : Int32)) X0 d1_37 rfl 39 rfl ?_
  refine o_iushr X0 d1_39 40 rfl ?_
  refine o_ixor X0 d1_40 41 rfl ?_
  exact o_retI X0 d1_41 (by decide) (by decide) (hQ _ _ ⟨rfl, rfl⟩)
set_option maxRecDepth 65536 in
set_option maxHeartbeats 40000000 in
theorem c_hash_4_0 (l : Launch) (Z : State) (a0 : Array Value) (hw : ∀ d ∈ tables_1, d.before a0 Z = true) (ws : List Jvm.Cond) (n0 : Nat) (h0 : Heap) (hn0 : n0 ≤ h0.size) (xa : Addr) (t0 t1 t2 t3 : Int32) (L' : List (Addr × (Cell → Prop))) (H0 : OL n0 h0 ((xa, OA Z .byte [t0, t1, t2, t3]) :: L')) :
    OC l Z (⟨"com/example/vestbook/vestbook/member/MemberIds", "hash", "([BII)I"⟩ : MethodName) prog_68_method_10_code 5 (some .int) ws ({ frames := 0, cells := 0, slots := 0, locals := 0 } : Room) n0 #[(.ref xa), (.int (4 : Int32)), (.int (4 : Int32))] h0 (fun r h => r = some (.int (f_fin (1 : Int32))) ∧ h0 = h) := by
  refine OC.of pn_0 hn0 #[.val (.ref xa), .val (.int (4 : Int32)), .val (.int (4 : Int32)), .unset, .unset] (fun m => by first | (simp [entryFrame, mkF, argsToLocals, Value.category, maxLocals]; done) | rfl) ?_
  intro p e s m below meth cd0 T0 X0 Q' hQ
  refine o_iconst (v := (1 : Int32)) X0 d1_0 rfl 1 rfl ?_
  refine o_istoreN X0 d1_1 #[.val (.ref xa), .val (.int (4 : Int32)), .val (.int (4 : Int32)), .val (.int (1 : Int32)), .unset] rfl 2 rfl ?_
  refine o_iloadN X0 d1_2 rfl 3 rfl ?_
  refine o_istore X0 d1_3 #[.val (.ref xa), .val (.int (4 : Int32)), .val (.int (4 : Int32)), .val (.int (1 : Int32)), .val (.int (4 : Int32))] rfl 5 rfl ?_
  refine o_iload X0 d1_5 rfl 7 rfl ?_
  refine o_iloadN X0 d1_7 rfl 8 rfl ?_
  refine o_icmpGe X0 d1_8 27 11 (by decide) (by decide) rfl ?_ (fun q => by exfalso; exact absurd q (by decide))
  intro hc8
  refine o_iloadN X0 d1_27 rfl 28 rfl ?_
  refine o_ldc (v := (-1640531527 : Int32)) X0 d1_28 (hw _ (List.mem_of_getElem? (i := 5) rfl)) 30 rfl ?_
  refine o_imul X0 d1_30 31 rfl ?_
  refine o_istore X0 d1_31 #[.val (.ref xa), .val (.int (4 : Int32)), .val (.int (4 : Int32)), .val (.int (1 : Int32)), .val (.int ((1 : Int32) * (-1640531527 : Int32)))] rfl 33 rfl ?_
  rw [show ((1 : Int32) * (-1640531527 : Int32)) = (-1640531527 : Int32) from rfl]
  refine o_iload X0 d1_33 rfl 35 rfl ?_
  refine o_iload X0 d1_35 rfl 37 rfl ?_
  refine o_bipush (v := (16 : Int32)) X0 d1_37 rfl 39 rfl ?_
  refine o_iushr X0 d1_39 40 rfl ?_
  refine o_ixor X0 d1_40 41 rfl ?_
  exact o_retI X0 d1_41 (by decide) (by decide) (hQ _ _ ⟨rfl, rfl⟩)
set_option maxRecDepth 65536 in
set_option maxHeartbeats 40000000 in
theorem c_law (l : Launch) (Z : State) (a0 : Array Value) (hw : ∀ d ∈ tables_1, d.before a0 Z = true) (ws : List Jvm.Cond) (n0 : Nat) (h0 : Heap) (hn0 : n0 ≤ h0.size) (xb : Int32) (xp : Int32) :
    OC l Z x code maxLocals ret ws room_1 n0 #[(.int xb), (.int xp)] h0 (fun r h => r = some (.int 1)) := by
  refine OC.of pn_1 hn0 #[.val (.int xb), .val (.int xp), .unset, .unset, .unset, .unset, .unset, .unset, .unset, .unset] (fun m => by first | (simp [entryFrame, mkF, argsToLocals, Value.category, maxLocals]; done) | rfl) ?_
  intro p e s m below meth cd0 T0 X0 Q' hQ
  have J33 : ∀ (T : State) (h : Heap) (xt : Addr) (t0 t1 t2 t3 : Int32), OW p l e room_1 s m #[(.int xb), (.int xp)] below meth cd0 Z x code maxLocals ret n0 T h 1 4 → OL n0 h ((xt, OA Z .byte [t0, t1, t2, t3]) :: []) → OE p e room_1 below s n0 Q' T (mkF m 33 #[.val (.int xb), .val (.int xp), .val (.ref xt), .unset, .unset, .unset, .unset, .unset, .unset, .unset] []) := by
    intro T h xt t0 t1 t2 t3 X_J33 H_J33
    refine o_iloadN X_J33 at_33 rfl 34 rfl ?_
    refine o_bipush (v := (7 : Int32)) X_J33 at_34 rfl 36 rfl ?_
    refine o_iand X_J33 at_36 37 rfl ?_
    refine o_iconst (v := (5 : Int32)) X_J33 at_37 rfl 38 rfl ?_
    refine o_irem X_J33 at_38 (by decide) 39 rfl ?_
    refine o_istoreN X_J33 at_39 #[.val (.int xb), .val (.int xp), .val (.ref xt), .val (.int ((xp &&& (7 : Int32)) % (5 : Int32))), .unset, .unset, .unset, .unset, .unset, .unset] rfl 40 rfl ?_
    rcases v_s xp with hv | hv | hv | hv | hv
    · rw [hv]
      refine o_iloadN X_J33 at_40 rfl 41 rfl ?_
      refine o_iconst (v := (3 : Int32)) X_J33 at_41 rfl 42 rfl ?_
      refine o_iushr X_J33 at_42 43 rfl ?_
      refine o_bipush (v := (7 : Int32)) X_J33 at_43 rfl 45 rfl ?_
      refine o_iand X_J33 at_45 46 rfl ?_
      refine o_iconst (v := (5 : Int32)) X_J33 at_46 rfl 47 rfl ?_
      refine o_iloadN X_J33 at_47 rfl 48 rfl ?_
      refine o_isub X_J33 at_48 49 rfl ?_
      refine o_irem X_J33 at_49 (by decide) 50 rfl ?_
      refine o_istore X_J33 at_50 #[.val (.int xb), .val (.int xp), .val (.ref xt), .val (.int (0 : Int32)), .val (.int (((XT.ushr xp (3 : Int32)) &&& (7 : Int32)) % ((5 : Int32) - (0 : Int32)))), .unset, .unset, .unset, .unset, .unset] rfl 52 rfl ?_
      rcases v_l0 (XT.ushr xp 3) with hv | hv | hv | hv | hv
      · rw [hv]
        refine o_iloadN X_J33 at_52 rfl 53 rfl ?_
        refine o_iload X_J33 at_53 rfl 55 rfl ?_
        refine o_iadd X_J33 at_55 56 rfl ?_
        refine o_istore X_J33 at_56 #[.val (.int xb), .val (.int xp), .val (.ref xt), .val (.int (0 : Int32)), .val (.int (0 : Int32)), .val (.int ((0 : Int32) + (0 : Int32))), .unset, .unset, .unset, .unset] rfl 58 rfl ?_
        rw [show ((0 : Int32) + (0 : Int32)) = (0 : Int32) from rfl]
        refine o_aloadN X_J33 at_58 rfl rfl 59 rfl ?_
        refine o_iloadN X_J33 at_59 rfl 60 rfl ?_
        refine o_iload X_J33 at_60 rfl 62 rfl ?_
        refine o_callS X_J33 at_62 (rest := []) (c_hash_0_0 l Z a0 hw [] n0 _ X_J33.size xt t0 t1 t2 t3 [] H_J33) (hw _ (List.mem_of_getElem? (i := 1) rfl)) (hw _ (List.mem_of_getElem? (i := 2) rfl)) (hw _ (List.mem_of_getElem? (i := 3) rfl)) (hw _ (List.mem_of_getElem? (i := 4) rfl)) (by decide) 0 (by decide) (by decide) rfl [(.ref xt), (.int (0 : Int32)), (.int (0 : Int32))] rfl pd_1 rfl rfl (Nat.le_of_eq rfl) 1 4 rfl rfl (by decide) (by decide) 65 rfl ?_
        rintro _ T1 _ X1 ⟨rfl, rfl⟩
        show OE p e room_1 below s n0 Q' T1 (mkF m 65 #[.val (.int xb), .val (.int xp), .val (.ref xt), .val (.int (0 : Int32)), .val (.int (0 : Int32)), .val (.int (0 : Int32)), .unset, .unset, .unset, .unset] [(.int (f_fin (1 : Int32)))])
        refine o_istore X1 at_65 #[.val (.int xb), .val (.int xp), .val (.ref xt), .val (.int (0 : Int32)), .val (.int (0 : Int32)), .val (.int (0 : Int32)), .val (.int (f_fin (1 : Int32))), .unset, .unset, .unset] rfl 67 rfl ?_
        refine o_iload X1 at_67 rfl 69 rfl ?_
        refine o_iload X1 at_69 rfl 71 rfl ?_
        refine o_bipush (v := (16 : Int32)) X1 at_71 rfl 73 rfl ?_
        refine o_iushr X1 at_73 74 rfl ?_
        refine o_ixor X1 at_74 75 rfl ?_
        refine o_istore X1 at_75 #[.val (.int xb), .val (.int xp), .val (.ref xt), .val (.int (0 : Int32)), .val (.int (0 : Int32)), .val (.int (0 : Int32)), .val (.int (f_fin (1 : Int32))), .val (.int ((f_fin (1 : Int32)) ^^^ (XT.ushr (f_fin (1 : Int32)) (16 : Int32)))), .unset, .unset] rfl 77 rfl ?_
        refine o_iload X1 at_77 rfl 79 rfl ?_
        refine o_ldc (v := (340573321 : Int32)) X1 at_79 (hw _ (List.mem_of_getElem? (i := 6) rfl)) 81 rfl ?_
        refine o_imul X1 at_81 82 rfl ?_
        refine o_istore X1 at_82 #[.val (.int xb), .val (.int xp), .val (.ref xt), .val (.int (0 : Int32)), .val (.int (0 : Int32)), .val (.int (0 : Int32)), .val (.int (f_fin (1 : Int32))), .val (.int ((f_fin (1 : Int32)) ^^^ (XT.ushr (f_fin (1 : Int32)) (16 : Int32)))), .val (.int (((f_fin (1 : Int32)) ^^^ (XT.ushr (f_fin (1 : Int32)) (16 : Int32))) * (340573321 : Int32))), .unset] rfl 84 rfl ?_
        rw [show (((f_fin (1 : Int32)) ^^^ (XT.ushr (f_fin (1 : Int32)) (16 : Int32))) * (340573321 : Int32)) = (1 : Int32) from v_poly _]
        refine o_iload X1 at_84 rfl 86 rfl ?_
        refine o_callS X1 at_86 (rest := []) (c_pow l Z a0 hw [] n0 _ X1.size (0 : Int32) ) (hw _ (List.mem_of_getElem? (i := 7) rfl)) (hw _ (List.mem_of_getElem? (i := 8) rfl)) (hw _ (List.mem_of_getElem? (i := 9) rfl)) (hw _ (List.mem_of_getElem? (i := 10) rfl)) (by decide) 0 (by decide) (by decide) rfl [(.int (0 : Int32))] rfl pd_2 rfl rfl (Nat.le_of_eq rfl) 1 4 rfl rfl (by decide) (by decide) 89 rfl ?_
        rintro _ T2 _ X2 ⟨rfl, rfl⟩
        rw [show (f_pow (0 : Int32)) = (1 : Int32) from rfl]
        show OE p e room_1 below s n0 Q' T2 (mkF m 89 #[.val (.int xb), .val (.int xp), .val (.ref xt), .val (.int (0 : Int32)), .val (.int (0 : Int32)), .val (.int (0 : Int32)), .val (.int (f_fin (1 : Int32))), .val (.int ((f_fin (1 : Int32)) ^^^ (XT.ushr (f_fin (1 : Int32)) (16 : Int32)))), .val (.int (1 : Int32)), .unset] [(.int (1 : Int32))])
        refine o_iload X2 at_89 rfl 91 rfl ?_
        refine o_ifLe X2 at_91 108 94 (by decide) (by decide) rfl ?_ (fun q => by exfalso; exact absurd q (by decide))
        intro hc91
        refine o_iconst (v := (0 : Int32)) X2 at_108 rfl 109 rfl ?_
        refine o_iadd X2 at_109 110 rfl ?_
        refine o_iload X2 at_110 rfl 112 rfl ?_
        refine o_iconst (v := (1 : Int32)) X2 at_112 rfl 113 rfl ?_
        refine o_icmpLe X2 at_113 132 116 (by decide) (by decide) rfl ?_ (fun q => by exfalso; exact absurd q (by decide))
        intro hc113
        refine o_iconst (v := (0 : Int32)) X2 at_132 rfl 133 rfl ?_
        refine o_iadd X2 at_133 134 rfl ?_
        refine o_iload X2 at_134 rfl 136 rfl ?_
        refine o_iconst (v := (2 : Int32)) X2 at_136 rfl 137 rfl ?_
        refine o_icmpLe X2 at_137 156 140 (by decide) (by decide) rfl ?_ (fun q => by exfalso; exact absurd q (by decide))
        intro hc137
        refine o_iconst (v := (0 : Int32)) X2 at_156 rfl 157 rfl ?_
        refine o_iadd X2 at_157 158 rfl ?_
        refine o_iload X2 at_158 rfl 160 rfl ?_
        refine o_iconst (v := (3 : Int32)) X2 at_160 rfl 161 rfl ?_
        refine o_icmpLe X2 at_161 180 164 (by decide) (by decide) rfl ?_ (fun q => by exfalso; exact absurd q (by decide))
        intro hc161
        refine o_iconst (v := (0 : Int32)) X2 at_180 rfl 181 rfl ?_
        refine o_iadd X2 at_181 182 rfl ?_
        refine o_istore X2 at_182 #[.val (.int xb), .val (.int xp), .val (.ref xt), .val (.int (0 : Int32)), .val (.int (0 : Int32)), .val (.int (0 : Int32)), .val (.int (f_fin (1 : Int32))), .val (.int ((f_fin (1 : Int32)) ^^^ (XT.ushr (f_fin (1 : Int32)) (16 : Int32)))), .val (.int (1 : Int32)), .val (.int (((((1 : Int32) + (0 : Int32)) + (0 : Int32)) + (0 : Int32)) + (0 : Int32)))] rfl 184 rfl ?_
        rw [show (((((1 : Int32) + (0 : Int32)) + (0 : Int32)) + (0 : Int32)) + (0 : Int32)) = (1 : Int32) from rfl]
        refine o_iload X2 at_184 rfl 186 rfl ?_
        refine o_iload X2 at_186 rfl 188 rfl ?_
        refine o_icmpNe X2 at_188 195 191 (by decide) (by decide) rfl (fun q => by exfalso; exact q (by grind)) ?_
        intro hc188
        refine o_iconst (v := (1 : Int32)) X2 at_191 rfl 192 rfl ?_
        refine o_goto X2 at_192 196 (by decide) (by decide) ?_
        exact o_retZ X2 at_196 (by decide) (by decide) (hQ _ _ rfl)
      · rw [hv]
        refine o_iloadN X_J33 at_52 rfl 53 rfl ?_
        refine o_iload X_J33 at_53 rfl 55 rfl ?_
        refine o_iadd X_J33 at_55 56 rfl ?_
        refine o_istore X_J33 at_56 #[.val (.int xb), .val (.int xp), .val (.ref xt), .val (.int (0 : Int32)), .val (.int (1 : Int32)), .val (.int ((0 : Int32) + (1 : Int32))), .unset, .unset, .unset, .unset] rfl 58 rfl ?_
        rw [show ((0 : Int32) + (1 : Int32)) = (1 : Int32) from rfl]
        refine o_aloadN X_J33 at_58 rfl rfl 59 rfl ?_
        refine o_iloadN X_J33 at_59 rfl 60 rfl ?_
        refine o_iload X_J33 at_60 rfl 62 rfl ?_
        refine o_callS X_J33 at_62 (rest := []) (c_hash_0_1 l Z a0 hw [] n0 _ X_J33.size xt t0 t1 t2 t3 [] H_J33) (hw _ (List.mem_of_getElem? (i := 1) rfl)) (hw _ (List.mem_of_getElem? (i := 2) rfl)) (hw _ (List.mem_of_getElem? (i := 3) rfl)) (hw _ (List.mem_of_getElem? (i := 4) rfl)) (by decide) 0 (by decide) (by decide) rfl [(.ref xt), (.int (0 : Int32)), (.int (1 : Int32))] rfl pd_1 rfl rfl (Nat.le_of_eq rfl) 1 4 rfl rfl (by decide) (by decide) 65 rfl ?_
        rintro _ T3 _ X3 ⟨rfl, rfl⟩
        show OE p e room_1 below s n0 Q' T3 (mkF m 65 #[.val (.int xb), .val (.int xp), .val (.ref xt), .val (.int (0 : Int32)), .val (.int (1 : Int32)), .val (.int (1 : Int32)), .unset, .unset, .unset, .unset] [(.int (f_fin (((31 : Int32) * (1 : Int32)) + t0)))])
        refine o_istore X3 at_65 #[.val (.int xb), .val (.int xp), .val (.ref xt), .val (.int (0 : Int32)), .val (.int (1 : Int32)), .val (.int (1 : Int32)), .val (.int (f_fin (((31 : Int32) * (1 : Int32)) + t0))), .unset, .unset, .unset] rfl 67 rfl ?_
        refine o_iload X3 at_67 rfl 69 rfl ?_
        refine o_iload X3 at_69 rfl 71 rfl ?_
        refine o_bipush (v := (16 : Int32)) X3 at_71 rfl 73 rfl ?_
        refine o_iushr X3 at_73 74 rfl ?_
        refine o_ixor X3 at_74 75 rfl ?_
        refine o_istore X3 at_75 #[.val (.int xb), .val (.int xp), .val (.ref xt), .val (.int (0 : Int32)), .val (.int (1 : Int32)), .val (.int (1 : Int32)), .val (.int (f_fin (((31 : Int32) * (1 : Int32)) + t0))), .val (.int ((f_fin (((31 : Int32) * (1 : Int32)) + t0)) ^^^ (XT.ushr (f_fin (((31 : Int32) * (1 : Int32)) + t0)) (16 : Int32)))), .unset, .unset] rfl 77 rfl ?_
        refine o_iload X3 at_77 rfl 79 rfl ?_
        refine o_ldc (v := (340573321 : Int32)) X3 at_79 (hw _ (List.mem_of_getElem? (i := 6) rfl)) 81 rfl ?_
        refine o_imul X3 at_81 82 rfl ?_
        refine o_istore X3 at_82 #[.val (.int xb), .val (.int xp), .val (.ref xt), .val (.int (0 : Int32)), .val (.int (1 : Int32)), .val (.int (1 : Int32)), .val (.int (f_fin (((31 : Int32) * (1 : Int32)) + t0))), .val (.int ((f_fin (((31 : Int32) * (1 : Int32)) + t0)) ^^^ (XT.ushr (f_fin (((31 : Int32) * (1 : Int32)) + t0)) (16 : Int32)))), .val (.int (((f_fin (((31 : Int32) * (1 : Int32)) + t0)) ^^^ (XT.ushr (f_fin (((31 : Int32) * (1 : Int32)) + t0)) (16 : Int32))) * (340573321 : Int32))), .unset] rfl 84 rfl ?_
        rw [show (((f_fin (((31 : Int32) * (1 : Int32)) + t0)) ^^^ (XT.ushr (f_fin (((31 : Int32) * (1 : Int32)) + t0)) (16 : Int32))) * (340573321 : Int32)) = (((31 : Int32) * (1 : Int32)) + t0) from v_poly _]
        refine o_iload X3 at_84 rfl 86 rfl ?_
        refine o_callS X3 at_86 (rest := []) (c_pow l Z a0 hw [] n0 _ X3.size (1 : Int32) ) (hw _ (List.mem_of_getElem? (i := 7) rfl)) (hw _ (List.mem_of_getElem? (i := 8) rfl)) (hw _ (List.mem_of_getElem? (i := 9) rfl)) (hw _ (List.mem_of_getElem? (i := 10) rfl)) (by decide) 0 (by decide) (by decide) rfl [(.int (1 : Int32))] rfl pd_2 rfl rfl (Nat.le_of_eq rfl) 1 4 rfl rfl (by decide) (by decide) 89 rfl ?_
        rintro _ T4 _ X4 ⟨rfl, rfl⟩
        rw [show (f_pow (1 : Int32)) = (31 : Int32) from rfl]
        show OE p e room_1 below s n0 Q' T4 (mkF m 89 #[.val (.int xb), .val (.int xp), .val (.ref xt), .val (.int (0 : Int32)), .val (.int (1 : Int32)), .val (.int (1 : Int32)), .val (.int (f_fin (((31 : Int32) * (1 : Int32)) + t0))), .val (.int ((f_fin (((31 : Int32) * (1 : Int32)) + t0)) ^^^ (XT.ushr (f_fin (((31 : Int32) * (1 : Int32)) + t0)) (16 : Int32)))), .val (.int (((31 : Int32) * (1 : Int32)) + t0)), .unset] [(.int (31 : Int32))])
        refine o_iload X4 at_89 rfl 91 rfl ?_
        refine o_ifLe X4 at_91 108 94 (by decide) (by decide) rfl (fun q => by exfalso; exact absurd q (by decide)) ?_
        intro hc91
        refine o_aloadN X4 at_94 rfl rfl 95 rfl ?_
        refine o_iloadN X4 at_95 rfl 96 rfl ?_
        refine o_baloadB X4 H_J33 0 rfl at_96 0 rfl t0 rfl 97 rfl ?_
        refine o_iload X4 at_97 rfl 99 rfl ?_
        refine o_iconst (v := (1 : Int32)) X4 at_99 rfl 100 rfl ?_
        refine o_isub X4 at_100 101 rfl ?_
        refine o_callS X4 at_101 (rest := [(.int t0), (.int (31 : Int32))]) (c_pow l Z a0 hw [] n0 _ X4.size ((1 : Int32) - (1 : Int32)) ) (hw _ (List.mem_of_getElem? (i := 7) rfl)) (hw _ (List.mem_of_getElem? (i := 8) rfl)) (hw _ (List.mem_of_getElem? (i := 9) rfl)) (hw _ (List.mem_of_getElem? (i := 10) rfl)) (by decide) 2 (by decide) (by decide) rfl [(.int ((1 : Int32) - (1 : Int32)))] rfl pd_2 rfl rfl (Nat.le_of_eq rfl) 1 4 rfl rfl (by decide) (by decide) 104 rfl ?_
        rintro _ T5 _ X5 ⟨rfl, rfl⟩
        rw [show (f_pow ((1 : Int32) - (1 : Int32))) = (1 : Int32) from rfl]
        show OE p e room_1 below s n0 Q' T5 (mkF m 104 #[.val (.int xb), .val (.int xp), .val (.ref xt), .val (.int (0 : Int32)), .val (.int (1 : Int32)), .val (.int (1 : Int32)), .val (.int (f_fin (((31 : Int32) * (1 : Int32)) + t0))), .val (.int ((f_fin (((31 : Int32) * (1 : Int32)) + t0)) ^^^ (XT.ushr (f_fin (((31 : Int32) * (1 : Int32)) + t0)) (16 : Int32)))), .val (.int (((31 : Int32) * (1 : Int32)) + t0)), .unset] [(.int (1 : Int32)), (.int t0), (.int (31 : Int32))])
        refine o_imul X5 at_104 105 rfl ?_
        refine o_goto X5 at_105 109 (by decide) (by decide) ?_
        refine o_iadd X5 at_109 110 rfl ?_
        refine o_iload X5 at_110 rfl 112 rfl ?_
        refine o_iconst (v := (1 : Int32)) X5 at_112 rfl 113 rfl ?_
        refine o_icmpLe X5 at_113 132 116 (by decide) (by decide) rfl ?_ (fun q => by exfalso; exact absurd q (by decide))
        intro hc113
        refine o_iconst (v := (0 : Int32)) X5 at_132 rfl 133 rfl ?_
        refine o_iadd X5 at_133 134 rfl ?_
        refine o_iload X5 at_134 rfl 136 rfl ?_
        refine o_iconst (v := (2 : Int32)) X5 at_136 rfl 137 rfl ?_
        refine o_icmpLe X5 at_137 156 140 (by decide) (by decide) rfl ?_ (fun q => by exfalso; exact absurd q (by decide))
        intro hc137
        refine o_iconst (v := (0 : Int32)) X5 at_156 rfl 157 rfl ?_
        refine o_iadd X5 at_157 158 rfl ?_
        refine o_iload X5 at_158 rfl 160 rfl ?_
        refine o_iconst (v := (3 : Int32)) X5 at_160 rfl 161 rfl ?_
        refine o_icmpLe X5 at_161 180 164 (by decide) (by decide) rfl ?_ (fun q => by exfalso; exact absurd q (by decide))
        intro hc161
        refine o_iconst (v := (0 : Int32)) X5 at_180 rfl 181 rfl ?_
        refine o_iadd X5 at_181 182 rfl ?_
        refine o_istore X5 at_182 #[.val (.int xb), .val (.int xp), .val (.ref xt), .val (.int (0 : Int32)), .val (.int (1 : Int32)), .val (.int (1 : Int32)), .val (.int (f_fin (((31 : Int32) * (1 : Int32)) + t0))), .val (.int ((f_fin (((31 : Int32) * (1 : Int32)) + t0)) ^^^ (XT.ushr (f_fin (((31 : Int32) * (1 : Int32)) + t0)) (16 : Int32)))), .val (.int (((31 : Int32) * (1 : Int32)) + t0)), .val (.int (((((31 : Int32) + (t0 * (1 : Int32))) + (0 : Int32)) + (0 : Int32)) + (0 : Int32)))] rfl 184 rfl ?_
        refine o_iload X5 at_184 rfl 186 rfl ?_
        refine o_iload X5 at_186 rfl 188 rfl ?_
        refine o_icmpNe X5 at_188 195 191 (by decide) (by decide) rfl (fun q => by exfalso; exact q (by grind)) ?_
        intro hc188
        refine o_iconst (v := (1 : Int32)) X5 at_191 rfl 192 rfl ?_
        refine o_goto X5 at_192 196 (by decide) (by decide) ?_
        exact o_retZ X5 at_196 (by decide) (by decide) (hQ _ _ rfl)
      · rw [hv]
        refine o_iloadN X_J33 at_52 rfl 53 rfl ?_
        refine o_iload X_J33 at_53 rfl 55 rfl ?_
        refine o_iadd X_J33 at_55 56 rfl ?_
        refine o_istore X_J33 at_56 #[.val (.int xb), .val (.int xp), .val (.ref xt), .val (.int (0 : Int32)), .val (.int (2 : Int32)), .val (.int ((0 : Int32) + (2 : Int32))), .unset, .unset, .unset, .unset] rfl 58 rfl ?_
        rw [show ((0 : Int32) + (2 : Int32)) = (2 : Int32) from rfl]
        refine o_aloadN X_J33 at_58 rfl rfl 59 rfl ?_
        refine o_iloadN X_J33 at_59 rfl 60 rfl ?_
        refine o_iload X_J33 at_60 rfl 62 rfl ?_
        refine o_callS X_J33 at_62 (rest := []) (c_hash_0_2 l Z a0 hw [] n0 _ X_J33.size xt t0 t1 t2 t3 [] H_J33) (hw _ (List.mem_of_getElem? (i := 1) rfl)) (hw _ (List.mem_of_getElem? (i := 2) rfl)) (hw _ (List.mem_of_getElem? (i := 3) rfl)) (hw _ (List.mem_of_getElem? (i := 4) rfl)) (by decide) 0 (by decide) (by decide) rfl [(.ref xt), (.int (0 : Int32)), (.int (2 : Int32))] rfl pd_1 rfl rfl (Nat.le_of_eq rfl) 1 4 rfl rfl (by decide) (by decide) 65 rfl ?_
        rintro _ T6 _ X6 ⟨rfl, rfl⟩
        show OE p e room_1 below s n0 Q' T6 (mkF m 65 #[.val (.int xb), .val (.int xp), .val (.ref xt), .val (.int (0 : Int32)), .val (.int (2 : Int32)), .val (.int (2 : Int32)), .unset, .unset, .unset, .unset] [(.int (f_fin (((31 : Int32) * (((31 : Int32) * (1 : Int32)) + t0)) + t1)))])
        refine o_istore X6 at_65 #[.val (.int xb), .val (.int xp), .val (.ref xt), .val (.int (0 : Int32)), .val (.int (2 : Int32)), .val (.int (2 : Int32)), .val (.int (f_fin (((31 : Int32) * (((31 : Int32) * (1 : Int32)) + t0)) + t1))), .unset, .unset, .unset] rfl 67 rfl ?_
        refine o_iload X6 at_67 rfl 69 rfl ?_
        refine o_iload X6 at_69 rfl 71 rfl ?_
        refine o_bipush (v := (16 : Int32)) X6 at_71 rfl 73 rfl ?_
        refine o_iushr X6 at_73 74 rfl ?_
        refine o_ixor X6 at_74 75 rfl ?_
        refine o_istore X6 at_75 #[.val (.int xb), .val (.int xp), .val (.ref xt), .val (.int (0 : Int32)), .val (.int (2 : Int32)), .val (.int (2 : Int32)), .val (.int (f_fin (((31 : Int32) * (((31 : Int32) * (1 : Int32)) + t0)) + t1))), .val (.int ((f_fin (((31 : Int32) * (((31 : Int32) * (1 : Int32)) + t0)) + t1)) ^^^ (XT.ushr (f_fin (((31 : Int32) * (((31 : Int32) * (1 : Int32)) + t0)) + t1)) (16 : Int32)))), .unset, .unset] rfl 77 rfl ?_
        refine o_iload X6 at_77 rfl 79 rfl ?_
        refine o_ldc (v := (340573321 : Int32)) X6 at_79 (hw _ (List.mem_of_getElem? (i := 6) rfl)) 81 rfl ?_
        refine o_imul X6 at_81 82 rfl ?_
        refine o_istore X6 at_82 #[.val (.int xb), .val (.int xp), .val (.ref xt), .val (.int (0 : Int32)), .val (.int (2 : Int32)), .val (.int (2 : Int32)), .val (.int (f_fin (((31 : Int32) * (((31 : Int32) * (1 : Int32)) + t0)) + t1))), .val (.int ((f_fin (((31 : Int32) * (((31 : Int32) * (1 : Int32)) + t0)) + t1)) ^^^ (XT.ushr (f_fin (((31 : Int32) * (((31 : Int32) * (1 : Int32)) + t0)) + t1)) (16 : Int32)))), .val (.int (((f_fin (((31 : Int32) * (((31 : Int32) * (1 : Int32)) + t0)) + t1)) ^^^ (XT.ushr (f_fin (((31 : Int32) * (((31 : Int32) * (1 : Int32)) + t0)) + t1)) (16 : Int32))) * (340573321 : Int32))), .unset] rfl 84 rfl ?_
        rw [show (((f_fin (((31 : Int32) * (((31 : Int32) * (1 : Int32)) + t0)) + t1)) ^^^ (XT.ushr (f_fin (((31 : Int32) * (((31 : Int32) * (1 : Int32)) + t0)) + t1)) (16 : Int32))) * (340573321 : Int32)) = (((31 : Int32) * (((31 : Int32) * (1 : Int32)) + t0)) + t1) from v_poly _]
        refine o_iload X6 at_84 rfl 86 rfl ?_
        refine o_callS X6 at_86 (rest := []) (c_pow l Z a0 hw [] n0 _ X6.size (2 : Int32) ) (hw _ (List.mem_of_getElem? (i := 7) rfl)) (hw _ (List.mem_of_getElem? (i := 8) rfl)) (hw _ (List.mem_of_getElem? (i := 9) rfl)) (hw _ (List.mem_of_getElem? (i := 10) rfl)) (by decide) 0 (by decide) (by decide) rfl [(.int (2 : Int32))] rfl pd_2 rfl rfl (Nat.le_of_eq rfl) 1 4 rfl rfl (by decide) (by decide) 89 rfl ?_
        rintro _ T7 _ X7 ⟨rfl, rfl⟩
        rw [show (f_pow (2 : Int32)) = (961 : Int32) from rfl]
        show OE p e room_1 below s n0 Q' T7 (mkF m 89 #[.val (.int xb), .val (.int xp), .val (.ref xt), .val (.int (0 : Int32)), .val (.int (2 : Int32)), .val (.int (2 : Int32)), .val (.int (f_fin (((31 : Int32) * (((31 : Int32) * (1 : Int32)) + t0)) + t1))), .val (.int ((f_fin (((31 : Int32) * (((31 : Int32) * (1 : Int32)) + t0)) + t1)) ^^^ (XT.ushr (f_fin (((31 : Int32) * (((31 : Int32) * (1 : Int32)) + t0)) + t1)) (16 : Int32)))), .val (.int (((31 : Int32) * (((31 : Int32) * (1 : Int32)) + t0)) + t1)), .unset] [(.int (961 : Int32))])
        refine o_iload X7 at_89 rfl 91 rfl ?_
        refine o_ifLe X7 at_91 108 94 (by decide) (by decide) rfl (fun q => by exfalso; exact absurd q (by decide)) ?_
        intro hc91
        refine o_aloadN X7 at_94 rfl rfl 95 rfl ?_
        refine o_iloadN X7 at_95 rfl 96 rfl ?_
        refine o_baloadB X7 H_J33 0 rfl at_96 0 rfl t0 rfl 97 rfl ?_
        refine o_iload X7 at_97 rfl 99 rfl ?_
        refine o_iconst (v := (1 : Int32)) X7 at_99 rfl 100 rfl ?_
        refine o_isub X7 at_100 101 rfl ?_
        refine o_callS X7 at_101 (rest := [(.int t0), (.int (961 : Int32))]) (c_pow l Z a0 hw [] n0 _ X7.size ((2 : Int32) - (1 : Int32)) ) (hw _ (List.mem_of_getElem? (i := 7) rfl)) (hw _ (List.mem_of_getElem? (i := 8) rfl)) (hw _ (List.mem_of_getElem? (i := 9) rfl)) (hw _ (List.mem_of_getElem? (i := 10) rfl)) (by decide) 2 (by decide) (by decide) rfl [(.int ((2 : Int32) - (1 : Int32)))] rfl pd_2 rfl rfl (Nat.le_of_eq rfl) 1 4 rfl rfl (by decide) (by decide) 104 rfl ?_
        rintro _ T8 _ X8 ⟨rfl, rfl⟩
        rw [show (f_pow ((2 : Int32) - (1 : Int32))) = (31 : Int32) from rfl]
        show OE p e room_1 below s n0 Q' T8 (mkF m 104 #[.val (.int xb), .val (.int xp), .val (.ref xt), .val (.int (0 : Int32)), .val (.int (2 : Int32)), .val (.int (2 : Int32)), .val (.int (f_fin (((31 : Int32) * (((31 : Int32) * (1 : Int32)) + t0)) + t1))), .val (.int ((f_fin (((31 : Int32) * (((31 : Int32) * (1 : Int32)) + t0)) + t1)) ^^^ (XT.ushr (f_fin (((31 : Int32) * (((31 : Int32) * (1 : Int32)) + t0)) + t1)) (16 : Int32)))), .val (.int (((31 : Int32) * (((31 : Int32) * (1 : Int32)) + t0)) + t1)), .unset] [(.int (31 : Int32)), (.int t0), (.int (961 : Int32))])
        refine o_imul X8 at_104 105 rfl ?_
        refine o_goto X8 at_105 109 (by decide) (by decide) ?_
        refine o_iadd X8 at_109 110 rfl ?_
        refine o_iload X8 at_110 rfl 112 rfl ?_
        refine o_iconst (v := (1 : Int32)) X8 at_112 rfl 113 rfl ?_
        refine o_icmpLe X8 at_113 132 116 (by decide) (by decide) rfl (fun q => by exfalso; exact absurd q (by decide)) ?_
        intro hc113
        refine o_aloadN X8 at_116 rfl rfl 117 rfl ?_
        refine o_iloadN X8 at_117 rfl 118 rfl ?_
        refine o_iconst (v := (1 : Int32)) X8 at_118 rfl 119 rfl ?_
        refine o_iadd X8 at_119 120 rfl ?_
        refine o_baloadB X8 H_J33 0 rfl at_120 1 rfl t1 rfl 121 rfl ?_
        refine o_iload X8 at_121 rfl 123 rfl ?_
        refine o_iconst (v := (2 : Int32)) X8 at_123 rfl 124 rfl ?_
        refine o_isub X8 at_124 125 rfl ?_
        refine o_callS X8 at_125 (rest := [(.int t1), (.int ((961 : Int32) + (t0 * (31 : Int32))))]) (c_pow l Z a0 hw [] n0 _ X8.size ((2 : Int32) - (2 : Int32)) ) (hw _ (List.mem_of_getElem? (i := 7) rfl)) (hw _ (List.mem_of_getElem? (i := 8) rfl)) (hw _ (List.mem_of_getElem? (i := 9) rfl)) (hw _ (List.mem_of_getElem? (i := 10) rfl)) (by decide) 2 (by decide) (by decide) rfl [(.int ((2 : Int32) - (2 : Int32)))] rfl pd_2 rfl rfl (Nat.le_of_eq rfl) 1 4 rfl rfl (by decide) (by decide) 128 rfl ?_
        rintro _ T9 _ X9 ⟨rfl, rfl⟩
        rw [show (f_pow ((2 : Int32) - (2 : Int32))) = (1 : Int32) from rfl]
        show OE p e room_1 below s n0 Q' T9 (mkF m 128 #[.val (.int xb), .val (.int xp), .val (.ref xt), .val (.int (0 : Int32)), .val (.int (2 : Int32)), .val (.int (2 : Int32)), .val (.int (f_fin (((31 : Int32) * (((31 : Int32) * (1 : Int32)) + t0)) + t1))), .val (.int ((f_fin (((31 : Int32) * (((31 : Int32) * (1 : Int32)) + t0)) + t1)) ^^^ (XT.ushr (f_fin (((31 : Int32) * (((31 : Int32) * (1 : Int32)) + t0)) + t1)) (16 : Int32)))), .val (.int (((31 : Int32) * (((31 : Int32) * (1 : Int32)) + t0)) + t1)), .unset] [(.int (1 : Int32)), (.int t1), (.int ((961 : Int32) + (t0 * (31 : Int32))))])
        refine o_imul X9 at_128 129 rfl ?_
        refine o_goto X9 at_129 133 (by decide) (by decide) ?_
        refine o_iadd X9 at_133 134 rfl ?_
        refine o_iload X9 at_134 rfl 136 rfl ?_
        refine o_iconst (v := (2 : Int32)) X9 at_136 rfl 137 rfl ?_
        refine o_icmpLe X9 at_137 156 140 (by decide) (by decide) rfl ?_ (fun q => by exfalso; exact absurd q (by decide))
        intro hc137
        refine o_iconst (v := (0 : Int32)) X9 at_156 rfl 157 rfl ?_
        refine o_iadd X9 at_157 158 rfl ?_
        refine o_iload X9 at_158 rfl 160 rfl ?_
        refine o_iconst (v := (3 : Int32)) X9 at_160 rfl 161 rfl ?_
        refine o_icmpLe X9 at_161 180 164 (by decide) (by decide) rfl ?_ (fun q => by exfalso; exact absurd q (by decide))
        intro hc161
        refine o_iconst (v := (0 : Int32)) X9 at_180 rfl 181 rfl ?_
        refine o_iadd X9 at_181 182 rfl ?_
        refine o_istore X9 at_182 #[.val (.int xb), .val (.int xp), .val (.ref xt), .val (.int (0 : Int32)), .val (.int (2 : Int32)), .val (.int (2 : Int32)), .val (.int (f_fin (((31 : Int32) * (((31 : Int32) * (1 : Int32)) + t0)) + t1))), .val (.int ((f_fin (((31 : Int32) * (((31 : Int32) * (1 : Int32)) + t0)) + t1)) ^^^ (XT.ushr (f_fin (((31 : Int32) * (((31 : Int32) * (1 : Int32)) + t0)) + t1)) (16 : Int32)))), .val (.int (((31 : Int32) * (((31 : Int32) * (1 : Int32)) + t0)) + t1)), .val (.int (((((961 : Int32) + (t0 * (31 : Int32))) + (t1 * (1 : Int32))) + (0 : Int32)) + (0 : Int32)))] rfl 184 rfl ?_
        refine o_iload X9 at_184 rfl 186 rfl ?_
        refine o_iload X9 at_186 rfl 188 rfl ?_
        refine o_icmpNe X9 at_188 195 191 (by decide) (by decide) rfl (fun q => by exfalso; exact q (by grind)) ?_
        intro hc188
        refine o_iconst (v := (1 : Int32)) X9 at_191 rfl 192 rfl ?_
        refine o_goto X9 at_192 196 (by decide) (by decide) ?_
        exact o_retZ X9 at_196 (by decide) (by decide) (hQ _ _ rfl)
      · rw [hv]
        refine o_iloadN X_J33 at_52 rfl 53 rfl ?_
        refine o_iload X_J33 at_53 rfl 55 rfl ?_
        refine o_iadd X_J33 at_55 56 rfl ?_
        refine o_istore X_J33 at_56 #[.val (.int xb), .val (.int xp), .val (.ref xt), .val (.int (0 : Int32)), .val (.int (3 : Int32)), .val (.int ((0 : Int32) + (3 : Int32))), .unset, .unset, .unset, .unset] rfl 58 rfl ?_
        rw [show ((0 : Int32) + (3 : Int32)) = (3 : Int32) from rfl]
        refine o_aloadN X_J33 at_58 rfl rfl 59 rfl ?_
        refine o_iloadN X_J33 at_59 rfl 60 rfl ?_
        refine o_iload X_J33 at_60 rfl 62 rfl ?_
        refine o_callS X_J33 at_62 (rest := []) (c_hash_0_3 l Z a0 hw [] n0 _ X_J33.size xt t0 t1 t2 t3 [] H_J33) (hw _ (List.mem_of_getElem? (i := 1) rfl)) (hw _ (List.mem_of_getElem? (i := 2) rfl)) (hw _ (List.mem_of_getElem? (i := 3) rfl)) (hw _ (List.mem_of_getElem? (i := 4) rfl)) (by decide) 0 (by decide) (by decide) rfl [(.ref xt), (.int (0 : Int32)), (.int (3 : Int32))] rfl pd_1 rfl rfl (Nat.le_of_eq rfl) 1 4 rfl rfl (by decide) (by decide) 65 rfl ?_
        rintro _ T10 _ X10 ⟨rfl, rfl⟩
        show OE p e room_1 below s n0 Q' T10 (mkF m 65 #[.val (.int xb), .val (.int xp), .val (.ref xt), .val (.int (0 : Int32)), .val (.int (3 : Int32)), .val (.int (3 : Int32)), .unset, .unset, .unset, .unset] [(.int (f_fin (((31 : Int32) * (((31 : Int32) * (((31 : Int32) * (1 : Int32)) + t0)) + t1)) + t2)))])
        refine o_istore X10 at_65 #[.val (.int xb), .val (.int xp), .val (.ref xt), .val (.int (0 : Int32)), .val (.int (3 : Int32)), .val (.int (3 : Int32)), .val (.int (f_fin (((31 : Int32) * (((31 : Int32) * (((31 : Int32) * (1 : Int32)) + t0)) + t1)) + t2))), .unset, .unset, .unset] rfl 67 rfl ?_
        refine o_iload X10 at_67 rfl 69 rfl ?_
        refine o_iload X10 at_69 rfl 71 rfl ?_
        refine o_bipush (v := (16 : Int32)) X10 at_71 rfl 73 rfl ?_
        refine o_iushr X10 at_73 74 rfl ?_
        refine o_ixor X10 at_74 75 rfl ?_
        refine o_istore X10 at_75 #[.val (.int xb), .val (.int xp), .val (.ref xt), .val (.int (0 : Int32)), .val (.int (3 : Int32)), .val (.int (3 : Int32)), .val (.int (f_fin (((31 : Int32) * (((31 : Int32) * (((31 : Int32) * (1 : Int32)) + t0)) + t1)) + t2))), .val (.int ((f_fin (((31 : Int32) * (((31 : Int32) * (((31 : Int32) * (1 : Int32)) + t0)) + t1)) + t2)) ^^^ (XT.ushr (f_fin (((31 : Int32) * (((31 : Int32) * (((31 : Int32) * (1 : Int32)) + t0)) + t1)) + t2)) (16 : Int32)))), .unset, .unset] rfl 77 rfl ?_
        refine o_iload X10 at_77 rfl 79 rfl ?_
        refine o_ldc (v := (340573321 : Int32)) X10 at_79 (hw _ (List.mem_of_getElem? (i := 6) rfl)) 81 rfl ?_
        refine o_imul X10 at_81 82 rfl ?_
        refine o_istore X10 at_82 #[.val (.int xb), .val (.int xp), .val (.ref xt), .val (.int (0 : Int32)), .val (.int (3 : Int32)), .val (.int (3 : Int32)), .val (.int (f_fin (((31 : Int32) * (((31 : Int32) * (((31 : Int32) * (1 : Int32)) + t0)) + t1)) + t2))), .val (.int ((f_fin (((31 : Int32) * (((31 : Int32) * (((31 : Int32) * (1 : Int32)) + t0)) + t1)) + t2)) ^^^ (XT.ushr (f_fin (((31 : Int32) * (((31 : Int32) * (((31 : Int32) * (1 : Int32)) + t0)) + t1)) + t2)) (16 : Int32)))), .val (.int (((f_fin (((31 : Int32) * (((31 : Int32) * (((31 : Int32) * (1 : Int32)) + t0)) + t1)) + t2)) ^^^ (XT.ushr (f_fin (((31 : Int32) * (((31 : Int32) * (((31 : Int32) * (1 : Int32)) + t0)) + t1)) + t2)) (16 : Int32))) * (340573321 : Int32))), .unset] rfl 84 rfl ?_
        rw [show (((f_fin (((31 : Int32) * (((31 : Int32) * (((31 : Int32) * (1 : Int32)) + t0)) + t1)) + t2)) ^^^ (XT.ushr (f_fin (((31 : Int32) * (((31 : Int32) * (((31 : Int32) * (1 : Int32)) + t0)) + t1)) + t2)) (16 : Int32))) * (340573321 : Int32)) = (((31 : Int32) * (((31 : Int32) * (((31 : Int32) * (1 : Int32)) + t0)) + t1)) + t2) from v_poly _]
        refine o_iload X10 at_84 rfl 86 rfl ?_
        refine o_callS X10 at_86 (rest := []) (c_pow l Z a0 hw [] n0 _ X10.size (3 : Int32) ) (hw _ (List.mem_of_getElem? (i := 7) rfl)) (hw _ (List.mem_of_getElem? (i := 8) rfl)) (hw _ (List.mem_of_getElem? (i := 9) rfl)) (hw _ (List.mem_of_getElem? (i := 10) rfl)) (by decide) 0 (by decide) (by decide) rfl [(.int (3 : Int32))] rfl pd_2 rfl rfl (Nat.le_of_eq rfl) 1 4 rfl rfl (by decide) (by decide) 89 rfl ?_
        rintro _ T11 _ X11 ⟨rfl, rfl⟩
        rw [show (f_pow (3 : Int32)) = (29791 : Int32) from rfl]
        show OE p e room_1 below s n0 Q' T11 (mkF m 89 #[.val (.int xb), .val (.int xp), .val (.ref xt), .val (.int (0 : Int32)), .val (.int (3 : Int32)), .val (.int (3 : Int32)), .val (.int (f_fin (((31 : Int32) * (((31 : Int32) * (((31 : Int32) * (1 : Int32)) + t0)) + t1)) + t2))), .val (.int ((f_fin (((31 : Int32) * (((31 : Int32) * (((31 : Int32) * (1 : Int32)) + t0)) + t1)) + t2)) ^^^ (XT.ushr (f_fin (((31 : Int32) * (((31 : Int32) * (((31 : Int32) * (1 : Int32)) + t0)) + t1)) + t2)) (16 : Int32)))), .val (.int (((31 : Int32) * (((31 : Int32) * (((31 : Int32) * (1 : Int32)) + t0)) + t1)) + t2)), .unset] [(.int (29791 : Int32))])
        refine o_iload X11 at_89 rfl 91 rfl ?_
        refine o_ifLe X11 at_91 108 94 (by decide) (by decide) rfl (fun q => by exfalso; exact absurd q (by decide)) ?_
        intro hc91
        refine o_aloadN X11 at_94 rfl rfl 95 rfl ?_
        refine o_iloadN X11 at_95 rfl 96 rfl ?_
        refine o_baloadB X11 H_J33 0 rfl at_96 0 rfl t0 rfl 97 rfl ?_
        refine o_iload X11 at_97 rfl 99 rfl ?_
        refine o_iconst (v := (1 : Int32)) X11 at_99 rfl 100 rfl ?_
        refine o_isub X11 at_100 101 rfl ?_
        refine o_callS X11 at_101 (rest := [(.int t0), (.int (29791 : Int32))]) (c_pow l Z a0 hw [] n0 _ X11.size ((3 : Int32) - (1 : Int32)) ) (hw _ (List.mem_of_getElem? (i := 7) rfl)) (hw _ (List.mem_of_getElem? (i := 8) rfl)) (hw _ (List.mem_of_getElem? (i := 9) rfl)) (hw _ (List.mem_of_getElem? (i := 10) rfl)) (by decide) 2 (by decide) (by decide) rfl [(.int ((3 : Int32) - (1 : Int32)))] rfl pd_2 rfl rfl (Nat.le_of_eq rfl) 1 4 rfl rfl (by decide) (by decide) 104 rfl ?_
        rintro _ T12 _ X12 ⟨rfl, rfl⟩
        rw [show (f_pow ((3 : Int32) - (1 : Int32))) = (961 : Int32) from rfl]
        show OE p e room_1 below s n0 Q' T12 (mkF m 104 #[.val (.int xb), .val (.int xp), .val (.ref xt), .val (.int (0 : Int32)), .val (.int (3 : Int32)), .val (.int (3 : Int32)), .val (.int (f_fin (((31 : Int32) * (((31 : Int32) * (((31 : Int32) * (1 : Int32)) + t0)) + t1)) + t2))), .val (.int ((f_fin (((31 : Int32) * (((31 : Int32) * (((31 : Int32) * (1 : Int32)) + t0)) + t1)) + t2)) ^^^ (XT.ushr (f_fin (((31 : Int32) * (((31 : Int32) * (((31 : Int32) * (1 : Int32)) + t0)) + t1)) + t2)) (16 : Int32)))), .val (.int (((31 : Int32) * (((31 : Int32) * (((31 : Int32) * (1 : Int32)) + t0)) + t1)) + t2)), .unset] [(.int (961 : Int32)), (.int t0), (.int (29791 : Int32))])
        refine o_imul X12 at_104 105 rfl ?_
        refine o_goto X12 at_105 109 (by decide) (by decide) ?_
        refine o_iadd X12 at_109 110 rfl ?_
        refine o_iload X12 at_110 rfl 112 rfl ?_
        refine o_iconst (v := (1 : Int32)) X12 at_112 rfl 113 rfl ?_
        refine o_icmpLe X12 at_113 132 116 (by decide) (by decide) rfl (fun q => by exfalso; exact absurd q (by decide)) ?_
        intro hc113
        refine o_aloadN X12 at_116 rfl rfl 117 rfl ?_
        refine o_iloadN X12 at_117 rfl 118 rfl ?_
        refine o_iconst (v := (1 : Int32)) X12 at_118 rfl 119 rfl ?_
        refine o_iadd X12 at_119 120 rfl ?_
        refine o_baloadB X12 H_J33 0 rfl at_120 1 rfl t1 rfl 121 rfl ?_
        refine o_iload X12 at_121 rfl 123 rfl ?_
        refine o_iconst (v := (2 : Int32)) X12 at_123 rfl 124 rfl ?_
        refine o_isub X12 at_124 125 rfl ?_
        refine o_callS X12 at_125 (rest := [(.int t1), (.int ((29791 : Int32) + (t0 * (961 : Int32))))]) (c_pow l Z a0 hw [] n0 _ X12.size ((3 : Int32) - (2 : Int32)) ) (hw _ (List.mem_of_getElem? (i := 7) rfl)) (hw _ (List.mem_of_getElem? (i := 8) rfl)) (hw _ (List.mem_of_getElem? (i := 9) rfl)) (hw _ (List.mem_of_getElem? (i := 10) rfl)) (by decide) 2 (by decide) (by decide) rfl [(.int ((3 : Int32) - (2 : Int32)))] rfl pd_2 rfl rfl (Nat.le_of_eq rfl) 1 4 rfl rfl (by decide) (by decide) 128 rfl ?_
        rintro _ T13 _ X13 ⟨rfl, rfl⟩
        rw [show (f_pow ((3 : Int32) - (2 : Int32))) = (31 : Int32) from rfl]
        show OE p e room_1 below s n0 Q' T13 (mkF m 128 #[.val (.int xb), .val (.int xp), .val (.ref xt), .val (.int (0 : Int32)), .val (.int (3 : Int32)), .val (.int (3 : Int32)), .val (.int (f_fin (((31 : Int32) * (((31 : Int32) * (((31 : Int32) * (1 : Int32)) + t0)) + t1)) + t2))), .val (.int ((f_fin (((31 : Int32) * (((31 : Int32) * (((31 : Int32) * (1 : Int32)) + t0)) + t1)) + t2)) ^^^ (XT.ushr (f_fin (((31 : Int32) * (((31 : Int32) * (((31 : Int32) * (1 : Int32)) + t0)) + t1)) + t2)) (16 : Int32)))), .val (.int (((31 : Int32) * (((31 : Int32) * (((31 : Int32) * (1 : Int32)) + t0)) + t1)) + t2)), .unset] [(.int (31 : Int32)), (.int t1), (.int ((29791 : Int32) + (t0 * (961 : Int32))))])
        refine o_imul X13 at_128 129 rfl ?_
        refine o_goto X13 at_129 133 (by decide) (by decide) ?_
        refine o_iadd X13 at_133 134 rfl ?_
        refine o_iload X13 at_134 rfl 136 rfl ?_
        refine o_iconst (v := (2 : Int32)) X13 at_136 rfl 137 rfl ?_
        refine o_icmpLe X13 at_137 156 140 (by decide) (by decide) rfl (fun q => by exfalso; exact absurd q (by decide)) ?_
        intro hc137
        refine o_aloadN X13 at_140 rfl rfl 141 rfl ?_
        refine o_iloadN X13 at_141 rfl 142 rfl ?_
        refine o_iconst (v := (2 : Int32)) X13 at_142 rfl 143 rfl ?_
        refine o_iadd X13 at_143 144 rfl ?_
        refine o_baloadB X13 H_J33 0 rfl at_144 2 rfl t2 rfl 145 rfl ?_
        refine o_iload X13 at_145 rfl 147 rfl ?_
        refine o_iconst (v := (3 : Int32)) X13 at_147 rfl 148 rfl ?_
        refine o_isub X13 at_148 149 rfl ?_
        refine o_callS X13 at_149 (rest := [(.int t2), (.int (((29791 : Int32) + (t0 * (961 : Int32))) + (t1 * (31 : Int32))))]) (c_pow l Z a0 hw [] n0 _ X13.size ((3 : Int32) - (3 : Int32)) ) (hw _ (List.mem_of_getElem? (i := 7) rfl)) (hw _ (List.mem_of_getElem? (i := 8) rfl)) (hw _ (List.mem_of_getElem? (i := 9) rfl)) (hw _ (List.mem_of_getElem? (i := 10) rfl)) (by decide) 2 (by decide) (by decide) rfl [(.int ((3 : Int32) - (3 : Int32)))] rfl pd_2 rfl rfl (Nat.le_of_eq rfl) 1 4 rfl rfl (by decide) (by decide) 152 rfl ?_
        rintro _ T14 _ X14 ⟨rfl, rfl⟩
        rw [show (f_pow ((3 : Int32) - (3 : Int32))) = (1 : Int32) from rfl]
        show OE p e room_1 below s n0 Q' T14 (mkF m 152 #[.val (.int xb), .val (.int xp), .val (.ref xt), .val (.int (0 : Int32)), .val (.int (3 : Int32)), .val (.int (3 : Int32)), .val (.int (f_fin (((31 : Int32) * (((31 : Int32) * (((31 : Int32) * (1 : Int32)) + t0)) + t1)) + t2))), .val (.int ((f_fin (((31 : Int32) * (((31 : Int32) * (((31 : Int32) * (1 : Int32)) + t0)) + t1)) + t2)) ^^^ (XT.ushr (f_fin (((31 : Int32) * (((31 : Int32) * (((31 : Int32) * (1 : Int32)) + t0)) + t1)) + t2)) (16 : Int32)))), .val (.int (((31 : Int32) * (((31 : Int32) * (((31 : Int32) * (1 : Int32)) + t0)) + t1)) + t2)), .unset] [(.int (1 : Int32)), (.int t2), (.int (((29791 : Int32) + (t0 * (961 : Int32))) + (t1 * (31 : Int32))))])
        refine o_imul X14 at_152 153 rfl ?_
        refine o_goto X14 at_153 157 (by decide) (by decide) ?_
        refine o_iadd X14 at_157 158 rfl ?_
        refine o_iload X14 at_158 rfl 160 rfl ?_
        refine o_iconst (v := (3 : Int32)) X14 at_160 rfl 161 rfl ?_
        refine o_icmpLe X14 at_161 180 164 (by decide) (by decide) rfl ?_ (fun q => by exfalso; exact absurd q (by decide))
        intro hc161
        refine o_iconst (v := (0 : Int32)) X14 at_180 rfl 181 rfl ?_
        refine o_iadd X14 at_181 182 rfl ?_
        refine o_istore X14 at_182 #[.val (.int xb), .val (.int xp), .val (.ref xt), .val (.int (0 : Int32)), .val (.int (3 : Int32)), .val (.int (3 : Int32)), .val (.int (f_fin (((31 : Int32) * (((31 : Int32) * (((31 : Int32) * (1 : Int32)) + t0)) + t1)) + t2))), .val (.int ((f_fin (((31 : Int32) * (((31 : Int32) * (((31 : Int32) * (1 : Int32)) + t0)) + t1)) + t2)) ^^^ (XT.ushr (f_fin (((31 : Int32) * (((31 : Int32) * (((31 : Int32) * (1 : Int32)) + t0)) + t1)) + t2)) (16 : Int32)))), .val (.int (((31 : Int32) * (((31 : Int32) * (((31 : Int32) * (1 : Int32)) + t0)) + t1)) + t2)), .val (.int (((((29791 : Int32) + (t0 * (961 : Int32))) + (t1 * (31 : Int32))) + (t2 * (1 : Int32))) + (0 : Int32)))] rfl 184 rfl ?_
        refine o_iload X14 at_184 rfl 186 rfl ?_
        refine o_iload X14 at_186 rfl 188 rfl ?_
        refine o_icmpNe X14 at_188 195 191 (by decide) (by decide) rfl (fun q => by exfalso; exact q (by grind)) ?_
        intro hc188
        refine o_iconst (v := (1 : Int32)) X14 at_191 rfl 192 rfl ?_
        refine o_goto X14 at_192 196 (by decide) (by decide) ?_
        exact o_retZ X14 at_196 (by decide) (by decide) (hQ _ _ rfl)
      · rw [hv]
        refine o_iloadN X_J33 at_52 rfl 53 rfl ?_
        refine o_iload X_J33 at_53 rfl 55 rfl ?_
        refine o_iadd X_J33 at_55 56 rfl ?_
        refine o_istore X_J33 at_56 #[.val (.int xb), .val (.int xp), .val (.ref xt), .val (.int (0 : Int32)), .val (.int (4 : Int32)), .val (.int ((0 : Int32) + (4 : Int32))), .unset, .unset, .unset, .unset] rfl 58 rfl ?_
        rw [show ((0 : Int32) + (4 : Int32)) = (4 : Int32) from rfl]
        refine o_aloadN X_J33 at_58 rfl rfl 59 rfl ?_
        refine o_iloadN X_J33 at_59 rfl 60 rfl ?_
        refine o_iload X_J33 at_60 rfl 62 rfl ?_
        refine o_callS X_J33 at_62 (rest := []) (c_hash_0_4 l Z a0 hw [] n0 _ X_J33.size xt t0 t1 t2 t3 [] H_J33) (hw _ (List.mem_of_getElem? (i := 1) rfl)) (hw _ (List.mem_of_getElem? (i := 2) rfl)) (hw _ (List.mem_of_getElem? (i := 3) rfl)) (hw _ (List.mem_of_getElem? (i := 4) rfl)) (by decide) 0 (by decide) (by decide) rfl [(.ref xt), (.int (0 : Int32)), (.int (4 : Int32))] rfl pd_1 rfl rfl (Nat.le_of_eq rfl) 1 4 rfl rfl (by decide) (by decide) 65 rfl ?_
        rintro _ T15 _ X15 ⟨rfl, rfl⟩
        show OE p e room_1 below s n0 Q' T15 (mkF m 65 #[.val (.int xb), .val (.int xp), .val (.ref xt), .val (.int (0 : Int32)), .val (.int (4 : Int32)), .val (.int (4 : Int32)), .unset, .unset, .unset, .unset] [(.int (f_fin (((31 : Int32) * (((31 : Int32) * (((31 : Int32) * (((31 : Int32) * (1 : Int32)) + t0)) + t1)) + t2)) + t3)))])
        refine o_istore X15 at_65 #[.val (.int xb), .val (.int xp), .val (.ref xt), .val (.int (0 : Int32)), .val (.int (4 : Int32)), .val (.int (4 : Int32)), .val (.int (f_fin (((31 : Int32) * (((31 : Int32) * (((31 : Int32) * (((31 : Int32) * (1 : Int32)) + t0)) + t1)) + t2)) + t3))), .unset, .unset, .unset] rfl 67 rfl ?_
        refine o_iload X15 at_67 rfl 69 rfl ?_
        refine o_iload X15 at_69 rfl 71 rfl ?_
        refine o_bipush (v := (16 : Int32)) X15 at_71 rfl 73 rfl ?_
        refine o_iushr X15 at_73 74 rfl ?_
        refine o_ixor X15 at_74 75 rfl ?_
        refine o_istore X15 at_75 #[.val (.int xb), .val (.int xp), .val (.ref xt), .val (.int (0 : Int32)), .val (.int (4 : Int32)), .val (.int (4 : Int32)), .val (.int (f_fin (((31 : Int32) * (((31 : Int32) * (((31 : Int32) * (((31 : Int32) * (1 : Int32)) + t0)) + t1)) + t2)) + t3))), .val (.int ((f_fin (((31 : Int32) * (((31 : Int32) * (((31 : Int32) * (((31 : Int32) * (1 : Int32)) + t0)) + t1)) + t2)) + t3)) ^^^ (XT.ushr (f_fin (((31 : Int32) * (((31 : Int32) * (((31 : Int32) * (((31 : Int32) * (1 : Int32)) + t0)) + t1)) + t2)) + t3)) (16 : Int32)))), .unset, .unset] rfl 77 rfl ?_
        refine o_iload X15 at_77 rfl 79 rfl ?_
        refine o_ldc (v := (340573321 : Int32)) X15 at_79 (hw _ (List.mem_of_getElem? (i := 6) rfl)) 81 rfl ?_
        refine o_imul X15 at_81 82 rfl ?_
        refine o_istore X15 at_82 #[.val (.int xb), .val (.int xp), .val (.ref xt), .val (.int (0 : Int32)), .val (.int (4 : Int32)), .val (.int (4 : Int32)), .val (.int (f_fin (((31 : Int32) * (((31 : Int32) * (((31 : Int32) * (((31 : Int32) * (1 : Int32)) + t0)) + t1)) + t2)) + t3))), .val (.int ((f_fin (((31 : Int32) * (((31 : Int32) * (((31 : Int32) * (((31 : Int32) * (1 : Int32)) + t0)) + t1)) + t2)) + t3)) ^^^ (XT.ushr (f_fin (((31 : Int32) * (((31 : Int32) * (((31 : Int32) * (((31 : Int32) * (1 : Int32)) + t0)) + t1)) + t2)) + t3)) (16 : Int32)))), .val (.int (((f_fin (((31 : Int32) * (((31 : Int32) * (((31 : Int32) * (((31 : Int32) * (1 : Int32)) + t0)) + t1)) + t2)) + t3)) ^^^ (XT.ushr (f_fin (((31 : Int32) * (((31 : Int32) * (((31 : Int32) * (((31 : Int32) * (1 : Int32)) + t0)) + t1)) + t2)) + t3)) (16 : Int32))) * (340573321 : Int32))), .unset] rfl 84 rfl ?_
        rw [show (((f_fin (((31 : Int32) * (((31 : Int32) * (((31 : Int32) * (((31 : Int32) * (1 : Int32)) + t0)) + t1)) + t2)) + t3)) ^^^ (XT.ushr (f_fin (((31 : Int32) * (((31 : Int32) * (((31 : Int32) * (((31 : Int32) * (1 : Int32)) + t0)) + t1)) + t2)) + t3)) (16 : Int32))) * (340573321 : Int32)) = (((31 : Int32) * (((31 : Int32) * (((31 : Int32) * (((31 : Int32) * (1 : Int32)) + t0)) + t1)) + t2)) + t3) from v_poly _]
        refine o_iload X15 at_84 rfl 86 rfl ?_
        refine o_callS X15 at_86 (rest := []) (c_pow l Z a0 hw [] n0 _ X15.size (4 : Int32) ) (hw _ (List.mem_of_getElem? (i := 7) rfl)) (hw _ (List.mem_of_getElem? (i := 8) rfl)) (hw _ (List.mem_of_getElem? (i := 9) rfl)) (hw _ (List.mem_of_getElem? (i := 10) rfl)) (by decide) 0 (by decide) (by decide) rfl [(.int (4 : Int32))] rfl pd_2 rfl rfl (Nat.le_of_eq rfl) 1 4 rfl rfl (by decide) (by decide) 89 rfl ?_
        rintro _ T16 _ X16 ⟨rfl, rfl⟩
        rw [show (f_pow (4 : Int32)) = (923521 : Int32) from rfl]
        show OE p e room_1 below s n0 Q' T16 (mkF m 89 #[.val (.int xb), .val (.int xp), .val (.ref xt), .val (.int (0 : Int32)), .val (.int (4 : Int32)), .val (.int (4 : Int32)), .val (.int (f_fin (((31 : Int32) * (((31 : Int32) * (((31 : Int32) * (((31 : Int32) * (1 : Int32)) + t0)) + t1)) + t2)) + t3))), .val (.int ((f_fin (((31 : Int32) * (((31 : Int32) * (((31 : Int32) * (((31 : Int32) * (1 : Int32)) + t0)) + t1)) + t2)) + t3)) ^^^ (XT.ushr (f_fin (((31 : Int32) * (((31 : Int32) * (((31 : Int32) * (((31 : Int32) * (1 : Int32)) + t0)) + t1)) + t2)) + t3)) (16 : Int32)))), .val (.int (((31 : Int32) * (((31 : Int32) * (((31 : Int32) * (((31 : Int32) * (1 : Int32)) + t0)) + t1)) + t2)) + t3)), .unset] [(.int (923521 : Int32))])
        refine o_iload X16 at_89 rfl 91 rfl ?_
        refine o_ifLe X16 at_91 108 94 (by decide) (by decide) rfl (fun q => by exfalso; exact absurd q (by decide)) ?_
        intro hc91
        refine o_aloadN X16 at_94 rfl rfl 95 rfl ?_
        refine o_iloadN X16 at_95 rfl 96 rfl ?_
        refine o_baloadB X16 H_J33 0 rfl at_96 0 rfl t0 rfl 97 rfl ?_
        refine o_iload X16 at_97 rfl 99 rfl ?_
        refine o_iconst (v := (1 : Int32)) X16 at_99 rfl 100 rfl ?_
        refine o_isub X16 at_100 101 rfl ?_
        refine o_callS X16 at_101 (rest := [(.int t0), (.int (923521 : Int32))]) (c_pow l Z a0 hw [] n0 _ X16.size ((4 : Int32) - (1 : Int32)) ) (hw _ (List.mem_of_getElem? (i := 7) rfl)) (hw _ (List.mem_of_getElem? (i := 8) rfl)) (hw _ (List.mem_of_getElem? (i := 9) rfl)) (hw _ (List.mem_of_getElem? (i := 10) rfl)) (by decide) 2 (by decide) (by decide) rfl [(.int ((4 : Int32) - (1 : Int32)))] rfl pd_2 rfl rfl (Nat.le_of_eq rfl) 1 4 rfl rfl (by decide) (by decide) 104 rfl ?_
        rintro _ T17 _ X17 ⟨rfl, rfl⟩
        rw [show (f_pow ((4 : Int32) - (1 : Int32))) = (29791 : Int32) from rfl]
        show OE p e room_1 below s n0 Q' T17 (mkF m 104 #[.val (.int xb), .val (.int xp), .val (.ref xt), .val (.int (0 : Int32)), .val (.int (4 : Int32)), .val (.int (4 : Int32)), .val (.int (f_fin (((31 : Int32) * (((31 : Int32) * (((31 : Int32) * (((31 : Int32) * (1 : Int32)) + t0)) + t1)) + t2)) + t3))), .val (.int ((f_fin (((31 : Int32) * (((31 : Int32) * (((31 : Int32) * (((31 : Int32) * (1 : Int32)) + t0)) + t1)) + t2)) + t3)) ^^^ (XT.ushr (f_fin (((31 : Int32) * (((31 : Int32) * (((31 : Int32) * (((31 : Int32) * (1 : Int32)) + t0)) + t1)) + t2)) + t3)) (16 : Int32)))), .val (.int (((31 : Int32) * (((31 : Int32) * (((31 : Int32) * (((31 : Int32) * (1 : Int32)) + t0)) + t1)) + t2)) + t3)), .unset] [(.int (29791 : Int32)), (.int t0), (.int (923521 : Int32))])
        refine o_imul X17 at_104 105 rfl ?_
        refine o_goto X17 at_105 109 (by decide) (by decide) ?_
        refine o_iadd X17 at_109 110 rfl ?_
        refine o_iload X17 at_110 rfl 112 rfl ?_
        refine o_iconst (v := (1 : Int32)) X17 at_112 rfl 113 rfl ?_
        refine o_icmpLe X17 at_113 132 116 (by decide) (by decide) rfl (fun q => by exfalso; exact absurd q (by decide)) ?_
        intro hc113
        refine o_aloadN X17 at_116 rfl rfl 117 rfl ?_
        refine o_iloadN X17 at_117 rfl 118 rfl ?_
        refine o_iconst (v := (1 : Int32)) X17 at_118 rfl 119 rfl ?_
        refine o_iadd X17 at_119 120 rfl ?_
        refine o_baloadB X17 H_J33 0 rfl at_120 1 rfl t1 rfl 121 rfl ?_
        refine o_iload X17 at_121 rfl 123 rfl ?_
        refine o_iconst (v := (2 : Int32)) X17 at_123 rfl 124 rfl ?_
        refine o_isub X17 at_124 125 rfl ?_
        refine o_callS X17 at_125 (rest := [(.int t1), (.int ((923521 : Int32) + (t0 * (29791 : Int32))))]) (c_pow l Z a0 hw [] n0 _ X17.size ((4 : Int32) - (2 : Int32)) ) (hw _ (List.mem_of_getElem? (i := 7) rfl)) (hw _ (List.mem_of_getElem? (i := 8) rfl)) (hw _ (List.mem_of_getElem? (i := 9) rfl)) (hw _ (List.mem_of_getElem? (i := 10) rfl)) (by decide) 2 (by decide) (by decide) rfl [(.int ((4 : Int32) - (2 : Int32)))] rfl pd_2 rfl rfl (Nat.le_of_eq rfl) 1 4 rfl rfl (by decide) (by decide) 128 rfl ?_
        rintro _ T18 _ X18 ⟨rfl, rfl⟩
        rw [show (f_pow ((4 : Int32) - (2 : Int32))) = (961 : Int32) from rfl]
        show OE p e room_1 below s n0 Q' T18 (mkF m 128 #[.val (.int xb), .val (.int xp), .val (.ref xt), .val (.int (0 : Int32)), .val (.int (4 : Int32)), .val (.int (4 : Int32)), .val (.int (f_fin (((31 : Int32) * (((31 : Int32) * (((31 : Int32) * (((31 : Int32) * (1 : Int32)) + t0)) + t1)) + t2)) + t3))), .val (.int ((f_fin (((31 : Int32) * (((31 : Int32) * (((31 : Int32) * (((31 : Int32) * (1 : Int32)) + t0)) + t1)) + t2)) + t3)) ^^^ (XT.ushr (f_fin (((31 : Int32) * (((31 : Int32) * (((31 : Int32) * (((31 : Int32) * (1 : Int32)) + t0)) + t1)) + t2)) + t3)) (16 : Int32)))), .val (.int (((31 : Int32) * (((31 : Int32) * (((31 : Int32) * (((31 : Int32) * (1 : Int32)) + t0)) + t1)) + t2)) + t3)), .unset] [(.int (961 : Int32)), (.int t1), (.int ((923521 : Int32) + (t0 * (29791 : Int32))))])
        refine o_imul X18 at_128 129 rfl ?_
        refine o_goto X18 at_129 133 (by decide) (by decide) ?_
        refine o_iadd X18 at_133 134 rfl ?_
        refine o_iload X18 at_134 rfl 136 rfl ?_
        refine o_iconst (v := (2 : Int32)) X18 at_136 rfl 137 rfl ?_
        refine o_icmpLe X18 at_137 156 140 (by decide) (by decide) rfl (fun q => by exfalso; exact absurd q (by decide)) ?_
        intro hc137
        refine o_aloadN X18 at_140 rfl rfl 141 rfl ?_
        refine o_iloadN X18 at_141 rfl 142 rfl ?_
        refine o_iconst (v := (2 : Int32)) X18 at_142 rfl 143 rfl ?_
        refine o_iadd X18 at_143 144 rfl ?_
        refine o_baloadB X18 H_J33 0 rfl at_144 2 rfl t2 rfl 145 rfl ?_
        refine o_iload X18 at_145 rfl 147 rfl ?_
        refine o_iconst (v := (3 : Int32)) X18 at_147 rfl 148 rfl ?_
        refine o_isub X18 at_148 149 rfl ?_
        refine o_callS X18 at_149 (rest := [(.int t2), (.int (((923521 : Int32) + (t0 * (29791 : Int32))) + (t1 * (961 : Int32))))]) (c_pow l Z a0 hw [] n0 _ X18.size ((4 : Int32) - (3 : Int32)) ) (hw _ (List.mem_of_getElem? (i := 7) rfl)) (hw _ (List.mem_of_getElem? (i := 8) rfl)) (hw _ (List.mem_of_getElem? (i := 9) rfl)) (hw _ (List.mem_of_getElem? (i := 10) rfl)) (by decide) 2 (by decide) (by decide) rfl [(.int ((4 : Int32) - (3 : Int32)))] rfl pd_2 rfl rfl (Nat.le_of_eq rfl) 1 4 rfl rfl (by decide) (by decide) 152 rfl ?_
        rintro _ T19 _ X19 ⟨rfl, rfl⟩
        rw [show (f_pow ((4 : Int32) - (3 : Int32))) = (31 : Int32) from rfl]
        show OE p e room_1 below s n0 Q' T19 (mkF m 152 #[.val (.int xb), .val (.int xp), .val (.ref xt), .val (.int (0 : Int32)), .val (.int (4 : Int32)), .val (.int (4 : Int32)), .val (.int (f_fin (((31 : Int32) * (((31 : Int32) * (((31 : Int32) * (((31 : Int32) * (1 : Int32)) + t0)) + t1)) + t2)) + t3))), .val (.int ((f_fin (((31 : Int32) * (((31 : Int32) * (((31 : Int32) * (((31 : Int32) * (1 : Int32)) + t0)) + t1)) + t2)) + t3)) ^^^ (XT.ushr (f_fin (((31 : Int32) * (((31 : Int32) * (((31 : Int32) * (((31 : Int32) * (1 : Int32)) + t0)) + t1)) + t2)) + t3)) (16 : Int32)))), .val (.int (((31 : Int32) * (((31 : Int32) * (((31 : Int32) * (((31 : Int32) * (1 : Int32)) + t0)) + t1)) + t2)) + t3)), .unset] [(.int (31 : Int32)), (.int t2), (.int (((923521 : Int32) + (t0 * (29791 : Int32))) + (t1 * (961 : Int32))))])
        refine o_imul X19 at_152 153 rfl ?_
        refine o_goto X19 at_153 157 (by decide) (by decide) ?_
        refine o_iadd X19 at_157 158 rfl ?_
        refine o_iload X19 at_158 rfl 160 rfl ?_
        refine o_iconst (v := (3 : Int32)) X19 at_160 rfl 161 rfl ?_
        refine o_icmpLe X19 at_161 180 164 (by decide) (by decide) rfl (fun q => by exfalso; exact absurd q (by decide)) ?_
        intro hc161
        refine o_aloadN X19 at_164 rfl rfl 165 rfl ?_
        refine o_iloadN X19 at_165 rfl 166 rfl ?_
        refine o_iconst (v := (3 : Int32)) X19 at_166 rfl 167 rfl ?_
        refine o_iadd X19 at_167 168 rfl ?_
        refine o_baloadB X19 H_J33 0 rfl at_168 3 rfl t3 rfl 169 rfl ?_
        refine o_iload X19 at_169 rfl 171 rfl ?_
        refine o_iconst (v := (4 : Int32)) X19 at_171 rfl 172 rfl ?_
        refine o_isub X19 at_172 173 rfl ?_
        refine o_callS X19 at_173 (rest := [(.int t3), (.int ((((923521 : Int32) + (t0 * (29791 : Int32))) + (t1 * (961 : Int32))) + (t2 * (31 : Int32))))]) (c_pow l Z a0 hw [] n0 _ X19.size ((4 : Int32) - (4 : Int32)) ) (hw _ (List.mem_of_getElem? (i := 7) rfl)) (hw _ (List.mem_of_getElem? (i := 8) rfl)) (hw _ (List.mem_of_getElem? (i := 9) rfl)) (hw _ (List.mem_of_getElem? (i := 10) rfl)) (by decide) 2 (by decide) (by decide) rfl [(.int ((4 : Int32) - (4 : Int32)))] rfl pd_2 rfl rfl (Nat.le_of_eq rfl) 1 4 rfl rfl (by decide) (by decide) 176 rfl ?_
        rintro _ T20 _ X20 ⟨rfl, rfl⟩
        rw [show (f_pow ((4 : Int32) - (4 : Int32))) = (1 : Int32) from rfl]
        show OE p e room_1 below s n0 Q' T20 (mkF m 176 #[.val (.int xb), .val (.int xp), .val (.ref xt), .val (.int (0 : Int32)), .val (.int (4 : Int32)), .val (.int (4 : Int32)), .val (.int (f_fin (((31 : Int32) * (((31 : Int32) * (((31 : Int32) * (((31 : Int32) * (1 : Int32)) + t0)) + t1)) + t2)) + t3))), .val (.int ((f_fin (((31 : Int32) * (((31 : Int32) * (((31 : Int32) * (((31 : Int32) * (1 : Int32)) + t0)) + t1)) + t2)) + t3)) ^^^ (XT.ushr (f_fin (((31 : Int32) * (((31 : Int32) * (((31 : Int32) * (((31 : Int32) * (1 : Int32)) + t0)) + t1)) + t2)) + t3)) (16 : Int32)))), .val (.int (((31 : Int32) * (((31 : Int32) * (((31 : Int32) * (((31 : Int32) * (1 : Int32)) + t0)) + t1)) + t2)) + t3)), .unset] [(.int (1 : Int32)), (.int t3), (.int ((((923521 : Int32) + (t0 * (29791 : Int32))) + (t1 * (961 : Int32))) + (t2 * (31 : Int32))))])
        refine o_imul X20 at_176 177 rfl ?_
        refine o_goto X20 at_177 181 (by decide) (by decide) ?_
        refine o_iadd X20 at_181 182 rfl ?_
        refine o_istore X20 at_182 #[.val (.int xb), .val (.int xp), .val (.ref xt), .val (.int (0 : Int32)), .val (.int (4 : Int32)), .val (.int (4 : Int32)), .val (.int (f_fin (((31 : Int32) * (((31 : Int32) * (((31 : Int32) * (((31 : Int32) * (1 : Int32)) + t0)) + t1)) + t2)) + t3))), .val (.int ((f_fin (((31 : Int32) * (((31 : Int32) * (((31 : Int32) * (((31 : Int32) * (1 : Int32)) + t0)) + t1)) + t2)) + t3)) ^^^ (XT.ushr (f_fin (((31 : Int32) * (((31 : Int32) * (((31 : Int32) * (((31 : Int32) * (1 : Int32)) + t0)) + t1)) + t2)) + t3)) (16 : Int32)))), .val (.int (((31 : Int32) * (((31 : Int32) * (((31 : Int32) * (((31 : Int32) * (1 : Int32)) + t0)) + t1)) + t2)) + t3)), .val (.int (((((923521 : Int32) + (t0 * (29791 : Int32))) + (t1 * (961 : Int32))) + (t2 * (31 : Int32))) + (t3 * (1 : Int32))))] rfl 184 rfl ?_
        refine o_iload X20 at_184 rfl 186 rfl ?_
        refine o_iload X20 at_186 rfl 188 rfl ?_
        refine o_icmpNe X20 at_188 195 191 (by decide) (by decide) rfl (fun q => by exfalso; exact q (by grind)) ?_
        intro hc188
        refine o_iconst (v := (1 : Int32)) X20 at_191 rfl 192 rfl ?_
        refine o_goto X20 at_192 196 (by decide) (by decide) ?_
        exact o_retZ X20 at_196 (by decide) (by decide) (hQ _ _ rfl)
    · rw [hv]
      refine o_iloadN X_J33 at_40 rfl 41 rfl ?_
      refine o_iconst (v := (3 : Int32)) X_J33 at_41 rfl 42 rfl ?_
      refine o_iushr X_J33 at_42 43 rfl ?_
      refine o_bipush (v := (7 : Int32)) X_J33 at_43 rfl 45 rfl ?_
      refine o_iand X_J33 at_45 46 rfl ?_
      refine o_iconst (v := (5 : Int32)) X_J33 at_46 rfl 47 rfl ?_
      refine o_iloadN X_J33 at_47 rfl 48 rfl ?_
      refine o_isub X_J33 at_48 49 rfl ?_
      refine o_irem X_J33 at_49 (by decide) 50 rfl ?_
      refine o_istore X_J33 at_50 #[.val (.int xb), .val (.int xp), .val (.ref xt), .val (.int (1 : Int32)), .val (.int (((XT.ushr xp (3 : Int32)) &&& (7 : Int32)) % ((5 : Int32) - (1 : Int32)))), .unset, .unset, .unset, .unset, .unset] rfl 52 rfl ?_
      rcases v_l1 (XT.ushr xp 3) with hv | hv | hv | hv
      · rw [hv]
        refine o_iloadN X_J33 at_52 rfl 53 rfl ?_
        refine o_iload X_J33 at_53 rfl 55 rfl ?_
        refine o_iadd X_J33 at_55 56 rfl ?_
        refine o_istore X_J33 at_56 #[.val (.int xb), .val (.int xp), .val (.ref xt), .val (.int (1 : Int32)), .val (.int (0 : Int32)), .val (.int ((1 : Int32) + (0 : Int32))), .unset, .unset, .unset, .unset] rfl 58 rfl ?_
        rw [show ((1 : Int32) + (0 : Int32)) = (1 : Int32) from rfl]
        refine o_aloadN X_J33 at_58 rfl rfl 59 rfl ?_
        refine o_iloadN X_J33 at_59 rfl 60 rfl ?_
        refine o_iload X_J33 at_60 rfl 62 rfl ?_
        refine o_callS X_J33 at_62 (rest := []) (c_hash_1_0 l Z a0 hw [] n0 _ X_J33.size xt t0 t1 t2 t3 [] H_J33) (hw _ (List.mem_of_getElem? (i := 1) rfl)) (hw _ (List.mem_of_getElem? (i := 2) rfl)) (hw _ (List.mem_of_getElem? (i := 3) rfl)) (hw _ (List.mem_of_getElem? (i := 4) rfl)) (by decide) 0 (by decide) (by decide) rfl [(.ref xt), (.int (1 : Int32)), (.int (1 : Int32))] rfl pd_1 rfl rfl (Nat.le_of_eq rfl) 1 4 rfl rfl (by decide) (by decide) 65 rfl ?_
        rintro _ T21 _ X21 ⟨rfl, rfl⟩
        show OE p e room_1 below s n0 Q' T21 (mkF m 65 #[.val (.int xb), .val (.int xp), .val (.ref xt), .val (.int (1 : Int32)), .val (.int (0 : Int32)), .val (.int (1 : Int32)), .unset, .unset, .unset, .unset] [(.int (f_fin (1 : Int32)))])
        refine o_istore X21 at_65 #[.val (.int xb), .val (.int xp), .val (.ref xt), .val (.int (1 : Int32)), .val (.int (0 : Int32)), .val (.int (1 : Int32)), .val (.int (f_fin (1 : Int32))), .unset, .unset, .unset] rfl 67 rfl ?_
        refine o_iload X21 at_67 rfl 69 rfl ?_
        refine o_iload X21 at_69 rfl 71 rfl ?_
        refine o_bipush (v := (16 : Int32)) X21 at_71 rfl 73 rfl ?_
        refine o_iushr X21 at_73 74 rfl ?_
        refine o_ixor X21 at_74 75 rfl ?_
        refine o_istore X21 at_75 #[.val (.int xb), .val (.int xp), .val (.ref xt), .val (.int (1 : Int32)), .val (.int (0 : Int32)), .val (.int (1 : Int32)), .val (.int (f_fin (1 : Int32))), .val (.int ((f_fin (1 : Int32)) ^^^ (XT.ushr (f_fin (1 : Int32)) (16 : Int32)))), .unset, .unset] rfl 77 rfl ?_
        refine o_iload X21 at_77 rfl 79 rfl ?_
        refine o_ldc (v := (340573321 : Int32)) X21 at_79 (hw _ (List.mem_of_getElem? (i := 6) rfl)) 81 rfl ?_
        refine o_imul X21 at_81 82 rfl ?_
        refine o_istore X21 at_82 #[.val (.int xb), .val (.int xp), .val (.ref xt), .val (.int (1 : Int32)), .val (.int (0 : Int32)), .val (.int (1 : Int32)), .val (.int (f_fin (1 : Int32))), .val (.int ((f_fin (1 : Int32)) ^^^ (XT.ushr (f_fin (1 : Int32)) (16 : Int32)))), .val (.int (((f_fin (1 : Int32)) ^^^ (XT.ushr (f_fin (1 : Int32)) (16 : Int32))) * (340573321 : Int32))), .unset] rfl 84 rfl ?_
        rw [show (((f_fin (1 : Int32)) ^^^ (XT.ushr (f_fin (1 : Int32)) (16 : Int32))) * (340573321 : Int32)) = (1 : Int32) from v_poly _]
        refine o_iload X21 at_84 rfl 86 rfl ?_
        refine o_callS X21 at_86 (rest := []) (c_pow l Z a0 hw [] n0 _ X21.size (0 : Int32) ) (hw _ (List.mem_of_getElem? (i := 7) rfl)) (hw _ (List.mem_of_getElem? (i := 8) rfl)) (hw _ (List.mem_of_getElem? (i := 9) rfl)) (hw _ (List.mem_of_getElem? (i := 10) rfl)) (by decide) 0 (by decide) (by decide) rfl [(.int (0 : Int32))] rfl pd_2 rfl rfl (Nat.le_of_eq rfl) 1 4 rfl rfl (by decide) (by decide) 89 rfl ?_
        rintro _ T22 _ X22 ⟨rfl, rfl⟩
        rw [show (f_pow (0 : Int32)) = (1 : Int32) from rfl]
        show OE p e room_1 below s n0 Q' T22 (mkF m 89 #[.val (.int xb), .val (.int xp), .val (.ref xt), .val (.int (1 : Int32)), .val (.int (0 : Int32)), .val (.int (1 : Int32)), .val (.int (f_fin (1 : Int32))), .val (.int ((f_fin (1 : Int32)) ^^^ (XT.ushr (f_fin (1 : Int32)) (16 : Int32)))), .val (.int (1 : Int32)), .unset] [(.int (1 : Int32))])
        refine o_iload X22 at_89 rfl 91 rfl ?_
        refine o_ifLe X22 at_91 108 94 (by decide) (by decide) rfl ?_ (fun q => by exfalso; exact absurd q (by decide))
        intro hc91
        refine o_iconst (v := (0 : Int32)) X22 at_108 rfl 109 rfl ?_
        refine o_iadd X22 at_109 110 rfl ?_
        refine o_iload X22 at_110 rfl 112 rfl ?_
        refine o_iconst (v := (1 : Int32)) X22 at_112 rfl 113 rfl ?_
        refine o_icmpLe X22 at_113 132 116 (by decide) (by decide) rfl ?_ (fun q => by exfalso; exact absurd q (by decide))
        intro hc113
        refine o_iconst (v := (0 : Int32)) X22 at_132 rfl 133 rfl ?_
        refine o_iadd X22 at_133 134 rfl ?_
        refine o_iload X22 at_134 rfl 136 rfl ?_
        refine o_iconst (v := (2 : Int32)) X22 at_136 rfl 137 rfl ?_
        refine o_icmpLe X22 at_137 156 140 (by decide) (by decide) rfl ?_ (fun q => by exfalso; exact absurd q (by decide))
        intro hc137
        refine o_iconst (v := (0 : Int32)) X22 at_156 rfl 157 rfl ?_
        refine o_iadd X22 at_157 158 rfl ?_
        refine o_iload X22 at_158 rfl 160 rfl ?_
        refine o_iconst (v := (3 : Int32)) X22 at_160 rfl 161 rfl ?_
        refine o_icmpLe X22 at_161 180 164 (by decide) (by decide) rfl ?_ (fun q => by exfalso; exact absurd q (by decide))
        intro hc161
        refine o_iconst (v := (0 : Int32)) X22 at_180 rfl 181 rfl ?_
        refine o_iadd X22 at_181 182 rfl ?_
        refine o_istore X22 at_182 #[.val (.int xb), .val (.int xp), .val (.ref xt), .val (.int (1 : Int32)), .val (.int (0 : Int32)), .val (.int (1 : Int32)), .val (.int (f_fin (1 : Int32))), .val (.int ((f_fin (1 : Int32)) ^^^ (XT.ushr (f_fin (1 : Int32)) (16 : Int32)))), .val (.int (1 : Int32)), .val (.int (((((1 : Int32) + (0 : Int32)) + (0 : Int32)) + (0 : Int32)) + (0 : Int32)))] rfl 184 rfl ?_
        rw [show (((((1 : Int32) + (0 : Int32)) + (0 : Int32)) + (0 : Int32)) + (0 : Int32)) = (1 : Int32) from rfl]
        refine o_iload X22 at_184 rfl 186 rfl ?_
        refine o_iload X22 at_186 rfl 188 rfl ?_
        refine o_icmpNe X22 at_188 195 191 (by decide) (by decide) rfl (fun q => by exfalso; exact q (by grind)) ?_
        intro hc188
        refine o_iconst (v := (1 : Int32)) X22 at_191 rfl 192 rfl ?_
        refine o_goto X22 at_192 196 (by decide) (by decide) ?_
        exact o_retZ X22 at_196 (by decide) (by decide) (hQ _ _ rfl)
      · rw [hv]
        refine o_iloadN X_J33 at_52 rfl 53 rfl ?_
        refine o_iload X_J33 at_53 rfl 55 rfl ?_
        refine o_iadd X_J33 at_55 56 rfl ?_
        refine o_istore X_J33 at_56 #[.val (.int xb), .val (.int xp), .val (.ref xt), .val (.int (1 : Int32)), .val (.int (1 : Int32)), .val (.int ((1 : Int32) + (1 : Int32))), .unset, .unset, .unset, .unset] rfl 58 rfl ?_
        rw [show ((1 : Int32) + (1 : Int32)) = (2 : Int32) from rfl]
        refine o_aloadN X_J33 at_58 rfl rfl 59 rfl ?_
        refine o_iloadN X_J33 at_59 rfl 60 rfl ?_
        refine o_iload X_J33 at_60 rfl 62 rfl ?_
        refine o_callS X_J33 at_62 (rest := []) (c_hash_1_1 l Z a0 hw [] n0 _ X_J33.size xt t0 t1 t2 t3 [] H_J33) (hw _ (List.mem_of_getElem? (i := 1) rfl)) (hw _ (List.mem_of_getElem? (i := 2) rfl)) (hw _ (List.mem_of_getElem? (i := 3) rfl)) (hw _ (List.mem_of_getElem? (i := 4) rfl)) (by decide) 0 (by decide) (by decide) rfl [(.ref xt), (.int (1 : Int32)), (.int (2 : Int32))] rfl pd_1 rfl rfl (Nat.le_of_eq rfl) 1 4 rfl rfl (by decide) (by decide) 65 rfl ?_
        rintro _ T23 _ X23 ⟨rfl, rfl⟩
        show OE p e room_1 below s n0 Q' T23 (mkF m 65 #[.val (.int xb), .val (.int xp), .val (.ref xt), .val (.int (1 : Int32)), .val (.int (1 : Int32)), .val (.int (2 : Int32)), .unset, .unset, .unset, .unset] [(.int (f_fin (((31 : Int32) * (1 : Int32)) + t1)))])
        refine o_istore X23 at_65 #[.val (.int xb), .val (.int xp), .val (.ref xt), .val (.int (1 : Int32)), .val (.int (1 : Int32)), .val (.int (2 : Int32)), .val (.int (f_fin (((31 : Int32) * (1 : Int32)) + t1))), .unset, .unset, .unset] rfl 67 rfl ?_
        refine o_iload X23 at_67 rfl 69 rfl ?_
        refine o_iload X23 at_69 rfl 71 rfl ?_
        refine o_bipush (v := (16 : Int32)) X23 at_71 rfl 73 rfl ?_
        refine o_iushr X23 at_73 74 rfl ?_
        refine o_ixor X23 at_74 75 rfl ?_
        refine o_istore X23 at_75 #[.val (.int xb), .val (.int xp), .val (.ref xt), .val (.int (1 : Int32)), .val (.int (1 : Int32)), .val (.int (2 : Int32)), .val (.int (f_fin (((31 : Int32) * (1 : Int32)) + t1))), .val (.int ((f_fin (((31 : Int32) * (1 : Int32)) + t1)) ^^^ (XT.ushr (f_fin (((31 : Int32) * (1 : Int32)) + t1)) (16 : Int32)))), .unset, .unset] rfl 77 rfl ?_
        refine o_iload X23 at_77 rfl 79 rfl ?_
        refine o_ldc (v := (340573321 : Int32)) X23 at_79 (hw _ (List.mem_of_getElem? (i := 6) rfl)) 81 rfl ?_
        refine o_imul X23 at_81 82 rfl ?_
        refine o_istore X23 at_82 #[.val (.int xb), .val (.int xp), .val (.ref xt), .val (.int (1 : Int32)), .val (.int (1 : Int32)), .val (.int (2 : Int32)), .val (.int (f_fin (((31 : Int32) * (1 : Int32)) + t1))), .val (.int ((f_fin (((31 : Int32) * (1 : Int32)) + t1)) ^^^ (XT.ushr (f_fin (((31 : Int32) * (1 : Int32)) + t1)) (16 : Int32)))), .val (.int (((f_fin (((31 : Int32) * (1 : Int32)) + t1)) ^^^ (XT.ushr (f_fin (((31 : Int32) * (1 : Int32)) + t1)) (16 : Int32))) * (340573321 : Int32))), .unset] rfl 84 rfl ?_
        rw [show (((f_fin (((31 : Int32) * (1 : Int32)) + t1)) ^^^ (XT.ushr (f_fin (((31 : Int32) * (1 : Int32)) + t1)) (16 : Int32))) * (340573321 : Int32)) = (((31 : Int32) * (1 : Int32)) + t1) from v_poly _]
        refine o_iload X23 at_84 rfl 86 rfl ?_
        refine o_callS X23 at_86 (rest := []) (c_pow l Z a0 hw [] n0 _ X23.size (1 : Int32) ) (hw _ (List.mem_of_getElem? (i := 7) rfl)) (hw _ (List.mem_of_getElem? (i := 8) rfl)) (hw _ (List.mem_of_getElem? (i := 9) rfl)) (hw _ (List.mem_of_getElem? (i := 10) rfl)) (by decide) 0 (by decide) (by decide) rfl [(.int (1 : Int32))] rfl pd_2 rfl rfl (Nat.le_of_eq rfl) 1 4 rfl rfl (by decide) (by decide) 89 rfl ?_
        rintro _ T24 _ X24 ⟨rfl, rfl⟩
        rw [show (f_pow (1 : Int32)) = (31 : Int32) from rfl]
        show OE p e room_1 below s n0 Q' T24 (mkF m 89 #[.val (.int xb), .val (.int xp), .val (.ref xt), .val (.int (1 : Int32)), .val (.int (1 : Int32)), .val (.int (2 : Int32)), .val (.int (f_fin (((31 : Int32) * (1 : Int32)) + t1))), .val (.int ((f_fin (((31 : Int32) * (1 : Int32)) + t1)) ^^^ (XT.ushr (f_fin (((31 : Int32) * (1 : Int32)) + t1)) (16 : Int32)))), .val (.int (((31 : Int32) * (1 : Int32)) + t1)), .unset] [(.int (31 : Int32))])
        refine o_iload X24 at_89 rfl 91 rfl ?_
        refine o_ifLe X24 at_91 108 94 (by decide) (by decide) rfl (fun q => by exfalso; exact absurd q (by decide)) ?_
        intro hc91
        refine o_aloadN X24 at_94 rfl rfl 95 rfl ?_
        refine o_iloadN X24 at_95 rfl 96 rfl ?_
        refine o_baloadB X24 H_J33 0 rfl at_96 1 rfl t1 rfl 97 rfl ?_
        refine o_iload X24 at_97 rfl 99 rfl ?_
        refine o_iconst (v := (1 : Int32)) X24 at_99 rfl 100 rfl ?_
        refine o_isub X24 at_100 101 rfl ?_
        refine o_callS X24 at_101 (rest := [(.int t1), (.int (31 : Int32))]) (c_pow l Z a0 hw [] n0 _ X24.size ((1 : Int32) - (1 : Int32)) ) (hw _ (List.mem_of_getElem? (i := 7) rfl)) (hw _ (List.mem_of_getElem? (i := 8) rfl)) (hw _ (List.mem_of_getElem? (i := 9) rfl)) (hw _ (List.mem_of_getElem? (i := 10) rfl)) (by decide) 2 (by decide) (by decide) rfl [(.int ((1 : Int32) - (1 : Int32)))] rfl pd_2 rfl rfl (Nat.le_of_eq rfl) 1 4 rfl rfl (by decide) (by decide) 104 rfl ?_
        rintro _ T25 _ X25 ⟨rfl, rfl⟩
        rw [show (f_pow ((1 : Int32) - (1 : Int32))) = (1 : Int32) from rfl]
        show OE p e room_1 below s n0 Q' T25 (mkF m 104 #[.val (.int xb), .val (.int xp), .val (.ref xt), .val (.int (1 : Int32)), .val (.int (1 : Int32)), .val (.int (2 : Int32)), .val (.int (f_fin (((31 : Int32) * (1 : Int32)) + t1))), .val (.int ((f_fin (((31 : Int32) * (1 : Int32)) + t1)) ^^^ (XT.ushr (f_fin (((31 : Int32) * (1 : Int32)) + t1)) (16 : Int32)))), .val (.int (((31 : Int32) * (1 : Int32)) + t1)), .unset] [(.int (1 : Int32)), (.int t1), (.int (31 : Int32))])
        refine o_imul X25 at_104 105 rfl ?_
        refine o_goto X25 at_105 109 (by decide) (by decide) ?_
        refine o_iadd X25 at_109 110 rfl ?_
        refine o_iload X25 at_110 rfl 112 rfl ?_
        refine o_iconst (v := (1 : Int32)) X25 at_112 rfl 113 rfl ?_
        refine o_icmpLe X25 at_113 132 116 (by decide) (by decide) rfl ?_ (fun q => by exfalso; exact absurd q (by decide))
        intro hc113
        refine o_iconst (v := (0 : Int32)) X25 at_132 rfl 133 rfl ?_
        refine o_iadd X25 at_133 134 rfl ?_
        refine o_iload X25 at_134 rfl 136 rfl ?_
        refine o_iconst (v := (2 : Int32)) X25 at_136 rfl 137 rfl ?_
        refine o_icmpLe X25 at_137 156 140 (by decide) (by decide) rfl ?_ (fun q => by exfalso; exact absurd q (by decide))
        intro hc137
        refine o_iconst (v := (0 : Int32)) X25 at_156 rfl 157 rfl ?_
        refine o_iadd X25 at_157 158 rfl ?_
        refine o_iload X25 at_158 rfl 160 rfl ?_
        refine o_iconst (v := (3 : Int32)) X25 at_160 rfl 161 rfl ?_
        refine o_icmpLe X25 at_161 180 164 (by decide) (by decide) rfl ?_ (fun q => by exfalso; exact absurd q (by decide))
        intro hc161
        refine o_iconst (v := (0 : Int32)) X25 at_180 rfl 181 rfl ?_
        refine o_iadd X25 at_181 182 rfl ?_
        refine o_istore X25 at_182 #[.val (.int xb), .val (.int xp), .val (.ref xt), .val (.int (1 : Int32)), .val (.int (1 : Int32)), .val (.int (2 : Int32)), .val (.int (f_fin (((31 : Int32) * (1 : Int32)) + t1))), .val (.int ((f_fin (((31 : Int32) * (1 : Int32)) + t1)) ^^^ (XT.ushr (f_fin (((31 : Int32) * (1 : Int32)) + t1)) (16 : Int32)))), .val (.int (((31 : Int32) * (1 : Int32)) + t1)), .val (.int (((((31 : Int32) + (t1 * (1 : Int32))) + (0 : Int32)) + (0 : Int32)) + (0 : Int32)))] rfl 184 rfl ?_
        refine o_iload X25 at_184 rfl 186 rfl ?_
        refine o_iload X25 at_186 rfl 188 rfl ?_
        refine o_icmpNe X25 at_188 195 191 (by decide) (by decide) rfl (fun q => by exfalso; exact q (by grind)) ?_
        intro hc188
        refine o_iconst (v := (1 : Int32)) X25 at_191 rfl 192 rfl ?_
        refine o_goto X25 at_192 196 (by decide) (by decide) ?_
        exact o_retZ X25 at_196 (by decide) (by decide) (hQ _ _ rfl)
      · rw [hv]
        refine o_iloadN X_J33 at_52 rfl 53 rfl ?_
        refine o_iload X_J33 at_53 rfl 55 rfl ?_
        refine o_iadd X_J33 at_55 56 rfl ?_
        refine o_istore X_J33 at_56 #[.val (.int xb), .val (.int xp), .val (.ref xt), .val (.int (1 : Int32)), .val (.int (2 : Int32)), .val (.int ((1 : Int32) + (2 : Int32))), .unset, .unset, .unset, .unset] rfl 58 rfl ?_
        rw [show ((1 : Int32) + (2 : Int32)) = (3 : Int32) from rfl]
        refine o_aloadN X_J33 at_58 rfl rfl 59 rfl ?_
        refine o_iloadN X_J33 at_59 rfl 60 rfl ?_
        refine o_iload X_J33 at_60 rfl 62 rfl ?_
        refine o_callS X_J33 at_62 (rest := []) (c_hash_1_2 l Z a0 hw [] n0 _ X_J33.size xt t0 t1 t2 t3 [] H_J33) (hw _ (List.mem_of_getElem? (i := 1) rfl)) (hw _ (List.mem_of_getElem? (i := 2) rfl)) (hw _ (List.mem_of_getElem? (i := 3) rfl)) (hw _ (List.mem_of_getElem? (i := 4) rfl)) (by decide) 0 (by decide) (by decide) rfl [(.ref xt), (.int (1 : Int32)), (.int (3 : Int32))] rfl pd_1 rfl rfl (Nat.le_of_eq rfl) 1 4 rfl rfl (by decide) (by decide) 65 rfl ?_
        rintro _ T26 _ X26 ⟨rfl, rfl⟩
        show OE p e room_1 below s n0 Q' T26 (mkF m 65 #[.val (.int xb), .val (.int xp), .val (.ref xt), .val (.int (1 : Int32)), .val (.int (2 : Int32)), .val (.int (3 : Int32)), .unset, .unset, .unset, .unset] [(.int (f_fin (((31 : Int32) * (((31 : Int32) * (1 : Int32)) + t1)) + t2)))])
        refine o_istore X26 at_65 #[.val (.int xb), .val (.int xp), .val (.ref xt), .val (.int (1 : Int32)), .val (.int (2 : Int32)), .val (.int (3 : Int32)), .val (.int (f_fin (((31 : Int32) * (((31 : Int32) * (1 : Int32)) + t1)) + t2))), .unset, .unset, .unset] rfl 67 rfl ?_
        refine o_iload X26 at_67 rfl 69 rfl ?_
        refine o_iload X26 at_69 rfl 71 rfl ?_
        refine o_bipush (v := (16 : Int32)) X26 at_71 rfl 73 rfl ?_
        refine o_iushr X26 at_73 74 rfl ?_
        refine o_ixor X26 at_74 75 rfl ?_
        refine o_istore X26 at_75 #[.val (.int xb), .val (.int xp), .val (.ref xt), .val (.int (1 : Int32)), .val (.int (2 : Int32)), .val (.int (3 : Int32)), .val (.int (f_fin (((31 : Int32) * (((31 : Int32) * (1 : Int32)) + t1)) + t2))), .val (.int ((f_fin (((31 : Int32) * (((31 : Int32) * (1 : Int32)) + t1)) + t2)) ^^^ (XT.ushr (f_fin (((31 : Int32) * (((31 : Int32) * (1 : Int32)) + t1)) + t2)) (16 : Int32)))), .unset, .unset] rfl 77 rfl ?_
        refine o_iload X26 at_77 rfl 79 rfl ?_
        refine o_ldc (v := (340573321 : Int32)) X26 at_79 (hw _ (List.mem_of_getElem? (i := 6) rfl)) 81 rfl ?_
        refine o_imul X26 at_81 82 rfl ?_
        refine o_istore X26 at_82 #[.val (.int xb), .val (.int xp), .val (.ref xt), .val (.int (1 : Int32)), .val (.int (2 : Int32)), .val (.int (3 : Int32)), .val (.int (f_fin (((31 : Int32) * (((31 : Int32) * (1 : Int32)) + t1)) + t2))), .val (.int ((f_fin (((31 : Int32) * (((31 : Int32) * (1 : Int32)) + t1)) + t2)) ^^^ (XT.ushr (f_fin (((31 : Int32) * (((31 : Int32) * (1 : Int32)) + t1)) + t2)) (16 : Int32)))), .val (.int (((f_fin (((31 : Int32) * (((31 : Int32) * (1 : Int32)) + t1)) + t2)) ^^^ (XT.ushr (f_fin (((31 : Int32) * (((31 : Int32) * (1 : Int32)) + t1)) + t2)) (16 : Int32))) * (340573321 : Int32))), .unset] rfl 84 rfl ?_
        rw [show (((f_fin (((31 : Int32) * (((31 : Int32) * (1 : Int32)) + t1)) + t2)) ^^^ (XT.ushr (f_fin (((31 : Int32) * (((31 : Int32) * (1 : Int32)) + t1)) + t2)) (16 : Int32))) * (340573321 : Int32)) = (((31 : Int32) * (((31 : Int32) * (1 : Int32)) + t1)) + t2) from v_poly _]
        refine o_iload X26 at_84 rfl 86 rfl ?_
        refine o_callS X26 at_86 (rest := []) (c_pow l Z a0 hw [] n0 _ X26.size (2 : Int32) ) (hw _ (List.mem_of_getElem? (i := 7) rfl)) (hw _ (List.mem_of_getElem? (i := 8) rfl)) (hw _ (List.mem_of_getElem? (i := 9) rfl)) (hw _ (List.mem_of_getElem? (i := 10) rfl)) (by decide) 0 (by decide) (by decide) rfl [(.int (2 : Int32))] rfl pd_2 rfl rfl (Nat.le_of_eq rfl) 1 4 rfl rfl (by decide) (by decide) 89 rfl ?_
        rintro _ T27 _ X27 ⟨rfl, rfl⟩
        rw [show (f_pow (2 : Int32)) = (961 : Int32) from rfl]
        show OE p e room_1 below s n0 Q' T27 (mkF m 89 #[.val (.int xb), .val (.int xp), .val (.ref xt), .val (.int (1 : Int32)), .val (.int (2 : Int32)), .val (.int (3 : Int32)), .val (.int (f_fin (((31 : Int32) * (((31 : Int32) * (1 : Int32)) + t1)) + t2))), .val (.int ((f_fin (((31 : Int32) * (((31 : Int32) * (1 : Int32)) + t1)) + t2)) ^^^ (XT.ushr (f_fin (((31 : Int32) * (((31 : Int32) * (1 : Int32)) + t1)) + t2)) (16 : Int32)))), .val (.int (((31 : Int32) * (((31 : Int32) * (1 : Int32)) + t1)) + t2)), .unset] [(.int (961 : Int32))])
        refine o_iload X27 at_89 rfl 91 rfl ?_
        refine o_ifLe X27 at_91 108 94 (by decide) (by decide) rfl (fun q => by exfalso; exact absurd q (by decide)) ?_
        intro hc91
        refine o_aloadN X27 at_94 rfl rfl 95 rfl ?_
        refine o_iloadN X27 at_95 rfl 96 rfl ?_
        refine o_baloadB X27 H_J33 0 rfl at_96 1 rfl t1 rfl 97 rfl ?_
        refine o_iload X27 at_97 rfl 99 rfl ?_
        refine o_iconst (v := (1 : Int32)) X27 at_99 rfl 100 rfl ?_
        refine o_isub X27 at_100 101 rfl ?_
        refine o_callS X27 at_101 (rest := [(.int t1), (.int (961 : Int32))]) (c_pow l Z a0 hw [] n0 _ X27.size ((2 : Int32) - (1 : Int32)) ) (hw _ (List.mem_of_getElem? (i := 7) rfl)) (hw _ (List.mem_of_getElem? (i := 8) rfl)) (hw _ (List.mem_of_getElem? (i := 9) rfl)) (hw _ (List.mem_of_getElem? (i := 10) rfl)) (by decide) 2 (by decide) (by decide) rfl [(.int ((2 : Int32) - (1 : Int32)))] rfl pd_2 rfl rfl (Nat.le_of_eq rfl) 1 4 rfl rfl (by decide) (by decide) 104 rfl ?_
        rintro _ T28 _ X28 ⟨rfl, rfl⟩
        rw [show (f_pow ((2 : Int32) - (1 : Int32))) = (31 : Int32) from rfl]
        show OE p e room_1 below s n0 Q' T28 (mkF m 104 #[.val (.int xb), .val (.int xp), .val (.ref xt), .val (.int (1 : Int32)), .val (.int (2 : Int32)), .val (.int (3 : Int32)), .val (.int (f_fin (((31 : Int32) * (((31 : Int32) * (1 : Int32)) + t1)) + t2))), .val (.int ((f_fin (((31 : Int32) * (((31 : Int32) * (1 : Int32)) + t1)) + t2)) ^^^ (XT.ushr (f_fin (((31 : Int32) * (((31 : Int32) * (1 : Int32)) + t1)) + t2)) (16 : Int32)))), .val (.int (((31 : Int32) * (((31 : Int32) * (1 : Int32)) + t1)) + t2)), .unset] [(.int (31 : Int32)), (.int t1), (.int (961 : Int32))])
        refine o_imul X28 at_104 105 rfl ?_
        refine o_goto X28 at_105 109 (by decide) (by decide) ?_
        refine o_iadd X28 at_109 110 rfl ?_
        refine o_iload X28 at_110 rfl 112 rfl ?_
        refine o_iconst (v := (1 : Int32)) X28 at_112 rfl 113 rfl ?_
        refine o_icmpLe X28 at_113 132 116 (by decide) (by decide) rfl (fun q => by exfalso; exact absurd q (by decide)) ?_
        intro hc113
        refine o_aloadN X28 at_116 rfl rfl 117 rfl ?_
        refine o_iloadN X28 at_117 rfl 118 rfl ?_
        refine o_iconst (v := (1 : Int32)) X28 at_118 rfl 119 rfl ?_
        refine o_iadd X28 at_119 120 rfl ?_
        refine o_baloadB X28 H_J33 0 rfl at_120 2 rfl t2 rfl 121 rfl ?_
        refine o_iload X28 at_121 rfl 123 rfl ?_
        refine o_iconst (v := (2 : Int32)) X28 at_123 rfl 124 rfl ?_
        refine o_isub X28 at_124 125 rfl ?_
        refine o_callS X28 at_125 (rest := [(.int t2), (.int ((961 : Int32) + (t1 * (31 : Int32))))]) (c_pow l Z a0 hw [] n0 _ X28.size ((2 : Int32) - (2 : Int32)) ) (hw _ (List.mem_of_getElem? (i := 7) rfl)) (hw _ (List.mem_of_getElem? (i := 8) rfl)) (hw _ (List.mem_of_getElem? (i := 9) rfl)) (hw _ (List.mem_of_getElem? (i := 10) rfl)) (by decide) 2 (by decide) (by decide) rfl [(.int ((2 : Int32) - (2 : Int32)))] rfl pd_2 rfl rfl (Nat.le_of_eq rfl) 1 4 rfl rfl (by decide) (by decide) 128 rfl ?_
        rintro _ T29 _ X29 ⟨rfl, rfl⟩
        rw [show (f_pow ((2 : Int32) - (2 : Int32))) = (1 : Int32) from rfl]
        show OE p e room_1 below s n0 Q' T29 (mkF m 128 #[.val (.int xb), .val (.int xp), .val (.ref xt), .val (.int (1 : Int32)), .val (.int (2 : Int32)), .val (.int (3 : Int32)), .val (.int (f_fin (((31 : Int32) * (((31 : Int32) * (1 : Int32)) + t1)) + t2))), .val (.int ((f_fin (((31 : Int32) * (((31 : Int32) * (1 : Int32)) + t1)) + t2)) ^^^ (XT.ushr (f_fin (((31 : Int32) * (((31 : Int32) * (1 : Int32)) + t1)) + t2)) (16 : Int32)))), .val (.int (((31 : Int32) * (((31 : Int32) * (1 : Int32)) + t1)) + t2)), .unset] [(.int (1 : Int32)), (.int t2), (.int ((961 : Int32) + (t1 * (31 : Int32))))])
        refine o_imul X29 at_128 129 rfl ?_
        refine o_goto X29 at_129 133 (by decide) (by decide) ?_
        refine o_iadd X29 at_133 134 rfl ?_
        refine o_iload X29 at_134 rfl 136 rfl ?_
        refine o_iconst (v := (2 : Int32)) X29 at_136 rfl 137 rfl ?_
        refine o_icmpLe X29 at_137 156 140 (by decide) (by decide) rfl ?_ (fun q => by exfalso; exact absurd q (by decide))
        intro hc137
        refine o_iconst (v := (0 : Int32)) X29 at_156 rfl 157 rfl ?_
        refine o_iadd X29 at_157 158 rfl ?_
        refine o_iload X29 at_158 rfl 160 rfl ?_
        refine o_iconst (v := (3 : Int32)) X29 at_160 rfl 161 rfl ?_
        refine o_icmpLe X29 at_161 180 164 (by decide) (by decide) rfl ?_ (fun q => by exfalso; exact absurd q (by decide))
        intro hc161
        refine o_iconst (v := (0 : Int32)) X29 at_180 rfl 181 rfl ?_
        refine o_iadd X29 at_181 182 rfl ?_
        refine o_istore X29 at_182 #[.val (.int xb), .val (.int xp), .val (.ref xt), .val (.int (1 : Int32)), .val (.int (2 : Int32)), .val (.int (3 : Int32)), .val (.int (f_fin (((31 : Int32) * (((31 : Int32) * (1 : Int32)) + t1)) + t2))), .val (.int ((f_fin (((31 : Int32) * (((31 : Int32) * (1 : Int32)) + t1)) + t2)) ^^^ (XT.ushr (f_fin (((31 : Int32) * (((31 : Int32) * (1 : Int32)) + t1)) + t2)) (16 : Int32)))), .val (.int (((31 : Int32) * (((31 : Int32) * (1 : Int32)) + t1)) + t2)), .val (.int (((((961 : Int32) + (t1 * (31 : Int32))) + (t2 * (1 : Int32))) + (0 : Int32)) + (0 : Int32)))] rfl 184 rfl ?_
        refine o_iload X29 at_184 rfl 186 rfl ?_
        refine o_iload X29 at_186 rfl 188 rfl ?_
        refine o_icmpNe X29 at_188 195 191 (by decide) (by decide) rfl (fun q => by exfalso; exact q (by grind)) ?_
        intro hc188
        refine o_iconst (v := (1 : Int32)) X29 at_191 rfl 192 rfl ?_
        refine o_goto X29 at_192 196 (by decide) (by decide) ?_
        exact o_retZ X29 at_196 (by decide) (by decide) (hQ _ _ rfl)
      · rw [hv]
        refine o_iloadN X_J33 at_52 rfl 53 rfl ?_
        refine o_iload X_J33 at_53 rfl 55 rfl ?_
        refine o_iadd X_J33 at_55 56 rfl ?_
        refine o_istore X_J33 at_56 #[.val (.int xb), .val (.int xp), .val (.ref xt), .val (.int (1 : Int32)), .val (.int (3 : Int32)), .val (.int ((1 : Int32) + (3 : Int32))), .unset, .unset, .unset, .unset] rfl 58 rfl ?_
        rw [show ((1 : Int32) + (3 : Int32)) = (4 : Int32) from rfl]
        refine o_aloadN X_J33 at_58 rfl rfl 59 rfl ?_
        refine o_iloadN X_J33 at_59 rfl 60 rfl ?_
        refine o_iload X_J33 at_60 rfl 62 rfl ?_
        refine o_callS X_J33 at_62 (rest := []) (c_hash_1_3 l Z a0 hw [] n0 _ X_J33.size xt t0 t1 t2 t3 [] H_J33) (hw _ (List.mem_of_getElem? (i := 1) rfl)) (hw _ (List.mem_of_getElem? (i := 2) rfl)) (hw _ (List.mem_of_getElem? (i := 3) rfl)) (hw _ (List.mem_of_getElem? (i := 4) rfl)) (by decide) 0 (by decide) (by decide) rfl [(.ref xt), (.int (1 : Int32)), (.int (4 : Int32))] rfl pd_1 rfl rfl (Nat.le_of_eq rfl) 1 4 rfl rfl (by decide) (by decide) 65 rfl ?_
        rintro _ T30 _ X30 ⟨rfl, rfl⟩
        show OE p e room_1 below s n0 Q' T30 (mkF m 65 #[.val (.int xb), .val (.int xp), .val (.ref xt), .val (.int (1 : Int32)), .val (.int (3 : Int32)), .val (.int (4 : Int32)), .unset, .unset, .unset, .unset] [(.int (f_fin (((31 : Int32) * (((31 : Int32) * (((31 : Int32) * (1 : Int32)) + t1)) + t2)) + t3)))])
        refine o_istore X30 at_65 #[.val (.int xb), .val (.int xp), .val (.ref xt), .val (.int (1 : Int32)), .val (.int (3 : Int32)), .val (.int (4 : Int32)), .val (.int (f_fin (((31 : Int32) * (((31 : Int32) * (((31 : Int32) * (1 : Int32)) + t1)) + t2)) + t3))), .unset, .unset, .unset] rfl 67 rfl ?_
        refine o_iload X30 at_67 rfl 69 rfl ?_
        refine o_iload X30 at_69 rfl 71 rfl ?_
        refine o_bipush (v := (16 : Int32)) X30 at_71 rfl 73 rfl ?_
        refine o_iushr X30 at_73 74 rfl ?_
        refine o_ixor X30 at_74 75 rfl ?_
        refine o_istore X30 at_75 #[.val (.int xb), .val (.int xp), .val (.ref xt), .val (.int (1 : Int32)), .val (.int (3 : Int32)), .val (.int (4 : Int32)), .val (.int (f_fin (((31 : Int32) * (((31 : Int32) * (((31 : Int32) * (1 : Int32)) + t1)) + t2)) + t3))), .val (.int ((f_fin (((31 : Int32) * (((31 : Int32) * (((31 : Int32) * (1 : Int32)) + t1)) + t2)) + t3)) ^^^ (XT.ushr (f_fin (((31 : Int32) * (((31 : Int32) * (((31 : Int32) * (1 : Int32)) + t1)) + t2)) + t3)) (16 : Int32)))), .unset, .unset] rfl 77 rfl ?_
        refine o_iload X30 at_77 rfl 79 rfl ?_
        refine o_ldc (v := (340573321 : Int32)) X30 at_79 (hw _ (List.mem_of_getElem? (i := 6) rfl)) 81 rfl ?_
        refine o_imul X30 at_81 82 rfl ?_
        refine o_istore X30 at_82 #[.val (.int xb), .val (.int xp), .val (.ref xt), .val (.int (1 : Int32)), .val (.int (3 : Int32)), .val (.int (4 : Int32)), .val (.int (f_fin (((31 : Int32) * (((31 : Int32) * (((31 : Int32) * (1 : Int32)) + t1)) + t2)) + t3))), .val (.int ((f_fin (((31 : Int32) * (((31 : Int32) * (((31 : Int32) * (1 : Int32)) + t1)) + t2)) + t3)) ^^^ (XT.ushr (f_fin (((31 : Int32) * (((31 : Int32) * (((31 : Int32) * (1 : Int32)) + t1)) + t2)) + t3)) (16 : Int32)))), .val (.int (((f_fin (((31 : Int32) * (((31 : Int32) * (((31 : Int32) * (1 : Int32)) + t1)) + t2)) + t3)) ^^^ (XT.ushr (f_fin (((31 : Int32) * (((31 : Int32) * (((31 : Int32) * (1 : Int32)) + t1)) + t2)) + t3)) (16 : Int32))) * (340573321 : Int32))), .unset] rfl 84 rfl ?_
        rw [show (((f_fin (((31 : Int32) * (((31 : Int32) * (((31 : Int32) * (1 : Int32)) + t1)) + t2)) + t3)) ^^^ (XT.ushr (f_fin (((31 : Int32) * (((31 : Int32) * (((31 : Int32) * (1 : Int32)) + t1)) + t2)) + t3)) (16 : Int32))) * (340573321 : Int32)) = (((31 : Int32) * (((31 : Int32) * (((31 : Int32) * (1 : Int32)) + t1)) + t2)) + t3) from v_poly _]
        refine o_iload X30 at_84 rfl 86 rfl ?_
        refine o_callS X30 at_86 (rest := []) (c_pow l Z a0 hw [] n0 _ X30.size (3 : Int32) ) (hw _ (List.mem_of_getElem? (i := 7) rfl)) (hw _ (List.mem_of_getElem? (i := 8) rfl)) (hw _ (List.mem_of_getElem? (i := 9) rfl)) (hw _ (List.mem_of_getElem? (i := 10) rfl)) (by decide) 0 (by decide) (by decide) rfl [(.int (3 : Int32))] rfl pd_2 rfl rfl (Nat.le_of_eq rfl) 1 4 rfl rfl (by decide) (by decide) 89 rfl ?_
        rintro _ T31 _ X31 ⟨rfl, rfl⟩
        rw [show (f_pow (3 : Int32)) = (29791 : Int32) from rfl]
        show OE p e room_1 below s n0 Q' T31 (mkF m 89 #[.val (.int xb), .val (.int xp), .val (.ref xt), .val (.int (1 : Int32)), .val (.int (3 : Int32)), .val (.int (4 : Int32)), .val (.int (f_fin (((31 : Int32) * (((31 : Int32) * (((31 : Int32) * (1 : Int32)) + t1)) + t2)) + t3))), .val (.int ((f_fin (((31 : Int32) * (((31 : Int32) * (((31 : Int32) * (1 : Int32)) + t1)) + t2)) + t3)) ^^^ (XT.ushr (f_fin (((31 : Int32) * (((31 : Int32) * (((31 : Int32) * (1 : Int32)) + t1)) + t2)) + t3)) (16 : Int32)))), .val (.int (((31 : Int32) * (((31 : Int32) * (((31 : Int32) * (1 : Int32)) + t1)) + t2)) + t3)), .unset] [(.int (29791 : Int32))])
        refine o_iload X31 at_89 rfl 91 rfl ?_
        refine o_ifLe X31 at_91 108 94 (by decide) (by decide) rfl (fun q => by exfalso; exact absurd q (by decide)) ?_
        intro hc91
        refine o_aloadN X31 at_94 rfl rfl 95 rfl ?_
        refine o_iloadN X31 at_95 rfl 96 rfl ?_
        refine o_baloadB X31 H_J33 0 rfl at_96 1 rfl t1 rfl 97 rfl ?_
        refine o_iload X31 at_97 rfl 99 rfl ?_
        refine o_iconst (v := (1 : Int32)) X31 at_99 rfl 100 rfl ?_
        refine o_isub X31 at_100 101 rfl ?_
        refine o_callS X31 at_101 (rest := [(.int t1), (.int (29791 : Int32))]) (c_pow l Z a0 hw [] n0 _ X31.size ((3 : Int32) - (1 : Int32)) ) (hw _ (List.mem_of_getElem? (i := 7) rfl)) (hw _ (List.mem_of_getElem? (i := 8) rfl)) (hw _ (List.mem_of_getElem? (i := 9) rfl)) (hw _ (List.mem_of_getElem? (i := 10) rfl)) (by decide) 2 (by decide) (by decide) rfl [(.int ((3 : Int32) - (1 : Int32)))] rfl pd_2 rfl rfl (Nat.le_of_eq rfl) 1 4 rfl rfl (by decide) (by decide) 104 rfl ?_
        rintro _ T32 _ X32 ⟨rfl, rfl⟩
        rw [show (f_pow ((3 : Int32) - (1 : Int32))) = (961 : Int32) from rfl]
        show OE p e room_1 below s n0 Q' T32 (mkF m 104 #[.val (.int xb), .val (.int xp), .val (.ref xt), .val (.int (1 : Int32)), .val (.int (3 : Int32)), .val (.int (4 : Int32)), .val (.int (f_fin (((31 : Int32) * (((31 : Int32) * (((31 : Int32) * (1 : Int32)) + t1)) + t2)) + t3))), .val (.int ((f_fin (((31 : Int32) * (((31 : Int32) * (((31 : Int32) * (1 : Int32)) + t1)) + t2)) + t3)) ^^^ (XT.ushr (f_fin (((31 : Int32) * (((31 : Int32) * (((31 : Int32) * (1 : Int32)) + t1)) + t2)) + t3)) (16 : Int32)))), .val (.int (((31 : Int32) * (((31 : Int32) * (((31 : Int32) * (1 : Int32)) + t1)) + t2)) + t3)), .unset] [(.int (961 : Int32)), (.int t1), (.int (29791 : Int32))])
        refine o_imul X32 at_104 105 rfl ?_
        refine o_goto X32 at_105 109 (by decide) (by decide) ?_
        refine o_iadd X32 at_109 110 rfl ?_
        refine o_iload X32 at_110 rfl 112 rfl ?_
        refine o_iconst (v := (1 : Int32)) X32 at_112 rfl 113 rfl ?_
        refine o_icmpLe X32 at_113 132 116 (by decide) (by decide) rfl (fun q => by exfalso; exact absurd q (by decide)) ?_
        intro hc113
        refine o_aloadN X32 at_116 rfl rfl 117 rfl ?_
        refine o_iloadN X32 at_117 rfl 118 rfl ?_
        refine o_iconst (v := (1 : Int32)) X32 at_118 rfl 119 rfl ?_
        refine o_iadd X32 at_119 120 rfl ?_
        refine o_baloadB X32 H_J33 0 rfl at_120 2 rfl t2 rfl 121 rfl ?_
        refine o_iload X32 at_121 rfl 123 rfl ?_
        refine o_iconst (v := (2 : Int32)) X32 at_123 rfl 124 rfl ?_
        refine o_isub X32 at_124 125 rfl ?_
        refine o_callS X32 at_125 (rest := [(.int t2), (.int ((29791 : Int32) + (t1 * (961 : Int32))))]) (c_pow l Z a0 hw [] n0 _ X32.size ((3 : Int32) - (2 : Int32)) ) (hw _ (List.mem_of_getElem? (i := 7) rfl)) (hw _ (List.mem_of_getElem? (i := 8) rfl)) (hw _ (List.mem_of_getElem? (i := 9) rfl)) (hw _ (List.mem_of_getElem? (i := 10) rfl)) (by decide) 2 (by decide) (by decide) rfl [(.int ((3 : Int32) - (2 : Int32)))] rfl pd_2 rfl rfl (Nat.le_of_eq rfl) 1 4 rfl rfl (by decide) (by decide) 128 rfl ?_
        rintro _ T33 _ X33 ⟨rfl, rfl⟩
        rw [show (f_pow ((3 : Int32) - (2 : Int32))) = (31 : Int32) from rfl]
        show OE p e room_1 below s n0 Q' T33 (mkF m 128 #[.val (.int xb), .val (.int xp), .val (.ref xt), .val (.int (1 : Int32)), .val (.int (3 : Int32)), .val (.int (4 : Int32)), .val (.int (f_fin (((31 : Int32) * (((31 : Int32) * (((31 : Int32) * (1 : Int32)) + t1)) + t2)) + t3))), .val (.int ((f_fin (((31 : Int32) * (((31 : Int32) * (((31 : Int32) * (1 : Int32)) + t1)) + t2)) + t3)) ^^^ (XT.ushr (f_fin (((31 : Int32) * (((31 : Int32) * (((31 : Int32) * (1 : Int32)) + t1)) + t2)) + t3)) (16 : Int32)))), .val (.int (((31 : Int32) * (((31 : Int32) * (((31 : Int32) * (1 : Int32)) + t1)) + t2)) + t3)), .unset] [(.int (31 : Int32)), (.int t2), (.int ((29791 : Int32) + (t1 * (961 : Int32))))])
        refine o_imul X33 at_128 129 rfl ?_
        refine o_goto X33 at_129 133 (by decide) (by decide) ?_
        refine o_iadd X33 at_133 134 rfl ?_
        refine o_iload X33 at_134 rfl 136 rfl ?_
        refine o_iconst (v := (2 : Int32)) X33 at_136 rfl 137 rfl ?_
        refine o_icmpLe X33 at_137 156 140 (by decide) (by decide) rfl (fun q => by exfalso; exact absurd q (by decide)) ?_
        intro hc137
        refine o_aloadN X33 at_140 rfl rfl 141 rfl ?_
        refine o_iloadN X33 at_141 rfl 142 rfl ?_
        refine o_iconst (v := (2 : Int32)) X33 at_142 rfl 143 rfl ?_
        refine o_iadd X33 at_143 144 rfl ?_
        refine o_baloadB X33 H_J33 0 rfl at_144 3 rfl t3 rfl 145 rfl ?_
        refine o_iload X33 at_145 rfl 147 rfl ?_
        refine o_iconst (v := (3 : Int32)) X33 at_147 rfl 148 rfl ?_
        refine o_isub X33 at_148 149 rfl ?_
        refine o_callS X33 at_149 (rest := [(.int t3), (.int (((29791 : Int32) + (t1 * (961 : Int32))) + (t2 * (31 : Int32))))]) (c_pow l Z a0 hw [] n0 _ X33.size ((3 : Int32) - (3 : Int32)) ) (hw _ (List.mem_of_getElem? (i := 7) rfl)) (hw _ (List.mem_of_getElem? (i := 8) rfl)) (hw _ (List.mem_of_getElem? (i := 9) rfl)) (hw _ (List.mem_of_getElem? (i := 10) rfl)) (by decide) 2 (by decide) (by decide) rfl [(.int ((3 : Int32) - (3 : Int32)))] rfl pd_2 rfl rfl (Nat.le_of_eq rfl) 1 4 rfl rfl (by decide) (by decide) 152 rfl ?_
        rintro _ T34 _ X34 ⟨rfl, rfl⟩
        rw [show (f_pow ((3 : Int32) - (3 : Int32))) = (1 : Int32) from rfl]
        show OE p e room_1 below s n0 Q' T34 (mkF m 152 #[.val (.int xb), .val (.int xp), .val (.ref xt), .val (.int (1 : Int32)), .val (.int (3 : Int32)), .val (.int (4 : Int32)), .val (.int (f_fin (((31 : Int32) * (((31 : Int32) * (((31 : Int32) * (1 : Int32)) + t1)) + t2)) + t3))), .val (.int ((f_fin (((31 : Int32) * (((31 : Int32) * (((31 : Int32) * (1 : Int32)) + t1)) + t2)) + t3)) ^^^ (XT.ushr (f_fin (((31 : Int32) * (((31 : Int32) * (((31 : Int32) * (1 : Int32)) + t1)) + t2)) + t3)) (16 : Int32)))), .val (.int (((31 : Int32) * (((31 : Int32) * (((31 : Int32) * (1 : Int32)) + t1)) + t2)) + t3)), .unset] [(.int (1 : Int32)), (.int t3), (.int (((29791 : Int32) + (t1 * (961 : Int32))) + (t2 * (31 : Int32))))])
        refine o_imul X34 at_152 153 rfl ?_
        refine o_goto X34 at_153 157 (by decide) (by decide) ?_
        refine o_iadd X34 at_157 158 rfl ?_
        refine o_iload X34 at_158 rfl 160 rfl ?_
        refine o_iconst (v := (3 : Int32)) X34 at_160 rfl 161 rfl ?_
        refine o_icmpLe X34 at_161 180 164 (by decide) (by decide) rfl ?_ (fun q => by exfalso; exact absurd q (by decide))
        intro hc161
        refine o_iconst (v := (0 : Int32)) X34 at_180 rfl 181 rfl ?_
        refine o_iadd X34 at_181 182 rfl ?_
        refine o_istore X34 at_182 #[.val (.int xb), .val (.int xp), .val (.ref xt), .val (.int (1 : Int32)), .val (.int (3 : Int32)), .val (.int (4 : Int32)), .val (.int (f_fin (((31 : Int32) * (((31 : Int32) * (((31 : Int32) * (1 : Int32)) + t1)) + t2)) + t3))), .val (.int ((f_fin (((31 : Int32) * (((31 : Int32) * (((31 : Int32) * (1 : Int32)) + t1)) + t2)) + t3)) ^^^ (XT.ushr (f_fin (((31 : Int32) * (((31 : Int32) * (((31 : Int32) * (1 : Int32)) + t1)) + t2)) + t3)) (16 : Int32)))), .val (.int (((31 : Int32) * (((31 : Int32) * (((31 : Int32) * (1 : Int32)) + t1)) + t2)) + t3)), .val (.int (((((29791 : Int32) + (t1 * (961 : Int32))) + (t2 * (31 : Int32))) + (t3 * (1 : Int32))) + (0 : Int32)))] rfl 184 rfl ?_
        refine o_iload X34 at_184 rfl 186 rfl ?_
        refine o_iload X34 at_186 rfl 188 rfl ?_
        refine o_icmpNe X34 at_188 195 191 (by decide) (by decide) rfl (fun q => by exfalso; exact q (by grind)) ?_
        intro hc188
        refine o_iconst (v := (1 : Int32)) X34 at_191 rfl 192 rfl ?_
        refine o_goto X34 at_192 196 (by decide) (by decide) ?_
        exact o_retZ X34 at_196 (by decide) (by decide) (hQ _ _ rfl)
    · rw [hv]
      refine o_iloadN X_J33 at_40 rfl 41 rfl ?_
      refine o_iconst (v := (3 : Int32)) X_J33 at_41 rfl 42 rfl ?_
      refine o_iushr X_J33 at_42 43 rfl ?_
      refine o_bipush (v := (7 : Int32)) X_J33 at_43 rfl 45 rfl ?_
      refine o_iand X_J33 at_45 46 rfl ?_
      refine o_iconst (v := (5 : Int32)) X_J33 at_46 rfl 47 rfl ?_
      refine o_iloadN X_J33 at_47 rfl 48 rfl ?_
      refine o_isub X_J33 at_48 49 rfl ?_
      refine o_irem X_J33 at_49 (by decide) 50 rfl ?_
      refine o_istore X_J33 at_50 #[.val (.int xb), .val (.int xp), .val (.ref xt), .val (.int (2 : Int32)), .val (.int (((XT.ushr xp (3 : Int32)) &&& (7 : Int32)) % ((5 : Int32) - (2 : Int32)))), .unset, .unset, .unset, .unset, .unset] rfl 52 rfl ?_
      rcases v_l2 (XT.ushr xp 3) with hv | hv | hv
      · rw [hv]
        refine o_iloadN X_J33 at_52 rfl 53 rfl ?_
        refine o_iload X_J33 at_53 rfl 55 rfl ?_
        refine o_iadd X_J33 at_55 56 rfl ?_
        refine o_istore X_J33 at_56 #[.val (.int xb), .val (.int xp), .val (.ref xt), .val (.int (2 : Int32)), .val (.int (0 : Int32)), .val (.int ((2 : Int32) + (0 : Int32))), .unset, .unset, .unset, .unset] rfl 58 rfl ?_
        rw [show ((2 : Int32) + (0 : Int32)) = (2 : Int32) from rfl]
        refine o_aloadN X_J33 at_58 rfl rfl 59 rfl ?_
        refine o_iloadN X_J33 at_59 rfl 60 rfl ?_
        refine o_iload X_J33 at_60 rfl 62 rfl ?_
        refine o_callS X_J33 at_62 (rest := []) (c_hash_2_0 l Z a0 hw [] n0 _ X_J33.size xt t0 t1 t2 t3 [] H_J33) (hw _ (List.mem_of_getElem? (i := 1) rfl)) (hw _ (List.mem_of_getElem? (i := 2) rfl)) (hw _ (List.mem_of_getElem? (i := 3) rfl)) (hw _ (List.mem_of_getElem? (i := 4) rfl)) (by decide) 0 (by decide) (by decide) rfl [(.ref xt), (.int (2 : Int32)), (.int (2 : Int32))] rfl pd_1 rfl rfl (Nat.le_of_eq rfl) 1 4 rfl rfl (by decide) (by decide) 65 rfl ?_
        rintro _ T35 _ X35 ⟨rfl, rfl⟩
        show OE p e room_1 below s n0 Q' T35 (mkF m 65 #[.val (.int xb), .val (.int xp), .val (.ref xt), .val (.int (2 : Int32)), .val (.int (0 : Int32)), .val (.int (2 : Int32)), .unset, .unset, .unset, .unset] [(.int (f_fin (1 : Int32)))])
        refine o_istore X35 at_65 #[.val (.int xb), .val (.int xp), .val (.ref xt), .val (.int (2 : Int32)), .val (.int (0 : Int32)), .val (.int (2 : Int32)), .val (.int (f_fin (1 : Int32))), .unset, .unset, .unset] rfl 67 rfl ?_
        refine o_iload X35 at_67 rfl 69 rfl ?_
        refine o_iload X35 at_69 rfl 71 rfl ?_
        refine o_bipush (v := (16 : Int32)) X35 at_71 rfl 73 rfl ?_
        refine o_iushr X35 at_73 74 rfl ?_
        refine o_ixor X35 at_74 75 rfl ?_
        refine o_istore X35 at_75 #[.val (.int xb), .val (.int xp), .val (.ref xt), .val (.int (2 : Int32)), .val (.int (0 : Int32)), .val (.int (2 : Int32)), .val (.int (f_fin (1 : Int32))), .val (.int ((f_fin (1 : Int32)) ^^^ (XT.ushr (f_fin (1 : Int32)) (16 : Int32)))), .unset, .unset] rfl 77 rfl ?_
        refine o_iload X35 at_77 rfl 79 rfl ?_
        refine o_ldc (v := (340573321 : Int32)) X35 at_79 (hw _ (List.mem_of_getElem? (i := 6) rfl)) 81 rfl ?_
        refine o_imul X35 at_81 82 rfl ?_
        refine o_istore X35 at_82 #[.val (.int xb), .val (.int xp), .val (.ref xt), .val (.int (2 : Int32)), .val (.int (0 : Int32)), .val (.int (2 : Int32)), .val (.int (f_fin (1 : Int32))), .val (.int ((f_fin (1 : Int32)) ^^^ (XT.ushr (f_fin (1 : Int32)) (16 : Int32)))), .val (.int (((f_fin (1 : Int32)) ^^^ (XT.ushr (f_fin (1 : Int32)) (16 : Int32))) * (340573321 : Int32))), .unset] rfl 84 rfl ?_
        rw [show (((f_fin (1 : Int32)) ^^^ (XT.ushr (f_fin (1 : Int32)) (16 : Int32))) * (340573321 : Int32)) = (1 : Int32) from v_poly _]
        refine o_iload X35 at_84 rfl 86 rfl ?_
        refine o_callS X35 at_86 (rest := []) (c_pow l Z a0 hw [] n0 _ X35.size (0 : Int32) ) (hw _ (List.mem_of_getElem? (i := 7) rfl)) (hw _ (List.mem_of_getElem? (i := 8) rfl)) (hw _ (List.mem_of_getElem? (i := 9) rfl)) (hw _ (List.mem_of_getElem? (i := 10) rfl)) (by decide) 0 (by decide) (by decide) rfl [(.int (0 : Int32))] rfl pd_2 rfl rfl (Nat.le_of_eq rfl) 1 4 rfl rfl (by decide) (by decide) 89 rfl ?_
        rintro _ T36 _ X36 ⟨rfl, rfl⟩
        rw [show (f_pow (0 : Int32)) = (1 : Int32) from rfl]
        show OE p e room_1 below s n0 Q' T36 (mkF m 89 #[.val (.int xb), .val (.int xp), .val (.ref xt), .val (.int (2 : Int32)), .val (.int (0 : Int32)), .val (.int (2 : Int32)), .val (.int (f_fin (1 : Int32))), .val (.int ((f_fin (1 : Int32)) ^^^ (XT.ushr (f_fin (1 : Int32)) (16 : Int32)))), .val (.int (1 : Int32)), .unset] [(.int (1 : Int32))])
        refine o_iload X36 at_89 rfl 91 rfl ?_
        refine o_ifLe X36 at_91 108 94 (by decide) (by decide) rfl ?_ (fun q => by exfalso; exact absurd q (by decide))
        intro hc91
        refine o_iconst (v := (0 : Int32)) X36 at_108 rfl 109 rfl ?_
        refine o_iadd X36 at_109 110 rfl ?_
        refine o_iload X36 at_110 rfl 112 rfl ?_
        refine o_iconst (v := (1 : Int32)) X36 at_112 rfl 113 rfl ?_
        refine o_icmpLe X36 at_113 132 116 (by decide) (by decide) rfl ?_ (fun q => by exfalso; exact absurd q (by decide))
        intro hc113
        refine o_iconst (v := (0 : Int32)) X36 at_132 rfl 133 rfl ?_
        refine o_iadd X36 at_133 134 rfl ?_
        refine o_iload X36 at_134 rfl 136 rfl ?_
        refine o_iconst (v := (2 : Int32)) X36 at_136 rfl 137 rfl ?_
        refine o_icmpLe X36 at_137 156 140 (by decide) (by decide) rfl ?_ (fun q => by exfalso; exact absurd q (by decide))
        intro hc137
        refine o_iconst (v := (0 : Int32)) X36 at_156 rfl 157 rfl ?_
        refine o_iadd X36 at_157 158 rfl ?_
        refine o_iload X36 at_158 rfl 160 rfl ?_
        refine o_iconst (v := (3 : Int32)) X36 at_160 rfl 161 rfl ?_
        refine o_icmpLe X36 at_161 180 164 (by decide) (by decide) rfl ?_ (fun q => by exfalso; exact absurd q (by decide))
        intro hc161
        refine o_iconst (v := (0 : Int32)) X36 at_180 rfl 181 rfl ?_
        refine o_iadd X36 at_181 182 rfl ?_
        refine o_istore X36 at_182 #[.val (.int xb), .val (.int xp), .val (.ref xt), .val (.int (2 : Int32)), .val (.int (0 : Int32)), .val (.int (2 : Int32)), .val (.int (f_fin (1 : Int32))), .val (.int ((f_fin (1 : Int32)) ^^^ (XT.ushr (f_fin (1 : Int32)) (16 : Int32)))), .val (.int (1 : Int32)), .val (.int (((((1 : Int32) + (0 : Int32)) + (0 : Int32)) + (0 : Int32)) + (0 : Int32)))] rfl 184 rfl ?_
        rw [show (((((1 : Int32) + (0 : Int32)) + (0 : Int32)) + (0 : Int32)) + (0 : Int32)) = (1 : Int32) from rfl]
        refine o_iload X36 at_184 rfl 186 rfl ?_
        refine o_iload X36 at_186 rfl 188 rfl ?_
        refine o_icmpNe X36 at_188 195 191 (by decide) (by decide) rfl (fun q => by exfalso; exact q (by grind)) ?_
        intro hc188
        refine o_iconst (v := (1 : Int32)) X36 at_191 rfl 192 rfl ?_
        refine o_goto X36 at_192 196 (by decide) (by decide) ?_
        exact o_retZ X36 at_196 (by decide) (by decide) (hQ _ _ rfl)
      · rw [hv]
        refine o_iloadN X_J33 at_52 rfl 53 rfl ?_
        refine o_iload X_J33 at_53 rfl 55 rfl ?_
        refine o_iadd X_J33 at_55 56 rfl ?_
        refine o_istore X_J33 at_56 #[.val (.int xb), .val (.int xp), .val (.ref xt), .val (.int (2 : Int32)), .val (.int (1 : Int32)), .val (.int ((2 : Int32) + (1 : Int32))), .unset, .unset, .unset, .unset] rfl 58 rfl ?_
        rw [show ((2 : Int32) + (1 : Int32)) = (3 : Int32) from rfl]
        refine o_aloadN X_J33 at_58 rfl rfl 59 rfl ?_
        refine o_iloadN X_J33 at_59 rfl 60 rfl ?_
        refine o_iload X_J33 at_60 rfl 62 rfl ?_
        refine o_callS X_J33 at_62 (rest := []) (c_hash_2_1 l Z a0 hw [] n0 _ X_J33.size xt t0 t1 t2 t3 [] H_J33) (hw _ (List.mem_of_getElem? (i := 1) rfl)) (hw _ (List.mem_of_getElem? (i := 2) rfl)) (hw _ (List.mem_of_getElem? (i := 3) rfl)) (hw _ (List.mem_of_getElem? (i := 4) rfl)) (by decide) 0 (by decide) (by decide) rfl [(.ref xt), (.int (2 : Int32)), (.int (3 : Int32))] rfl pd_1 rfl rfl (Nat.le_of_eq rfl) 1 4 rfl rfl (by decide) (by decide) 65 rfl ?_
        rintro _ T37 _ X37 ⟨rfl, rfl⟩
        show OE p e room_1 below s n0 Q' T37 (mkF m 65 #[.val (.int xb), .val (.int xp), .val (.ref xt), .val (.int (2 : Int32)), .val (.int (1 : Int32)), .val (.int (3 : Int32)), .unset, .unset, .unset, .unset] [(.int (f_fin (((31 : Int32) * (1 : Int32)) + t2)))])
        refine o_istore X37 at_65 #[.val (.int xb), .val (.int xp), .val (.ref xt), .val (.int (2 : Int32)), .val (.int (1 : Int32)), .val (.int (3 : Int32)), .val (.int (f_fin (((31 : Int32) * (1 : Int32)) + t2))), .unset, .unset, .unset] rfl 67 rfl ?_
        refine o_iload X37 at_67 rfl 69 rfl ?_
        refine o_iload X37 at_69 rfl 71 rfl ?_
        refine o_bipush (v := (16 : Int32)) X37 at_71 rfl 73 rfl ?_
        refine o_iushr X37 at_73 74 rfl ?_
        refine o_ixor X37 at_74 75 rfl ?_
        refine o_istore X37 at_75 #[.val (.int xb), .val (.int xp), .val (.ref xt), .val (.int (2 : Int32)), .val (.int (1 : Int32)), .val (.int (3 : Int32)), .val (.int (f_fin (((31 : Int32) * (1 : Int32)) + t2))), .val (.int ((f_fin (((31 : Int32) * (1 : Int32)) + t2)) ^^^ (XT.ushr (f_fin (((31 : Int32) * (1 : Int32)) + t2)) (16 : Int32)))), .unset, .unset] rfl 77 rfl ?_
        refine o_iload X37 at_77 rfl 79 rfl ?_
        refine o_ldc (v := (340573321 : Int32)) X37 at_79 (hw _ (List.mem_of_getElem? (i := 6) rfl)) 81 rfl ?_
        refine o_imul X37 at_81 82 rfl ?_
        refine o_istore X37 at_82 #[.val (.int xb), .val (.int xp), .val (.ref xt), .val (.int (2 : Int32)), .val (.int (1 : Int32)), .val (.int (3 : Int32)), .val (.int (f_fin (((31 : Int32) * (1 : Int32)) + t2))), .val (.int ((f_fin (((31 : Int32) * (1 : Int32)) + t2)) ^^^ (XT.ushr (f_fin (((31 : Int32) * (1 : Int32)) + t2)) (16 : Int32)))), .val (.int (((f_fin (((31 : Int32) * (1 : Int32)) + t2)) ^^^ (XT.ushr (f_fin (((31 : Int32) * (1 : Int32)) + t2)) (16 : Int32))) * (340573321 : Int32))), .unset] rfl 84 rfl ?_
        rw [show (((f_fin (((31 : Int32) * (1 : Int32)) + t2)) ^^^ (XT.ushr (f_fin (((31 : Int32) * (1 : Int32)) + t2)) (16 : Int32))) * (340573321 : Int32)) = (((31 : Int32) * (1 : Int32)) + t2) from v_poly _]
        refine o_iload X37 at_84 rfl 86 rfl ?_
        refine o_callS X37 at_86 (rest := []) (c_pow l Z a0 hw [] n0 _ X37.size (1 : Int32) ) (hw _ (List.mem_of_getElem? (i := 7) rfl)) (hw _ (List.mem_of_getElem? (i := 8) rfl)) (hw _ (List.mem_of_getElem? (i := 9) rfl)) (hw _ (List.mem_of_getElem? (i := 10) rfl)) (by decide) 0 (by decide) (by decide) rfl [(.int (1 : Int32))] rfl pd_2 rfl rfl (Nat.le_of_eq rfl) 1 4 rfl rfl (by decide) (by decide) 89 rfl ?_
        rintro _ T38 _ X38 ⟨rfl, rfl⟩
        rw [show (f_pow (1 : Int32)) = (31 : Int32) from rfl]
        show OE p e room_1 below s n0 Q' T38 (mkF m 89 #[.val (.int xb), .val (.int xp), .val (.ref xt), .val (.int (2 : Int32)), .val (.int (1 : Int32)), .val (.int (3 : Int32)), .val (.int (f_fin (((31 : Int32) * (1 : Int32)) + t2))), .val (.int ((f_fin (((31 : Int32) * (1 : Int32)) + t2)) ^^^ (XT.ushr (f_fin (((31 : Int32) * (1 : Int32)) + t2)) (16 : Int32)))), .val (.int (((31 : Int32) * (1 : Int32)) + t2)), .unset] [(.int (31 : Int32))])
        refine o_iload X38 at_89 rfl 91 rfl ?_
        refine o_ifLe X38 at_91 108 94 (by decide) (by decide) rfl (fun q => by exfalso; exact absurd q (by decide)) ?_
        intro hc91
        refine o_aloadN X38 at_94 rfl rfl 95 rfl ?_
        refine o_iloadN X38 at_95 rfl 96 rfl ?_
        refine o_baloadB X38 H_J33 0 rfl at_96 2 rfl t2 rfl 97 rfl ?_
        refine o_iload X38 at_97 rfl 99 rfl ?_
        refine o_iconst (v := (1 : Int32)) X38 at_99 rfl 100 rfl ?_
        refine o_isub X38 at_100 101 rfl ?_
        refine o_callS X38 at_101 (rest := [(.int t2), (.int (31 : Int32))]) (c_pow l Z a0 hw [] n0 _ X38.size ((1 : Int32) - (1 : Int32)) ) (hw _ (List.mem_of_getElem? (i := 7) rfl)) (hw _ (List.mem_of_getElem? (i := 8) rfl)) (hw _ (List.mem_of_getElem? (i := 9) rfl)) (hw _ (List.mem_of_getElem? (i := 10) rfl)) (by decide) 2 (by decide) (by decide) rfl [(.int ((1 : Int32) - (1 : Int32)))] rfl pd_2 rfl rfl (Nat.le_of_eq rfl) 1 4 rfl rfl (by decide) (by decide) 104 rfl ?_
        rintro _ T39 _ X39 ⟨rfl, rfl⟩
        rw [show (f_pow ((1 : Int32) - (1 : Int32))) = (1 : Int32) from rfl]
        show OE p e room_1 below s n0 Q' T39 (mkF m 104 #[.val (.int xb), .val (.int xp), .val (.ref xt), .val (.int (2 : Int32)), .val (.int (1 : Int32)), .val (.int (3 : Int32)), .val (.int (f_fin (((31 : Int32) * (1 : Int32)) + t2))), .val (.int ((f_fin (((31 : Int32) * (1 : Int32)) + t2)) ^^^ (XT.ushr (f_fin (((31 : Int32) * (1 : Int32)) + t2)) (16 : Int32)))), .val (.int (((31 : Int32) * (1 : Int32)) + t2)), .unset] [(.int (1 : Int32)), (.int t2), (.int (31 : Int32))])
        refine o_imul X39 at_104 105 rfl ?_
        refine o_goto X39 at_105 109 (by decide) (by decide) ?_
        refine o_iadd X39 at_109 110 rfl ?_
        refine o_iload X39 at_110 rfl 112 rfl ?_
        refine o_iconst (v := (1 : Int32)) X39 at_112 rfl 113 rfl ?_
        refine o_icmpLe X39 at_113 132 116 (by decide) (by decide) rfl ?_ (fun q => by exfalso; exact absurd q (by decide))
        intro hc113
        refine o_iconst (v := (0 : Int32)) X39 at_132 rfl 133 rfl ?_
        refine o_iadd X39 at_133 134 rfl ?_
        refine o_iload X39 at_134 rfl 136 rfl ?_
        refine o_iconst (v := (2 : Int32)) X39 at_136 rfl 137 rfl ?_
        refine o_icmpLe X39 at_137 156 140 (by decide) (by decide) rfl ?_ (fun q => by exfalso; exact absurd q (by decide))
        intro hc137
        refine o_iconst (v := (0 : Int32)) X39 at_156 rfl 157 rfl ?_
        refine o_iadd X39 at_157 158 rfl ?_
        refine o_iload X39 at_158 rfl 160 rfl ?_
        refine o_iconst (v := (3 : Int32)) X39 at_160 rfl 161 rfl ?_
        refine o_icmpLe X39 at_161 180 164 (by decide) (by decide) rfl ?_ (fun q => by exfalso; exact absurd q (by decide))
        intro hc161
        refine o_iconst (v := (0 : Int32)) X39 at_180 rfl 181 rfl ?_
        refine o_iadd X39 at_181 182 rfl ?_
        refine o_istore X39 at_182 #[.val (.int xb), .val (.int xp), .val (.ref xt), .val (.int (2 : Int32)), .val (.int (1 : Int32)), .val (.int (3 : Int32)), .val (.int (f_fin (((31 : Int32) * (1 : Int32)) + t2))), .val (.int ((f_fin (((31 : Int32) * (1 : Int32)) + t2)) ^^^ (XT.ushr (f_fin (((31 : Int32) * (1 : Int32)) + t2)) (16 : Int32)))), .val (.int (((31 : Int32) * (1 : Int32)) + t2)), .val (.int (((((31 : Int32) + (t2 * (1 : Int32))) + (0 : Int32)) + (0 : Int32)) + (0 : Int32)))] rfl 184 rfl ?_
        refine o_iload X39 at_184 rfl 186 rfl ?_
        refine o_iload X39 at_186 rfl 188 rfl ?_
        refine o_icmpNe X39 at_188 195 191 (by decide) (by decide) rfl (fun q => by exfalso; exact q (by grind)) ?_
        intro hc188
        refine o_iconst (v := (1 : Int32)) X39 at_191 rfl 192 rfl ?_
        refine o_goto X39 at_192 196 (by decide) (by decide) ?_
        exact o_retZ X39 at_196 (by decide) (by decide) (hQ _ _ rfl)
      · rw [hv]
        refine o_iloadN X_J33 at_52 rfl 53 rfl ?_
        refine o_iload X_J33 at_53 rfl 55 rfl ?_
        refine o_iadd X_J33 at_55 56 rfl ?_
        refine o_istore X_J33 at_56 #[.val (.int xb), .val (.int xp), .val (.ref xt), .val (.int (2 : Int32)), .val (.int (2 : Int32)), .val (.int ((2 : Int32) + (2 : Int32))), .unset, .unset, .unset, .unset] rfl 58 rfl ?_
        rw [show ((2 : Int32) + (2 : Int32)) = (4 : Int32) from rfl]
        refine o_aloadN X_J33 at_58 rfl rfl 59 rfl ?_
        refine o_iloadN X_J33 at_59 rfl 60 rfl ?_
        refine o_iload X_J33 at_60 rfl 62 rfl ?_
        refine o_callS X_J33 at_62 (rest := []) (c_hash_2_2 l Z a0 hw [] n0 _ X_J33.size xt t0 t1 t2 t3 [] H_J33) (hw _ (List.mem_of_getElem? (i := 1) rfl)) (hw _ (List.mem_of_getElem? (i := 2) rfl)) (hw _ (List.mem_of_getElem? (i := 3) rfl)) (hw _ (List.mem_of_getElem? (i := 4) rfl)) (by decide) 0 (by decide) (by decide) rfl [(.ref xt), (.int (2 : Int32)), (.int (4 : Int32))] rfl pd_1 rfl rfl (Nat.le_of_eq rfl) 1 4 rfl rfl (by decide) (by decide) 65 rfl ?_
        rintro _ T40 _ X40 ⟨rfl, rfl⟩
        show OE p e room_1 below s n0 Q' T40 (mkF m 65 #[.val (.int xb), .val (.int xp), .val (.ref xt), .val (.int (2 : Int32)), .val (.int (2 : Int32)), .val (.int (4 : Int32)), .unset, .unset, .unset, .unset] [(.int (f_fin (((31 : Int32) * (((31 : Int32) * (1 : Int32)) + t2)) + t3)))])
        refine o_istore X40 at_65 #[.val (.int xb), .val (.int xp), .val (.ref xt), .val (.int (2 : Int32)), .val (.int (2 : Int32)), .val (.int (4 : Int32)), .val (.int (f_fin (((31 : Int32) * (((31 : Int32) * (1 : Int32)) + t2)) + t3))), .unset, .unset, .unset] rfl 67 rfl ?_
        refine o_iload X40 at_67 rfl 69 rfl ?_
        refine o_iload X40 at_69 rfl 71 rfl ?_
        refine o_bipush (v := (16 : Int32)) X40 at_71 rfl 73 rfl ?_
        refine o_iushr X40 at_73 74 rfl ?_
        refine o_ixor X40 at_74 75 rfl ?_
        refine o_istore X40 at_75 #[.val (.int xb), .val (.int xp), .val (.ref xt), .val (.int (2 : Int32)), .val (.int (2 : Int32)), .val (.int (4 : Int32)), .val (.int (f_fin (((31 : Int32) * (((31 : Int32) * (1 : Int32)) + t2)) + t3))), .val (.int ((f_fin (((31 : Int32) * (((31 : Int32) * (1 : Int32)) + t2)) + t3)) ^^^ (XT.ushr (f_fin (((31 : Int32) * (((31 : Int32) * (1 : Int32)) + t2)) + t3)) (16 : Int32)))), .unset, .unset] rfl 77 rfl ?_
        refine o_iload X40 at_77 rfl 79 rfl ?_
        refine o_ldc (v := (340573321 : Int32)) X40 at_79 (hw _ (List.mem_of_getElem? (i := 6) rfl)) 81 rfl ?_
        refine o_imul X40 at_81 82 rfl ?_
        refine o_istore X40 at_82 #[.val (.int xb), .val (.int xp), .val (.ref xt), .val (.int (2 : Int32)), .val (.int (2 : Int32)), .val (.int (4 : Int32)), .val (.int (f_fin (((31 : Int32) * (((31 : Int32) * (1 : Int32)) + t2)) + t3))), .val (.int ((f_fin (((31 : Int32) * (((31 : Int32) * (1 : Int32)) + t2)) + t3)) ^^^ (XT.ushr (f_fin (((31 : Int32) * (((31 : Int32) * (1 : Int32)) + t2)) + t3)) (16 : Int32)))), .val (.int (((f_fin (((31 : Int32) * (((31 : Int32) * (1 : Int32)) + t2)) + t3)) ^^^ (XT.ushr (f_fin (((31 : Int32) * (((31 : Int32) * (1 : Int32)) + t2)) + t3)) (16 : Int32))) * (340573321 : Int32))), .unset] rfl 84 rfl ?_
        rw [show (((f_fin (((31 : Int32) * (((31 : Int32) * (1 : Int32)) + t2)) + t3)) ^^^ (XT.ushr (f_fin (((31 : Int32) * (((31 : Int32) * (1 : Int32)) + t2)) + t3)) (16 : Int32))) * (340573321 : Int32)) = (((31 : Int32) * (((31 : Int32) * (1 : Int32)) + t2)) + t3) from v_poly _]
        refine o_iload X40 at_84 rfl 86 rfl ?_
        refine o_callS X40 at_86 (rest := []) (c_pow l Z a0 hw [] n0 _ X40.size (2 : Int32) ) (hw _ (List.mem_of_getElem? (i := 7) rfl)) (hw _ (List.mem_of_getElem? (i := 8) rfl)) (hw _ (List.mem_of_getElem? (i := 9) rfl)) (hw _ (List.mem_of_getElem? (i := 10) rfl)) (by decide) 0 (by decide) (by decide) rfl [(.int (2 : Int32))] rfl pd_2 rfl rfl (Nat.le_of_eq rfl) 1 4 rfl rfl (by decide) (by decide) 89 rfl ?_
        rintro _ T41 _ X41 ⟨rfl, rfl⟩
        rw [show (f_pow (2 : Int32)) = (961 : Int32) from rfl]
        show OE p e room_1 below s n0 Q' T41 (mkF m 89 #[.val (.int xb), .val (.int xp), .val (.ref xt), .val (.int (2 : Int32)), .val (.int (2 : Int32)), .val (.int (4 : Int32)), .val (.int (f_fin (((31 : Int32) * (((31 : Int32) * (1 : Int32)) + t2)) + t3))), .val (.int ((f_fin (((31 : Int32) * (((31 : Int32) * (1 : Int32)) + t2)) + t3)) ^^^ (XT.ushr (f_fin (((31 : Int32) * (((31 : Int32) * (1 : Int32)) + t2)) + t3)) (16 : Int32)))), .val (.int (((31 : Int32) * (((31 : Int32) * (1 : Int32)) + t2)) + t3)), .unset] [(.int (961 : Int32))])
        refine o_iload X41 at_89 rfl 91 rfl ?_
        refine o_ifLe X41 at_91 108 94 (by decide) (by decide) rfl (fun q => by exfalso; exact absurd q (by decide)) ?_
        intro hc91
        refine o_aloadN X41 at_94 rfl rfl 95 rfl ?_
        refine o_iloadN X41 at_95 rfl 96 rfl ?_
        refine o_baloadB X41 H_J33 0 rfl at_96 2 rfl t2 rfl 97 rfl ?_
        refine o_iload X41 at_97 rfl 99 rfl ?_
        refine o_iconst (v := (1 : Int32)) X41 at_99 rfl 100 rfl ?_
        refine o_isub X41 at_100 101 rfl ?_
        refine o_callS X41 at_101 (rest := [(.int t2), (.int (961 : Int32))]) (c_pow l Z a0 hw [] n0 _ X41.size ((2 : Int32) - (1 : Int32)) ) (hw _ (List.mem_of_getElem? (i := 7) rfl)) (hw _ (List.mem_of_getElem? (i := 8) rfl)) (hw _ (List.mem_of_getElem? (i := 9) rfl)) (hw _ (List.mem_of_getElem? (i := 10) rfl)) (by decide) 2 (by decide) (by decide) rfl [(.int ((2 : Int32) - (1 : Int32)))] rfl pd_2 rfl rfl (Nat.le_of_eq rfl) 1 4 rfl rfl (by decide) (by decide) 104 rfl ?_
        rintro _ T42 _ X42 ⟨rfl, rfl⟩
        rw [show (f_pow ((2 : Int32) - (1 : Int32))) = (31 : Int32) from rfl]
        show OE p e room_1 below s n0 Q' T42 (mkF m 104 #[.val (.int xb), .val (.int xp), .val (.ref xt), .val (.int (2 : Int32)), .val (.int (2 : Int32)), .val (.int (4 : Int32)), .val (.int (f_fin (((31 : Int32) * (((31 : Int32) * (1 : Int32)) + t2)) + t3))), .val (.int ((f_fin (((31 : Int32) * (((31 : Int32) * (1 : Int32)) + t2)) + t3)) ^^^ (XT.ushr (f_fin (((31 : Int32) * (((31 : Int32) * (1 : Int32)) + t2)) + t3)) (16 : Int32)))), .val (.int (((31 : Int32) * (((31 : Int32) * (1 : Int32)) + t2)) + t3)), .unset] [(.int (31 : Int32)), (.int t2), (.int (961 : Int32))])
        refine o_imul X42 at_104 105 rfl ?_
        refine o_goto X42 at_105 109 (by decide) (by decide) ?_
        refine o_iadd X42 at_109 110 rfl ?_
        refine o_iload X42 at_110 rfl 112 rfl ?_
        refine o_iconst (v := (1 : Int32)) X42 at_112 rfl 113 rfl ?_
        refine o_icmpLe X42 at_113 132 116 (by decide) (by decide) rfl (fun q => by exfalso; exact absurd q (by decide)) ?_
        intro hc113
        refine o_aloadN X42 at_116 rfl rfl 117 rfl ?_
        refine o_iloadN X42 at_117 rfl 118 rfl ?_
        refine o_iconst (v := (1 : Int32)) X42 at_118 rfl 119 rfl ?_
        refine o_iadd X42 at_119 120 rfl ?_
        refine o_baloadB X42 H_J33 0 rfl at_120 3 rfl t3 rfl 121 rfl ?_
        refine o_iload X42 at_121 rfl 123 rfl ?_
        refine o_iconst (v := (2 : Int32)) X42 at_123 rfl 124 rfl ?_
        refine o_isub X42 at_124 125 rfl ?_
        refine o_callS X42 at_125 (rest := [(.int t3), (.int ((961 : Int32) + (t2 * (31 : Int32))))]) (c_pow l Z a0 hw [] n0 _ X42.size ((2 : Int32) - (2 : Int32)) ) (hw _ (List.mem_of_getElem? (i := 7) rfl)) (hw _ (List.mem_of_getElem? (i := 8) rfl)) (hw _ (List.mem_of_getElem? (i := 9) rfl)) (hw _ (List.mem_of_getElem? (i := 10) rfl)) (by decide) 2 (by decide) (by decide) rfl [(.int ((2 : Int32) - (2 : Int32)))] rfl pd_2 rfl rfl (Nat.le_of_eq rfl) 1 4 rfl rfl (by decide) (by decide) 128 rfl ?_
        rintro _ T43 _ X43 ⟨rfl, rfl⟩
        rw [show (f_pow ((2 : Int32) - (2 : Int32))) = (1 : Int32) from rfl]
        show OE p e room_1 below s n0 Q' T43 (mkF m 128 #[.val (.int xb), .val (.int xp), .val (.ref xt), .val (.int (2 : Int32)), .val (.int (2 : Int32)), .val (.int (4 : Int32)), .val (.int (f_fin (((31 : Int32) * (((31 : Int32) * (1 : Int32)) + t2)) + t3))), .val (.int ((f_fin (((31 : Int32) * (((31 : Int32) * (1 : Int32)) + t2)) + t3)) ^^^ (XT.ushr (f_fin (((31 : Int32) * (((31 : Int32) * (1 : Int32)) + t2)) + t3)) (16 : Int32)))), .val (.int (((31 : Int32) * (((31 : Int32) * (1 : Int32)) + t2)) + t3)), .unset] [(.int (1 : Int32)), (.int t3), (.int ((961 : Int32) + (t2 * (31 : Int32))))])
        refine o_imul X43 at_128 129 rfl ?_
        refine o_goto X43 at_129 133 (by decide) (by decide) ?_
        refine o_iadd X43 at_133 134 rfl ?_
        refine o_iload X43 at_134 rfl 136 rfl ?_
        refine o_iconst (v := (2 : Int32)) X43 at_136 rfl 137 rfl ?_
        refine o_icmpLe X43 at_137 156 140 (by decide) (by decide) rfl ?_ (fun q => by exfalso; exact absurd q (by decide))
        intro hc137
        refine o_iconst (v := (0 : Int32)) X43 at_156 rfl 157 rfl ?_
        refine o_iadd X43 at_157 158 rfl ?_
        refine o_iload X43 at_158 rfl 160 rfl ?_
        refine o_iconst (v := (3 : Int32)) X43 at_160 rfl 161 rfl ?_
        refine o_icmpLe X43 at_161 180 164 (by decide) (by decide) rfl ?_ (fun q => by exfalso; exact absurd q (by decide))
        intro hc161
        refine o_iconst (v := (0 : Int32)) X43 at_180 rfl 181 rfl ?_
        refine o_iadd X43 at_181 182 rfl ?_
        refine o_istore X43 at_182 #[.val (.int xb), .val (.int xp), .val (.ref xt), .val (.int (2 : Int32)), .val (.int (2 : Int32)), .val (.int (4 : Int32)), .val (.int (f_fin (((31 : Int32) * (((31 : Int32) * (1 : Int32)) + t2)) + t3))), .val (.int ((f_fin (((31 : Int32) * (((31 : Int32) * (1 : Int32)) + t2)) + t3)) ^^^ (XT.ushr (f_fin (((31 : Int32) * (((31 : Int32) * (1 : Int32)) + t2)) + t3)) (16 : Int32)))), .val (.int (((31 : Int32) * (((31 : Int32) * (1 : Int32)) + t2)) + t3)), .val (.int (((((961 : Int32) + (t2 * (31 : Int32))) + (t3 * (1 : Int32))) + (0 : Int32)) + (0 : Int32)))] rfl 184 rfl ?_
        refine o_iload X43 at_184 rfl 186 rfl ?_
        refine o_iload X43 at_186 rfl 188 rfl ?_
        refine o_icmpNe X43 at_188 195 191 (by decide) (by decide) rfl (fun q => by exfalso; exact q (by grind)) ?_
        intro hc188
        refine o_iconst (v := (1 : Int32)) X43 at_191 rfl 192 rfl ?_
        refine o_goto X43 at_192 196 (by decide) (by decide) ?_
        exact o_retZ X43 at_196 (by decide) (by decide) (hQ _ _ rfl)
    · rw [hv]
      refine o_iloadN X_J33 at_40 rfl 41 rfl ?_
      refine o_iconst (v := (3 : Int32)) X_J33 at_41 rfl 42 rfl ?_
      refine o_iushr X_J33 at_42 43 rfl ?_
      refine o_bipush (v := (7 : Int32)) X_J33 at_43 rfl 45 rfl ?_
      refine o_iand X_J33 at_45 46 rfl ?_
      refine o_iconst (v := (5 : Int32)) X_J33 at_46 rfl 47 rfl ?_
      refine o_iloadN X_J33 at_47 rfl 48 rfl ?_
      refine o_isub X_J33 at_48 49 rfl ?_
      refine o_irem X_J33 at_49 (by decide) 50 rfl ?_
      refine o_istore X_J33 at_50 #[.val (.int xb), .val (.int xp), .val (.ref xt), .val (.int (3 : Int32)), .val (.int (((XT.ushr xp (3 : Int32)) &&& (7 : Int32)) % ((5 : Int32) - (3 : Int32)))), .unset, .unset, .unset, .unset, .unset] rfl 52 rfl ?_
      rcases v_l3 (XT.ushr xp 3) with hv | hv
      · rw [hv]
        refine o_iloadN X_J33 at_52 rfl 53 rfl ?_
        refine o_iload X_J33 at_53 rfl 55 rfl ?_
        refine o_iadd X_J33 at_55 56 rfl ?_
        refine o_istore X_J33 at_56 #[.val (.int xb), .val (.int xp), .val (.ref xt), .val (.int (3 : Int32)), .val (.int (0 : Int32)), .val (.int ((3 : Int32) + (0 : Int32))), .unset, .unset, .unset, .unset] rfl 58 rfl ?_
        rw [show ((3 : Int32) + (0 : Int32)) = (3 : Int32) from rfl]
        refine o_aloadN X_J33 at_58 rfl rfl 59 rfl ?_
        refine o_iloadN X_J33 at_59 rfl 60 rfl ?_
        refine o_iload X_J33 at_60 rfl 62 rfl ?_
        refine o_callS X_J33 at_62 (rest := []) (c_hash_3_0 l Z a0 hw [] n0 _ X_J33.size xt t0 t1 t2 t3 [] H_J33) (hw _ (List.mem_of_getElem? (i := 1) rfl)) (hw _ (List.mem_of_getElem? (i := 2) rfl)) (hw _ (List.mem_of_getElem? (i := 3) rfl)) (hw _ (List.mem_of_getElem? (i := 4) rfl)) (by decide) 0 (by decide) (by decide) rfl [(.ref xt), (.int (3 : Int32)), (.int (3 : Int32))] rfl pd_1 rfl rfl (Nat.le_of_eq rfl) 1 4 rfl rfl (by decide) (by decide) 65 rfl ?_
        rintro _ T44 _ X44 ⟨rfl, rfl⟩
        show OE p e room_1 below s n0 Q' T44 (mkF m 65 #[.val (.int xb), .val (.int xp), .val (.ref xt), .val (.int (3 : Int32)), .val (.int (0 : Int32)), .val (.int (3 : Int32)), .unset, .unset, .unset, .unset] [(.int (f_fin (1 : Int32)))])
        refine o_istore X44 at_65 #[.val (.int xb), .val (.int xp), .val (.ref xt), .val (.int (3 : Int32)), .val (.int (0 : Int32)), .val (.int (3 : Int32)), .val (.int (f_fin (1 : Int32))), .unset, .unset, .unset] rfl 67 rfl ?_
        refine o_iload X44 at_67 rfl 69 rfl ?_
        refine o_iload X44 at_69 rfl 71 rfl ?_
        refine o_bipush (v := (16 : Int32)) X44 at_71 rfl 73 rfl ?_
        refine o_iushr X44 at_73 74 rfl ?_
        refine o_ixor X44 at_74 75 rfl ?_
        refine o_istore X44 at_75 #[.val (.int xb), .val (.int xp), .val (.ref xt), .val (.int (3 : Int32)), .val (.int (0 : Int32)), .val (.int (3 : Int32)), .val (.int (f_fin (1 : Int32))), .val (.int ((f_fin (1 : Int32)) ^^^ (XT.ushr (f_fin (1 : Int32)) (16 : Int32)))), .unset, .unset] rfl 77 rfl ?_
        refine o_iload X44 at_77 rfl 79 rfl ?_
        refine o_ldc (v := (340573321 : Int32)) X44 at_79 (hw _ (List.mem_of_getElem? (i := 6) rfl)) 81 rfl ?_
        refine o_imul X44 at_81 82 rfl ?_
        refine o_istore X44 at_82 #[.val (.int xb), .val (.int xp), .val (.ref xt), .val (.int (3 : Int32)), .val (.int (0 : Int32)), .val (.int (3 : Int32)), .val (.int (f_fin (1 : Int32))), .val (.int ((f_fin (1 : Int32)) ^^^ (XT.ushr (f_fin (1 : Int32)) (16 : Int32)))), .val (.int (((f_fin (1 : Int32)) ^^^ (XT.ushr (f_fin (1 : Int32)) (16 : Int32))) * (340573321 : Int32))), .unset] rfl 84 rfl ?_
        rw [show (((f_fin (1 : Int32)) ^^^ (XT.ushr (f_fin (1 : Int32)) (16 : Int32))) * (340573321 : Int32)) = (1 : Int32) from v_poly _]
        refine o_iload X44 at_84 rfl 86 rfl ?_
        refine o_callS X44 at_86 (rest := []) (c_pow l Z a0 hw [] n0 _ X44.size (0 : Int32) ) (hw _ (List.mem_of_getElem? (i := 7) rfl)) (hw _ (List.mem_of_getElem? (i := 8) rfl)) (hw _ (List.mem_of_getElem? (i := 9) rfl)) (hw _ (List.mem_of_getElem? (i := 10) rfl)) (by decide) 0 (by decide) (by decide) rfl [(.int (0 : Int32))] rfl pd_2 rfl rfl (Nat.le_of_eq rfl) 1 4 rfl rfl (by decide) (by decide) 89 rfl ?_
        rintro _ T45 _ X45 ⟨rfl, rfl⟩
        rw [show (f_pow (0 : Int32)) = (1 : Int32) from rfl]
        show OE p e room_1 below s n0 Q' T45 (mkF m 89 #[.val (.int xb), .val (.int xp), .val (.ref xt), .val (.int (3 : Int32)), .val (.int (0 : Int32)), .val (.int (3 : Int32)), .val (.int (f_fin (1 : Int32))), .val (.int ((f_fin (1 : Int32)) ^^^ (XT.ushr (f_fin (1 : Int32)) (16 : Int32)))), .val (.int (1 : Int32)), .unset] [(.int (1 : Int32))])
        refine o_iload X45 at_89 rfl 91 rfl ?_
        refine o_ifLe X45 at_91 108 94 (by decide) (by decide) rfl ?_ (fun q => by exfalso; exact absurd q (by decide))
        intro hc91
        refine o_iconst (v := (0 : Int32)) X45 at_108 rfl 109 rfl ?_
        refine o_iadd X45 at_109 110 rfl ?_
        refine o_iload X45 at_110 rfl 112 rfl ?_
        refine o_iconst (v := (1 : Int32)) X45 at_112 rfl 113 rfl ?_
        refine o_icmpLe X45 at_113 132 116 (by decide) (by decide) rfl ?_ (fun q => by exfalso; exact absurd q (by decide))
        intro hc113
        refine o_iconst (v := (0 : Int32)) X45 at_132 rfl 133 rfl ?_
        refine o_iadd X45 at_133 134 rfl ?_
        refine o_iload X45 at_134 rfl 136 rfl ?_
        refine o_iconst (v := (2 : Int32)) X45 at_136 rfl 137 rfl ?_
        refine o_icmpLe X45 at_137 156 140 (by decide) (by decide) rfl ?_ (fun q => by exfalso; exact absurd q (by decide))
        intro hc137
        refine o_iconst (v := (0 : Int32)) X45 at_156 rfl 157 rfl ?_
        refine o_iadd X45 at_157 158 rfl ?_
        refine o_iload X45 at_158 rfl 160 rfl ?_
        refine o_iconst (v := (3 : Int32)) X45 at_160 rfl 161 rfl ?_
        refine o_icmpLe X45 at_161 180 164 (by decide) (by decide) rfl ?_ (fun q => by exfalso; exact absurd q (by decide))
        intro hc161
        refine o_iconst (v := (0 : Int32)) X45 at_180 rfl 181 rfl ?_
        refine o_iadd X45 at_181 182 rfl ?_
        refine o_istore X45 at_182 #[.val (.int xb), .val (.int xp), .val (.ref xt), .val (.int (3 : Int32)), .val (.int (0 : Int32)), .val (.int (3 : Int32)), .val (.int (f_fin (1 : Int32))), .val (.int ((f_fin (1 : Int32)) ^^^ (XT.ushr (f_fin (1 : Int32)) (16 : Int32)))), .val (.int (1 : Int32)), .val (.int (((((1 : Int32) + (0 : Int32)) + (0 : Int32)) + (0 : Int32)) + (0 : Int32)))] rfl 184 rfl ?_
        rw [show (((((1 : Int32) + (0 : Int32)) + (0 : Int32)) + (0 : Int32)) + (0 : Int32)) = (1 : Int32) from rfl]
        refine o_iload X45 at_184 rfl 186 rfl ?_
        refine o_iload X45 at_186 rfl 188 rfl ?_
        refine o_icmpNe X45 at_188 195 191 (by decide) (by decide) rfl (fun q => by exfalso; exact q (by grind)) ?_
        intro hc188
        refine o_iconst (v := (1 : Int32)) X45 at_191 rfl 192 rfl ?_
        refine o_goto X45 at_192 196 (by decide) (by decide) ?_
        exact o_retZ X45 at_196 (by decide) (by decide) (hQ _ _ rfl)
      · rw [hv]
        refine o_iloadN X_J33 at_52 rfl 53 rfl ?_
        refine o_iload X_J33 at_53 rfl 55 rfl ?_
        refine o_iadd X_J33 at_55 56 rfl ?_
        refine o_istore X_J33 at_56 #[.val (.int xb), .val (.int xp), .val (.ref xt), .val (.int (3 : Int32)), .val (.int (1 : Int32)), .val (.int ((3 : Int32) + (1 : Int32))), .unset, .unset, .unset, .unset] rfl 58 rfl ?_
        rw [show ((3 : Int32) + (1 : Int32)) = (4 : Int32) from rfl]
        refine o_aloadN X_J33 at_58 rfl rfl 59 rfl ?_
        refine o_iloadN X_J33 at_59 rfl 60 rfl ?_
        refine o_iload X_J33 at_60 rfl 62 rfl ?_
        refine o_callS X_J33 at_62 (rest := []) (c_hash_3_1 l Z a0 hw [] n0 _ X_J33.size xt t0 t1 t2 t3 [] H_J33) (hw _ (List.mem_of_getElem? (i := 1) rfl)) (hw _ (List.mem_of_getElem? (i := 2) rfl)) (hw _ (List.mem_of_getElem? (i := 3) rfl)) (hw _ (List.mem_of_getElem? (i := 4) rfl)) (by decide) 0 (by decide) (by decide) rfl [(.ref xt), (.int (3 : Int32)), (.int (4 : Int32))] rfl pd_1 rfl rfl (Nat.le_of_eq rfl) 1 4 rfl rfl (by decide) (by decide) 65 rfl ?_
        rintro _ T46 _ X46 ⟨rfl, rfl⟩
        show OE p e room_1 below s n0 Q' T46 (mkF m 65 #[.val (.int xb), .val (.int xp), .val (.ref xt), .val (.int (3 : Int32)), .val (.int (1 : Int32)), .val (.int (4 : Int32)), .unset, .unset, .unset, .unset] [(.int (f_fin (((31 : Int32) * (1 : Int32)) + t3)))])
        refine o_istore X46 at_65 #[.val (.int xb), .val (.int xp), .val (.ref xt), .val (.int (3 : Int32)), .val (.int (1 : Int32)), .val (.int (4 : Int32)), .val (.int (f_fin (((31 : Int32) * (1 : Int32)) + t3))), .unset, .unset, .unset] rfl 67 rfl ?_
        refine o_iload X46 at_67 rfl 69 rfl ?_
        refine o_iload X46 at_69 rfl 71 rfl ?_
        refine o_bipush (v := (16 : Int32)) X46 at_71 rfl 73 rfl ?_
        refine o_iushr X46 at_73 74 rfl ?_
        refine o_ixor X46 at_74 75 rfl ?_
        refine o_istore X46 at_75 #[.val (.int xb), .val (.int xp), .val (.ref xt), .val (.int (3 : Int32)), .val (.int (1 : Int32)), .val (.int (4 : Int32)), .val (.int (f_fin (((31 : Int32) * (1 : Int32)) + t3))), .val (.int ((f_fin (((31 : Int32) * (1 : Int32)) + t3)) ^^^ (XT.ushr (f_fin (((31 : Int32) * (1 : Int32)) + t3)) (16 : Int32)))), .unset, .unset] rfl 77 rfl ?_
        refine o_iload X46 at_77 rfl 79 rfl ?_
        refine o_ldc (v := (340573321 : Int32)) X46 at_79 (hw _ (List.mem_of_getElem? (i := 6) rfl)) 81 rfl ?_
        refine o_imul X46 at_81 82 rfl ?_
        refine o_istore X46 at_82 #[.val (.int xb), .val (.int xp), .val (.ref xt), .val (.int (3 : Int32)), .val (.int (1 : Int32)), .val (.int (4 : Int32)), .val (.int (f_fin (((31 : Int32) * (1 : Int32)) + t3))), .val (.int ((f_fin (((31 : Int32) * (1 : Int32)) + t3)) ^^^ (XT.ushr (f_fin (((31 : Int32) * (1 : Int32)) + t3)) (16 : Int32)))), .val (.int (((f_fin (((31 : Int32) * (1 : Int32)) + t3)) ^^^ (XT.ushr (f_fin (((31 : Int32) * (1 : Int32)) + t3)) (16 : Int32))) * (340573321 : Int32))), .unset] rfl 84 rfl ?_
        rw [show (((f_fin (((31 : Int32) * (1 : Int32)) + t3)) ^^^ (XT.ushr (f_fin (((31 : Int32) * (1 : Int32)) + t3)) (16 : Int32))) * (340573321 : Int32)) = (((31 : Int32) * (1 : Int32)) + t3) from v_poly _]
        refine o_iload X46 at_84 rfl 86 rfl ?_
        refine o_callS X46 at_86 (rest := []) (c_pow l Z a0 hw [] n0 _ X46.size (1 : Int32) ) (hw _ (List.mem_of_getElem? (i := 7) rfl)) (hw _ (List.mem_of_getElem? (i := 8) rfl)) (hw _ (List.mem_of_getElem? (i := 9) rfl)) (hw _ (List.mem_of_getElem? (i := 10) rfl)) (by decide) 0 (by decide) (by decide) rfl [(.int (1 : Int32))] rfl pd_2 rfl rfl (Nat.le_of_eq rfl) 1 4 rfl rfl (by decide) (by decide) 89 rfl ?_
        rintro _ T47 _ X47 ⟨rfl, rfl⟩
        rw [show (f_pow (1 : Int32)) = (31 : Int32) from rfl]
        show OE p e room_1 below s n0 Q' T47 (mkF m 89 #[.val (.int xb), .val (.int xp), .val (.ref xt), .val (.int (3 : Int32)), .val (.int (1 : Int32)), .val (.int (4 : Int32)), .val (.int (f_fin (((31 : Int32) * (1 : Int32)) + t3))), .val (.int ((f_fin (((31 : Int32) * (1 : Int32)) + t3)) ^^^ (XT.ushr (f_fin (((31 : Int32) * (1 : Int32)) + t3)) (16 : Int32)))), .val (.int (((31 : Int32) * (1 : Int32)) + t3)), .unset] [(.int (31 : Int32))])
        refine o_iload X47 at_89 rfl 91 rfl ?_
        refine o_ifLe X47 at_91 108 94 (by decide) (by decide) rfl (fun q => by exfalso; exact absurd q (by decide)) ?_
        intro hc91
        refine o_aloadN X47 at_94 rfl rfl 95 rfl ?_
        refine o_iloadN X47 at_95 rfl 96 rfl ?_
        refine o_baloadB X47 H_J33 0 rfl at_96 3 rfl t3 rfl 97 rfl ?_
        refine o_iload X47 at_97 rfl 99 rfl ?_
        refine o_iconst (v := (1 : Int32)) X47 at_99 rfl 100 rfl ?_
        refine o_isub X47 at_100 101 rfl ?_
        refine o_callS X47 at_101 (rest := [(.int t3), (.int (31 : Int32))]) (c_pow l Z a0 hw [] n0 _ X47.size ((1 : Int32) - (1 : Int32)) ) (hw _ (List.mem_of_getElem? (i := 7) rfl)) (hw _ (List.mem_of_getElem? (i := 8) rfl)) (hw _ (List.mem_of_getElem? (i := 9) rfl)) (hw _ (List.mem_of_getElem? (i := 10) rfl)) (by decide) 2 (by decide) (by decide) rfl [(.int ((1 : Int32) - (1 : Int32)))] rfl pd_2 rfl rfl (Nat.le_of_eq rfl) 1 4 rfl rfl (by decide) (by decide) 104 rfl ?_
        rintro _ T48 _ X48 ⟨rfl, rfl⟩
        rw [show (f_pow ((1 : Int32) - (1 : Int32))) = (1 : Int32) from rfl]
        show OE p e room_1 below s n0 Q' T48 (mkF m 104 #[.val (.int xb), .val (.int xp), .val (.ref xt), .val (.int (3 : Int32)), .val (.int (1 : Int32)), .val (.int (4 : Int32)), .val (.int (f_fin (((31 : Int32) * (1 : Int32)) + t3))), .val (.int ((f_fin (((31 : Int32) * (1 : Int32)) + t3)) ^^^ (XT.ushr (f_fin (((31 : Int32) * (1 : Int32)) + t3)) (16 : Int32)))), .val (.int (((31 : Int32) * (1 : Int32)) + t3)), .unset] [(.int (1 : Int32)), (.int t3), (.int (31 : Int32))])
        refine o_imul X48 at_104 105 rfl ?_
        refine o_goto X48 at_105 109 (by decide) (by decide) ?_
        refine o_iadd X48 at_109 110 rfl ?_
        refine o_iload X48 at_110 rfl 112 rfl ?_
        refine o_iconst (v := (1 : Int32)) X48 at_112 rfl 113 rfl ?_
        refine o_icmpLe X48 at_113 132 116 (by decide) (by decide) rfl ?_ (fun q => by exfalso; exact absurd q (by decide))
        intro hc113
        refine o_iconst (v := (0 : Int32)) X48 at_132 rfl 133 rfl ?_
        refine o_iadd X48 at_133 134 rfl ?_
        refine o_iload X48 at_134 rfl 136 rfl ?_
        refine o_iconst (v := (2 : Int32)) X48 at_136 rfl 137 rfl ?_
        refine o_icmpLe X48 at_137 156 140 (by decide) (by decide) rfl ?_ (fun q => by exfalso; exact absurd q (by decide))
        intro hc137
        refine o_iconst (v := (0 : Int32)) X48 at_156 rfl 157 rfl ?_
        refine o_iadd X48 at_157 158 rfl ?_
        refine o_iload X48 at_158 rfl 160 rfl ?_
        refine o_iconst (v := (3 : Int32)) X48 at_160 rfl 161 rfl ?_
        refine o_icmpLe X48 at_161 180 164 (by decide) (by decide) rfl ?_ (fun q => by exfalso; exact absurd q (by decide))
        intro hc161
        refine o_iconst (v := (0 : Int32)) X48 at_180 rfl 181 rfl ?_
        refine o_iadd X48 at_181 182 rfl ?_
        refine o_istore X48 at_182 #[.val (.int xb), .val (.int xp), .val (.ref xt), .val (.int (3 : Int32)), .val (.int (1 : Int32)), .val (.int (4 : Int32)), .val (.int (f_fin (((31 : Int32) * (1 : Int32)) + t3))), .val (.int ((f_fin (((31 : Int32) * (1 : Int32)) + t3)) ^^^ (XT.ushr (f_fin (((31 : Int32) * (1 : Int32)) + t3)) (16 : Int32)))), .val (.int (((31 : Int32) * (1 : Int32)) + t3)), .val (.int (((((31 : Int32) + (t3 * (1 : Int32))) + (0 : Int32)) + (0 : Int32)) + (0 : Int32)))] rfl 184 rfl ?_
        refine o_iload X48 at_184 rfl 186 rfl ?_
        refine o_iload X48 at_186 rfl 188 rfl ?_
        refine o_icmpNe X48 at_188 195 191 (by decide) (by decide) rfl (fun q => by exfalso; exact q (by grind)) ?_
        intro hc188
        refine o_iconst (v := (1 : Int32)) X48 at_191 rfl 192 rfl ?_
        refine o_goto X48 at_192 196 (by decide) (by decide) ?_
        exact o_retZ X48 at_196 (by decide) (by decide) (hQ _ _ rfl)
    · rw [hv]
      refine o_iloadN X_J33 at_40 rfl 41 rfl ?_
      refine o_iconst (v := (3 : Int32)) X_J33 at_41 rfl 42 rfl ?_
      refine o_iushr X_J33 at_42 43 rfl ?_
      refine o_bipush (v := (7 : Int32)) X_J33 at_43 rfl 45 rfl ?_
      refine o_iand X_J33 at_45 46 rfl ?_
      refine o_iconst (v := (5 : Int32)) X_J33 at_46 rfl 47 rfl ?_
      refine o_iloadN X_J33 at_47 rfl 48 rfl ?_
      refine o_isub X_J33 at_48 49 rfl ?_
      refine o_irem X_J33 at_49 (by decide) 50 rfl ?_
      refine o_istore X_J33 at_50 #[.val (.int xb), .val (.int xp), .val (.ref xt), .val (.int (4 : Int32)), .val (.int (((XT.ushr xp (3 : Int32)) &&& (7 : Int32)) % ((5 : Int32) - (4 : Int32)))), .unset, .unset, .unset, .unset, .unset] rfl 52 rfl ?_
      rcases v_l4 (XT.ushr xp 3) with hv
      · rw [hv]
        refine o_iloadN X_J33 at_52 rfl 53 rfl ?_
        refine o_iload X_J33 at_53 rfl 55 rfl ?_
        refine o_iadd X_J33 at_55 56 rfl ?_
        refine o_istore X_J33 at_56 #[.val (.int xb), .val (.int xp), .val (.ref xt), .val (.int (4 : Int32)), .val (.int (0 : Int32)), .val (.int ((4 : Int32) + (0 : Int32))), .unset, .unset, .unset, .unset] rfl 58 rfl ?_
        rw [show ((4 : Int32) + (0 : Int32)) = (4 : Int32) from rfl]
        refine o_aloadN X_J33 at_58 rfl rfl 59 rfl ?_
        refine o_iloadN X_J33 at_59 rfl 60 rfl ?_
        refine o_iload X_J33 at_60 rfl 62 rfl ?_
        refine o_callS X_J33 at_62 (rest := []) (c_hash_4_0 l Z a0 hw [] n0 _ X_J33.size xt t0 t1 t2 t3 [] H_J33) (hw _ (List.mem_of_getElem? (i := 1) rfl)) (hw _ (List.mem_of_getElem? (i := 2) rfl)) (hw _ (List.mem_of_getElem? (i := 3) rfl)) (hw _ (List.mem_of_getElem? (i := 4) rfl)) (by decide) 0 (by decide) (by decide) rfl [(.ref xt), (.int (4 : Int32)), (.int (4 : Int32))] rfl pd_1 rfl rfl (Nat.le_of_eq rfl) 1 4 rfl rfl (by decide) (by decide) 65 rfl ?_
        rintro _ T49 _ X49 ⟨rfl, rfl⟩
        show OE p e room_1 below s n0 Q' T49 (mkF m 65 #[.val (.int xb), .val (.int xp), .val (.ref xt), .val (.int (4 : Int32)), .val (.int (0 : Int32)), .val (.int (4 : Int32)), .unset, .unset, .unset, .unset] [(.int (f_fin (1 : Int32)))])
        refine o_istore X49 at_65 #[.val (.int xb), .val (.int xp), .val (.ref xt), .val (.int (4 : Int32)), .val (.int (0 : Int32)), .val (.int (4 : Int32)), .val (.int (f_fin (1 : Int32))), .unset, .unset, .unset] rfl 67 rfl ?_
        refine o_iload X49 at_67 rfl 69 rfl ?_
        refine o_iload X49 at_69 rfl 71 rfl ?_
        refine o_bipush (v := (16 : Int32)) X49 at_71 rfl 73 rfl ?_
        refine o_iushr X49 at_73 74 rfl ?_
        refine o_ixor X49 at_74 75 rfl ?_
        refine o_istore X49 at_75 #[.val (.int xb), .val (.int xp), .val (.ref xt), .val (.int (4 : Int32)), .val (.int (0 : Int32)), .val (.int (4 : Int32)), .val (.int (f_fin (1 : Int32))), .val (.int ((f_fin (1 : Int32)) ^^^ (XT.ushr (f_fin (1 : Int32)) (16 : Int32)))), .unset, .unset] rfl 77 rfl ?_
        refine o_iload X49 at_77 rfl 79 rfl ?_
        refine o_ldc (v := (340573321 : Int32)) X49 at_79 (hw _ (List.mem_of_getElem? (i := 6) rfl)) 81 rfl ?_
        refine o_imul X49 at_81 82 rfl ?_
        refine o_istore X49 at_82 #[.val (.int xb), .val (.int xp), .val (.ref xt), .val (.int (4 : Int32)), .val (.int (0 : Int32)), .val (.int (4 : Int32)), .val (.int (f_fin (1 : Int32))), .val (.int ((f_fin (1 : Int32)) ^^^ (XT.ushr (f_fin (1 : Int32)) (16 : Int32)))), .val (.int (((f_fin (1 : Int32)) ^^^ (XT.ushr (f_fin (1 : Int32)) (16 : Int32))) * (340573321 : Int32))), .unset] rfl 84 rfl ?_
        rw [show (((f_fin (1 : Int32)) ^^^ (XT.ushr (f_fin (1 : Int32)) (16 : Int32))) * (340573321 : Int32)) = (1 : Int32) from v_poly _]
        refine o_iload X49 at_84 rfl 86 rfl ?_
        refine o_callS X49 at_86 (rest := []) (c_pow l Z a0 hw [] n0 _ X49.size (0 : Int32) ) (hw _ (List.mem_of_getElem? (i := 7) rfl)) (hw _ (List.mem_of_getElem? (i := 8) rfl)) (hw _ (List.mem_of_getElem? (i := 9) rfl)) (hw _ (List.mem_of_getElem? (i := 10) rfl)) (by decide) 0 (by decide) (by decide) rfl [(.int (0 : Int32))] rfl pd_2 rfl rfl (Nat.le_of_eq rfl) 1 4 rfl rfl (by decide) (by decide) 89 rfl ?_
        rintro _ T50 _ X50 ⟨rfl, rfl⟩
        rw [show (f_pow (0 : Int32)) = (1 : Int32) from rfl]
        show OE p e room_1 below s n0 Q' T50 (mkF m 89 #[.val (.int xb), .val (.int xp), .val (.ref xt), .val (.int (4 : Int32)), .val (.int (0 : Int32)), .val (.int (4 : Int32)), .val (.int (f_fin (1 : Int32))), .val (.int ((f_fin (1 : Int32)) ^^^ (XT.ushr (f_fin (1 : Int32)) (16 : Int32)))), .val (.int (1 : Int32)), .unset] [(.int (1 : Int32))])
        refine o_iload X50 at_89 rfl 91 rfl ?_
        refine o_ifLe X50 at_91 108 94 (by decide) (by decide) rfl ?_ (fun q => by exfalso; exact absurd q (by decide))
        intro hc91
        refine o_iconst (v := (0 : Int32)) X50 at_108 rfl 109 rfl ?_
        refine o_iadd X50 at_109 110 rfl ?_
        refine o_iload X50 at_110 rfl 112 rfl ?_
        refine o_iconst (v := (1 : Int32)) X50 at_112 rfl 113 rfl ?_
        refine o_icmpLe X50 at_113 132 116 (by decide) (by decide) rfl ?_ (fun q => by exfalso; exact absurd q (by decide))
        intro hc113
        refine o_iconst (v := (0 : Int32)) X50 at_132 rfl 133 rfl ?_
        refine o_iadd X50 at_133 134 rfl ?_
        refine o_iload X50 at_134 rfl 136 rfl ?_
        refine o_iconst (v := (2 : Int32)) X50 at_136 rfl 137 rfl ?_
        refine o_icmpLe X50 at_137 156 140 (by decide) (by decide) rfl ?_ (fun q => by exfalso; exact absurd q (by decide))
        intro hc137
        refine o_iconst (v := (0 : Int32)) X50 at_156 rfl 157 rfl ?_
        refine o_iadd X50 at_157 158 rfl ?_
        refine o_iload X50 at_158 rfl 160 rfl ?_
        refine o_iconst (v := (3 : Int32)) X50 at_160 rfl 161 rfl ?_
        refine o_icmpLe X50 at_161 180 164 (by decide) (by decide) rfl ?_ (fun q => by exfalso; exact absurd q (by decide))
        intro hc161
        refine o_iconst (v := (0 : Int32)) X50 at_180 rfl 181 rfl ?_
        refine o_iadd X50 at_181 182 rfl ?_
        refine o_istore X50 at_182 #[.val (.int xb), .val (.int xp), .val (.ref xt), .val (.int (4 : Int32)), .val (.int (0 : Int32)), .val (.int (4 : Int32)), .val (.int (f_fin (1 : Int32))), .val (.int ((f_fin (1 : Int32)) ^^^ (XT.ushr (f_fin (1 : Int32)) (16 : Int32)))), .val (.int (1 : Int32)), .val (.int (((((1 : Int32) + (0 : Int32)) + (0 : Int32)) + (0 : Int32)) + (0 : Int32)))] rfl 184 rfl ?_
        rw [show (((((1 : Int32) + (0 : Int32)) + (0 : Int32)) + (0 : Int32)) + (0 : Int32)) = (1 : Int32) from rfl]
        refine o_iload X50 at_184 rfl 186 rfl ?_
        refine o_iload X50 at_186 rfl 188 rfl ?_
        refine o_icmpNe X50 at_188 195 191 (by decide) (by decide) rfl (fun q => by exfalso; exact q (by grind)) ?_
        intro hc188
        refine o_iconst (v := (1 : Int32)) X50 at_191 rfl 192 rfl ?_
        refine o_goto X50 at_192 196 (by decide) (by decide) ?_
        exact o_retZ X50 at_196 (by decide) (by decide) (hQ _ _ rfl)
  refine o_iconst (v := (4 : Int32)) X0 at_0 rfl 1 rfl ?_
  refine o_newarray (L := []) X0 OL.nil at_1 (hw _ (List.mem_of_getElem? (i := 0) rfl)) rfl rfl 4 4 rfl (by decide) (by decide) 1 4 rfl rfl (by decide) (by decide) 3 rfl ?_
  intro T51 h51 b51 X51 H51
  replace H51 : OL n0 h51 ((b51, OA Z .byte [(0 : Int32), (0 : Int32), (0 : Int32), (0 : Int32)]) :: []) := H51
  refine o_astoreN X51 at_3 rfl #[.val (.int xb), .val (.int xp), .val (.ref b51), .unset, .unset, .unset, .unset, .unset, .unset, .unset] rfl 4 rfl ?_
  refine o_aloadN X51 at_4 rfl rfl 5 rfl ?_
  refine o_iconst (v := (0 : Int32)) X51 at_5 rfl 6 rfl ?_
  refine o_iloadN X51 at_6 rfl 7 rfl ?_
  refine o_i2b X51 at_7 8 rfl ?_
  refine o_bastoreB X51 H51 0 rfl at_8 0 rfl (by show 0 < 4; decide) (Int8.toInt32 (Int32.toInt8 xb)) (o_b8 _) 9 rfl ?_
  intro T52 h52 X52 H52
  replace H52 : OL n0 h52 ((b51, OA Z .byte [(Int8.toInt32 (Int32.toInt8 xb)), (0 : Int32), (0 : Int32), (0 : Int32)]) :: []) := H52
  refine o_aloadN X52 at_9 rfl rfl 10 rfl ?_
  refine o_iconst (v := (1 : Int32)) X52 at_10 rfl 11 rfl ?_
  refine o_iloadN X52 at_11 rfl 12 rfl ?_
  refine o_bipush (v := (8 : Int32)) X52 at_12 rfl 14 rfl ?_
  refine o_iushr X52 at_14 15 rfl ?_
  refine o_i2b X52 at_15 16 rfl ?_
  refine o_bastoreB X52 H52 0 rfl at_16 1 rfl (by show 1 < 4; decide) (Int8.toInt32 (Int32.toInt8 (XT.ushr xb (8 : Int32)))) (o_b8 _) 17 rfl ?_
  intro T53 h53 X53 H53
  replace H53 : OL n0 h53 ((b51, OA Z .byte [(Int8.toInt32 (Int32.toInt8 xb)), (Int8.toInt32 (Int32.toInt8 (XT.ushr xb (8 : Int32)))), (0 : Int32), (0 : Int32)]) :: []) := H53
  refine o_aloadN X53 at_17 rfl rfl 18 rfl ?_
  refine o_iconst (v := (2 : Int32)) X53 at_18 rfl 19 rfl ?_
  refine o_iloadN X53 at_19 rfl 20 rfl ?_
  refine o_bipush (v := (16 : Int32)) X53 at_20 rfl 22 rfl ?_
  refine o_iushr X53 at_22 23 rfl ?_
  refine o_i2b X53 at_23 24 rfl ?_
  refine o_bastoreB X53 H53 0 rfl at_24 2 rfl (by show 2 < 4; decide) (Int8.toInt32 (Int32.toInt8 (XT.ushr xb (16 : Int32)))) (o_b8 _) 25 rfl ?_
  intro T54 h54 X54 H54
  replace H54 : OL n0 h54 ((b51, OA Z .byte [(Int8.toInt32 (Int32.toInt8 xb)), (Int8.toInt32 (Int32.toInt8 (XT.ushr xb (8 : Int32)))), (Int8.toInt32 (Int32.toInt8 (XT.ushr xb (16 : Int32)))), (0 : Int32)]) :: []) := H54
  refine o_aloadN X54 at_25 rfl rfl 26 rfl ?_
  refine o_iconst (v := (3 : Int32)) X54 at_26 rfl 27 rfl ?_
  refine o_iloadN X54 at_27 rfl 28 rfl ?_
  refine o_bipush (v := (24 : Int32)) X54 at_28 rfl 30 rfl ?_
  refine o_iushr X54 at_30 31 rfl ?_
  refine o_i2b X54 at_31 32 rfl ?_
  refine o_bastoreB X54 H54 0 rfl at_32 3 rfl (by show 3 < 4; decide) (Int8.toInt32 (Int32.toInt8 (XT.ushr xb (24 : Int32)))) (o_b8 _) 33 rfl ?_
  intro T55 h55 X55 H55
  replace H55 : OL n0 h55 ((b51, OA Z .byte [(Int8.toInt32 (Int32.toInt8 xb)), (Int8.toInt32 (Int32.toInt8 (XT.ushr xb (8 : Int32)))), (Int8.toInt32 (Int32.toInt8 (XT.ushr xb (16 : Int32)))), (Int8.toInt32 (Int32.toInt8 (XT.ushr xb (24 : Int32))))]) :: []) := H55
  exact J33 _ _ _ _ _ _ _ X55 H55
set_option maxRecDepth 65536 in
set_option maxHeartbeats 40000000 in
theorem comes_1 {Post : Tables → Env → Array Value → State → Outcome → State → Prop} (hpost : ∀ tb e args s v u, (limb_1_1.after args s (.returned v) u = true ∧ limb_1_2.after args s (.returned v) u = true ∧ True) → FrameEnd s (.returned v) u (Jvm.fieldLocs frame_1_writes args s ++ Jvm.arrayLocs frame_1_arrays args s ++ Jvm.staticLocs frame_1_statics s) 16 128 → Post tb e args s (.returned v) u) :
    ArmFor flags0 classFile x code maxLocals ret World_1 tables_1 room_1 Calls_1 rest_1 Pre_1 Post := by
  intro l hfl _ _ p e ha hc hk s m args below hf hA hF happ hP
  obtain ⟨hcalls, hrest, hpre⟩ := hP
  obtain ⟨-, -, -, hnamed, -, -, -, hat⟩ := (Spec.applies_iff hf).mp happ
  obtain ⟨hg, hn⟩ := and_e (Cond.before_iff.mp (show (Jvm.Cond.and given_1 narrow_1).before args s = true from hpre))
  obtain ⟨hcnt, hg0⟩ := and_e hg
  obtain ⟨ha0, hg1⟩ := and_e hg0
  have ha1 := hg1
  obtain ⟨w0, w1, rfl⟩ : ∃ w0 w1 : Value, args = #[w0, w1] := by
    have hs : args.size = 2 := by simpa [Cond.value, given_1] using hcnt
    obtain ⟨L⟩ := args
    match L, hs with
    | [w0, w1], _ => exact ⟨w0, w1, rfl⟩
  have hw := fun d (hd : d ∈ tables_1) => atoms_spec (ws := Jvm.Cond.code x code maxLocals ret :: tables_1) hat d (List.mem_cons_of_mem _ hd)
  obtain ⟨i0, ei0⟩ := is_v ha0
  obtain rfl : w0 = (.int i0) := Option.some.inj ei0
  obtain ⟨i1, ei1⟩ := is_v ha1
  obtain rfl : w1 = (.int i1) := Option.some.inj ei1
  obtain ⟨n, o, h1, h2, h3, _, L, rfl, ⟨rfl, N⟩, hq⟩ := c_law l s _ hw tables_1 s.heap.size s.heap (Nat.le_refl _) i0 i1 p e ha hc hk s m _ below hf ((Spec.applies_iff_loose hf).mp happ).1 ⟨rfl, State.Warmed39.refl s, rfl⟩ trivial
  refine ⟨n, _, h1, h2, h3, hpost _ _ _ _ _ _ ⟨Cond.after_iff.mpr rfl, Cond.after_iff.mpr (eq_i res_at (Term.int_eval (1)) rfl), trivial⟩ ⟨hq.1, hq.2.1, (hq.2.2.sift fun y hy => Or.inr (N y hy)).mono (by decide) (by decide)⟩⟩
theorem main_1_1 : Claimed_1_1 := comes_1 fun _ _ _ _ _ _ h hF => ⟨h.1, hF⟩
theorem main_1_2 : Claimed_1_2 := comes_1 fun _ _ _ _ _ _ h hF => ⟨h.2.1, hF⟩
end Jvm.Pilot.@@N@@
namespace Jvm.Pilot.@@N@@
open Jvm Jvm.ClassFile Sem Op Lib Jvm.Free Jvm.Stand Jvm.Pilot.@@N@@.Jvm.D
/-! MADE BY PROGRAM (witnessworld.py) out of the Statement's table words and the real class files: 9 classes; the members and pool entries that the words name. The judged class is class 1, her method 1. -/
namespace start1
open Jvm.ClassFile
def u (s : String) : CpInfo := .utf8 (stringToUtf16 s)
/-- a pool by its gaps: so many unusable entries, then the entry; so many at the end -/
def gap : Nat → List CpInfo → List CpInfo
  | 0, r => r
  | n + 1, r => .unusable :: gap n r
def poolList (es : List (Nat × CpInfo)) (last : Nat) : List CpInfo := es.foldr (fun e r => gap e.1 (e.2 :: r)) (gap last [])
def pool (es : List (Nat × CpInfo)) (last : Nat) : Array CpInfo := ⟨poolList es last⟩
def fileOf (pool : Array CpInfo) (this : Nat) (attrs : Array Attribute := #[]) (ms : Array MethodInfo := #[]) (fl : Nat := 33) (sup : Nat := 0) (ifs : Array Nat := #[]) (fds : Array FieldInfo := #[]) : ClassFile where
  minorVersion := 0
  majorVersion := 65
  constantPool := pool
  accessFlags := fl
  thisClass := this
  superClass := sup
  interfaces := ifs
  fields := fds
  methods := ms
  attributes := attrs
def plain (name : String) (sup : Option ClassId) : Class where
  name := name
  kind := .ordinary
  loader := none
  accessFlags := 33
  super := sup
  interfaces := #[]
  cf := none
  fields := #[]
  methods := #[]
  instanceTypes := #[]
  staticTypes := #[]
  resolved := #[]
  callSites := []
  init := .initialized
  statics := none
  mirror := none

def pool0 : Array CpInfo := pool [(5, u "<init>"), (0, u "()V"), (1, .class_ 10), (1, u "java/lang/Object")] 113

def k0m0 : Method := { name := "<init>", desc := "()V", sig := { parameters := [], returnType := none }, accessFlags := 1, code := none }
/-- java/lang/Object -/
def k0 : Class := { plain "java/lang/Object" none with
  accessFlags := 33
  interfaces := #[]
  cf := some (fileOf pool0 8 #[] #[{ accessFlags := 1, nameIndex := 5, descriptorIndex := 6, attributes := #[] }] 33 0 #[] #[])
  fields := #[]
  methods := #[k0m0]
  instanceTypes := #[]
  staticTypes := #[]
  resolved := Array.replicate 124 none
  statics := none }

def pool1 : Array CpInfo := pool [(2, .class_ 4), (1, u "java/lang/Object"), (0, u "<init>"), (0, u "()V"), (0, .methodref 8 9), (0, .class_ 10), (0, .nameAndType 11 12), (0, u "com/example/vestbook/vestbook/member/MemberIds"), (0, u "hash"), (0, u "([BII)I"), (0, .integer 340573321), (0, .methodref 15 16), (0, .class_ 17), (0, .nameAndType 18 19), (0, u "com/example/vestbook/vestbook/member/MemberIdsHashPinLaw"), (0, u "pow31"), (0, u "(I)I"), (0, .integer 923521), (2, u "law"), (0, u "(II)Z")] 5

def k1m0 : Method := { name := "<init>", desc := "()V", sig := { parameters := [], returnType := none }, accessFlags := 1, code := none }
def k1c1 : Code := { maxStack := 4, maxLocals := 10, code := code, exceptionTable := #[], attributes := #[] }
def k1m1 : Method := { name := "law", desc := "(II)Z", sig := { parameters := [.int, .int], returnType := some .boolean }, accessFlags := 9, code := some k1c1 }
def k1c2 : Code := { maxStack := 2, maxLocals := 1, code := method_3_code, exceptionTable := #[], attributes := #[] }
def k1m2 : Method := { name := "pow31", desc := "(I)I", sig := { parameters := [.int], returnType := some .int }, accessFlags := 10, code := some k1c2 }
/-- com/example/vestbook/vestbook/member/MemberIdsHashPinLaw -/
def k1 : Class := { plain "com/example/vestbook/vestbook/member/MemberIdsHashPinLaw" (some 0) with
  accessFlags := 49
  interfaces := #[]
  cf := some (fileOf pool1 15 #[] #[{ accessFlags := 1, nameIndex := 5, descriptorIndex := 6, attributes := #[] }, { accessFlags := 9, nameIndex := 23, descriptorIndex := 24, attributes := #[] }, { accessFlags := 10, nameIndex := 18, descriptorIndex := 19, attributes := #[] }] 49 2 #[] #[])
  fields := #[]
  methods := #[k1m0, k1m1, k1m2]
  instanceTypes := #[]
  staticTypes := #[]
  resolved := Array.replicate 30 none
  statics := none }

def pool2 : Array CpInfo := pool [(1, .class_ 2), (0, u "com/example/vestbook/vestbook/member/MemberIds"), (3, .class_ 8), (1, u "java/lang/Object"), (10, u "ids"), (0, u "Ljava/util/List;"), (6, u "starts"), (0, u "[I"), (1, u "[B"), (18, u "bytes"), (20, u "table"), (2, u "mask"), (0, u "I"), (2, u "hash"), (0, u "([BII)I"), (53, .integer 2654435769), (0, u "KEY_BYTES"), (2, u "KEY_LENGTH_SHIFT"), (1, u "NO_KEY"), (0, u "J")] 17

def k2c0 : Code := { maxStack := 3, maxLocals := 5, code := prog_68_method_10_code, exceptionTable := #[], attributes := #[] }
def k2m0 : Method := { name := "hash", desc := "([BII)I", sig := { parameters := [(.array .byte), .int, .int], returnType := some .int }, accessFlags := 8, code := some k2c0 }
/-- com/example/vestbook/vestbook/member/MemberIds -/
def k2 : Class := { plain "com/example/vestbook/vestbook/member/MemberIds" (some 0) with
  accessFlags := 48
  interfaces := #[]
  cf := some (fileOf pool2 1 #[] #[{ accessFlags := 8, nameIndex := 77, descriptorIndex := 78, attributes := #[] }] 48 6 #[] #[{ accessFlags := 24, nameIndex := 133, descriptorIndex := 74, attributes := #[] }, { accessFlags := 24, nameIndex := 136, descriptorIndex := 74, attributes := #[] }, { accessFlags := 24, nameIndex := 138, descriptorIndex := 139, attributes := #[] }, { accessFlags := 18, nameIndex := 19, descriptorIndex := 20, attributes := #[] }, { accessFlags := 18, nameIndex := 49, descriptorIndex := 30, attributes := #[] }, { accessFlags := 18, nameIndex := 27, descriptorIndex := 28, attributes := #[] }, { accessFlags := 18, nameIndex := 70, descriptorIndex := 28, attributes := #[] }, { accessFlags := 18, nameIndex := 73, descriptorIndex := 74, attributes := #[] }])
  fields := #[{ name := "KEY_BYTES", type := .int, accessFlags := 24, slot := 0, constantValue := 0 }, { name := "KEY_LENGTH_SHIFT", type := .int, accessFlags := 24, slot := 1, constantValue := 0 }, { name := "NO_KEY", type := .long, accessFlags := 24, slot := 2, constantValue := 0 }, { name := "ids", type := (.object "java/util/List"), accessFlags := 18, slot := 0, constantValue := 0 }, { name := "bytes", type := (.array .byte), accessFlags := 18, slot := 1, constantValue := 0 }, { name := "starts", type := (.array .int), accessFlags := 18, slot := 2, constantValue := 0 }, { name := "table", type := (.array .int), accessFlags := 18, slot := 3, constantValue := 0 }, { name := "mask", type := .int, accessFlags := 18, slot := 4, constantValue := 0 }]
  methods := #[k2m0]
  instanceTypes := #[(.object "java/util/List"), (.array .byte), (.array .int), (.array .int), .int]
  staticTypes := #[.int, .int, .long]
  resolved := Array.replicate 157 none
  statics := none }

def pool3 : Array CpInfo := pool [(1, u "java/lang/Cloneable"), (0, .class_ 1), (0, u "java/lang/Object"), (0, .class_ 3)] 3

/-- java/lang/Cloneable -/
def k3 : Class := { plain "java/lang/Cloneable" (some 0) with
  accessFlags := 1537
  interfaces := #[]
  cf := some (fileOf pool3 2 #[] #[] 1537 4 #[] #[])
  fields := #[]
  methods := #[]
  instanceTypes := #[]
  staticTypes := #[]
  resolved := Array.replicate 8 none
  statics := none }

def pool4 : Array CpInfo := pool [(1, u "java/io/Serializable"), (0, .class_ 1), (0, u "java/lang/Object"), (0, .class_ 3)] 3

/-- java/io/Serializable -/
def k4 : Class := { plain "java/io/Serializable" (some 0) with
  accessFlags := 1537
  interfaces := #[]
  cf := some (fileOf pool4 2 #[] #[] 1537 4 #[] #[])
  fields := #[]
  methods := #[]
  instanceTypes := #[]
  staticTypes := #[]
  resolved := Array.replicate 8 none
  statics := none }

/-- the primitive byte -/
def k5 : Class := { plain "byte" none with kind := .primitive 'B', accessFlags := 0x411 }
/-- [B -/
def k6 : Class := { plain "[B" (some 0) with kind := .array 5 .byte, interfaces := #[3, 4], accessFlags := 1041 }

/-- the primitive int -/
def k7 : Class := { plain "int" none with kind := .primitive 'I', accessFlags := 0x411 }
/-- [I -/
def k8 : Class := { plain "[I" (some 0) with kind := .array 7 .int, interfaces := #[3, 4], accessFlags := 1041 }

def heap : Heap := #[]
def classes : Array Class := #[k0, k1, k2, k3, k4, k5, k6, k7, k8]
def interned : List (Array UInt16 × Addr) := []
def slotsUsed : Nat := 0
def theMethod : MethodId := ⟨1, 1⟩
def args0 : Array Value := #[.int 5, .int 3]
def aboutOver (below : List Frame) : State where
  vm := { classes := classes, interned := interned.toArray }
  heap := heap
  slotsUsed := slotsUsed
  threads := #[{ frames := .invoking theMethod args0 :: below }]
def below0 : List Frame := [.native { method := ⟨0, 0⟩, args := #[] }]
def about1 : State := aboutOver below0
def p0 : Program := .bare "" "" ""
def e0 : Env := launch0.env 0 0 0
theorem w_frames : about1.frames = Frame.invoking theMethod args0 :: below0 := rfl
set_option maxRecDepth 65536 in
theorem w_args : argsFit about1.vm theMethod args0 = true := by decide +kernel
set_option maxRecDepth 65536 in
theorem w_heap : heapFits about1 = true := by decide +kernel
set_option maxRecDepth 65536 in
theorem w_runnable : about1.curStatus? = some .runnable := by decide +kernel
set_option maxRecDepth 65536 in
theorem w_alone : about1.alone = true := by decide +kernel
set_option maxRecDepth 65536 in
theorem w_named : about1.methodNamed? x = some theMethod := by decide +kernel
set_option maxRecDepth 65536 in
theorem w_hears : about1.hears theMethod below0 = true := by decide +kernel
set_option maxRecDepth 65536 in
theorem w_ripe : about1.ripe theMethod args0 below0 = true := by decide +kernel
theorem w_running : about1.status = .running := rfl
set_option maxRecDepth 65536 in
theorem w_room : about1.hasRoom e0.platform room_1 = true :=
  launch0.hasRoom_least _ room_1 (by decide +kernel) (by decide +kernel) (by decide +kernel) (by decide +kernel) (by decide +kernel) (by decide +kernel)
theorem allAtoms_all (ts : List Jvm.Cond) (a : Array Jvm.Value) (st : Jvm.State) : (allAtoms ts).before a st = ts.all (fun c => c.before a st) := by
  induction ts with
  | nil => rfl
  | cons c t ih =>
    show (Jvm.Cond.and c (allAtoms t)).before a st = _
    rw [Jvm.Cond.before_and, ih, List.all_cons]
def words1 : List Jvm.Cond := Jvm.Cond.code x code maxLocals ret :: tables_1
/-- a 'code' word, met by the world's own term for the bytes: nothing is compared byte by byte -/
theorem code_word {y : MethodName} {bytes : ByteArray} {mx : Nat} {rt : Option FieldType} {a : Array Value} {s : State} {m : MethodId} {meth : Method} {c : Code} (h1 : s.methodNamed? y = some m) (h2 : s.vm.method? m = some meth) (h3 : meth.code = some c) (h4 : c.code = bytes)
    (h5 : (c.maxLocals == mx && c.exceptionTable.isEmpty && decide (c.maxStack ≤ mostOperands) && decide (meth.sig.returnType = rt) && !meth.locks && decide (parseMethodDescriptor y.desc = some meth.sig)) = true) : (Jvm.Cond.code y bytes mx rt).before a s = true := by
  simp only [Bool.and_eq_true, beq_iff_eq, Bool.not_eq_true', decide_eq_true_eq] at h5
  obtain ⟨⟨⟨⟨⟨g1, g2⟩, g3⟩, g4⟩, g5⟩, g6⟩ := h5
  simp [Cond.before, Cond.holds, Cond.value, h1, h2, h3, h4, g1, g2, g3, g4, g5, g6]
def isCode : Jvm.Cond → Bool
  | .code _ _ _ _ => true
  | _ => false
theorem all_split {L : List Jvm.Cond} {P : Jvm.Cond → Bool} (h1 : L.all (fun c => isCode c || P c) = true) (h2 : ∀ c ∈ L.filter isCode, P c = true) : L.all P = true := by
  refine List.all_eq_true.mpr fun c hc => ?_
  have h := List.all_eq_true.mp h1 c hc
  rcases Bool.eq_false_or_eq_true (isCode c) with hi | hi
  · exact h2 c (List.mem_filter.mpr ⟨hc, hi⟩)
  · simpa [hi] using h
set_option maxRecDepth 65536 in
theorem w_c0 : (Jvm.Cond.code x code maxLocals ret).before args0 about1 = true := code_word (m := ⟨1, 1⟩) (meth := k1m1) (c := k1c1) (by decide +kernel) rfl rfl rfl (by decide +kernel)
set_option maxRecDepth 65536 in
theorem w_c1 : (Jvm.Cond.code ({ cls := "com/example/vestbook/vestbook/member/MemberIds", name := "hash", desc := "([BII)I" } : Jvm.MethodName) prog_68_method_10_code (5 : Nat) (Option.some Jvm.ClassFile.FieldType.int)).before args0 about1 = true := code_word (m := ⟨2, 0⟩) (meth := k2m0) (c := k2c0) (by decide +kernel) rfl rfl rfl (by decide +kernel)
set_option maxRecDepth 65536 in
theorem w_c2 : (Jvm.Cond.code ({ cls := "com/example/vestbook/vestbook/member/MemberIdsHashPinLaw", name := "pow31", desc := "(I)I" } : Jvm.MethodName) method_3_code (1 : Nat) (Option.some Jvm.ClassFile.FieldType.int)).before args0 about1 = true := code_word (m := ⟨1, 2⟩) (meth := k1m2) (c := k1c2) (by decide +kernel) rfl rfl rfl (by decide +kernel)
def codes1 : List Jvm.Cond := [Jvm.Cond.code x code maxLocals ret, Jvm.Cond.code ({ cls := "com/example/vestbook/vestbook/member/MemberIds", name := "hash", desc := "([BII)I" } : Jvm.MethodName) prog_68_method_10_code (5 : Nat) (Option.some Jvm.ClassFile.FieldType.int), Jvm.Cond.code ({ cls := "com/example/vestbook/vestbook/member/MemberIdsHashPinLaw", name := "pow31", desc := "(I)I" } : Jvm.MethodName) method_3_code (1 : Nat) (Option.some Jvm.ClassFile.FieldType.int)]
set_option maxRecDepth 65536 in
theorem codes_eq : words1.filter isCode = codes1 := rfl
theorem w_codes : ∀ c ∈ words1.filter isCode, c.before args0 about1 = true := by
  rw [codes_eq]
  intro c hc
  simp only [codes1, List.mem_cons, List.not_mem_nil, or_false] at hc
  rcases hc with rfl | rfl | rfl
  · exact w_c0
  · exact w_c1
  · exact w_c2
set_option maxRecDepth 65536 in
theorem w_t1 : words1.all (fun c => isCode c || c.before args0 about1) = true := by decide +kernel
theorem w_tables : (allAtoms (Jvm.Cond.code x code maxLocals ret :: tables_1)).before args0 about1 = true := by
  rw [allAtoms_all]
  show words1.all (fun c => c.before args0 about1) = true
  refine all_split ?_ w_codes
  rw [w_t1]
set_option maxRecDepth 65536 in
theorem w_case : (Jvm.Cond.and given_1 narrow_1).before args0 about1 = true := by decide +kernel
theorem w_applies : (headSpec (Jvm.Cond.code x code maxLocals ret :: tables_1) room_1).applies x e0.platform about1 = true :=
  (Spec.applies_iff w_frames).mpr ⟨w_running, w_runnable, w_alone, w_named, w_hears, w_ripe, w_room, w_tables⟩
theorem atStart : AtStart classFile x code maxLocals ret World_1 tables_1 room_1 Calls_1 rest_1 Pre_1 launch0 p0 e0 about1 theMethod args0 below0 :=
  ⟨lists_1, trivial, launch0.admits_env _ _ _, launch0.least_env, fairChoices_fair.cas, fairChoices_fair.clock, w_frames, w_args, w_heap, w_applies, trivial, trivial, w_case⟩
end start1
theorem witness_1 : WitnessClaimed_1 := ⟨start1.p0, start1.e0, start1.about1, start1.theMethod, start1.args0, start1.below0, start1.atStart⟩
end Jvm.Pilot.@@N@@
