import JvmDerived
import JvmDerived.Pilot.@@N@@Statement
import JvmDerived.Pilot.@@N@@Code
set_option linter.unusedVariables false
set_option linter.unusedSimpArgs false
@@BLOCK:NumsL.lean.txt@@
namespace Jvm.Pilot.@@N@@
open Jvm Jvm.ClassFile Sem Op Lib Jvm.Free Jvm.Stand Jvm.LawKit Jvm.RoadKit Bundle Jvm.Pilot.@@N@@.Jvm.D
section OwnKit
variable {p : Program} {l : Launch} {e : Env} {R : Room} {s : State} {m : MethodId} {args : Array Value} {below : List Frame} {meth : Method} {c : Code} {T T' : State} {Z : State} {h : Heap} {n0 k n mx : Nat} {y : MethodName} {bytes : ByteArray} {ret : Option FieldType} {Q : Option Value → Heap → Prop} {pc : Nat} {Ls : Array Slot} {st rest : List Value} {a0 : Array Value} {g g' : JFrame}
/-- where a body's walk stands: all that its steps ask, bundled -/
def OW (p : Program) (l : Launch) (e : Env) (R : Room) (s : State) (m : MethodId) (args : Array Value) (below : List Frame) (meth : Method) (c : Code) (Z : State) (y : MethodName) (bytes : ByteArray) (mx : Nat) (ret : Option FieldType) (n0 : Nat) (T : State) (h : Heap) (k n : Nat) : Prop :=
  p.tables.exec = Jvm.exec ∧ Z.Warmed39 s.vm ∧ s.vm.findClass y.cls = some m.cls ∧ c.code = bytes ∧ c.maxLocals = mx ∧ meth.sig.returnType = ret ∧ meth.name = y.name ∧ meth.locks = false ∧ n0 ≤ s.heap.size ∧ T.heap = h ∧ ∃ locs, Stand p l e R s m args below meth c T locs k n ∧ Fr n0 locs
/-- what a body owes from the frame g on: it returns, and Q holds of what it returns and of the heap -/
def OE (p : Program) (e : Env) (R : Room) (below : List Frame) (s : State) (n0 : Nat) (Q : Option Value → Heap → Prop) (T : State) (g : JFrame) : Prop :=
  ∃ t o, Steps p.tables e below (T.setTop g) t ∧ t.status = .running ∧ Ended t below o ∧ ∃ v L, o = .returned v ∧ (Q v t.heap ∧ Fr n0 L) ∧ FrameEnd s o t L R.cells R.slots
theorem OE.by (hs : ∀ t, Steps p.tables e below (T'.setTop g') t → Steps p.tables e below (T.setTop g) t) (K : OE p e R below s n0 Q T' g') : OE p e R below s n0 Q T g := by
  obtain ⟨t, o, h1, r⟩ := K; exact ⟨t, o, hs t h1, r⟩
theorem OW.size (X : OW p l e R s m args below meth c Z y bytes mx ret n0 T h k n) : n0 ≤ h.size := by
  obtain ⟨-, -, -, -, -, -, -, -, h0, rfl, locs, S, -⟩ := X
  exact Nat.le_trans h0 S.same.2.1
theorem OW.more (X : OW p l e R s m args below meth c Z y bytes mx ret n0 T h k n) {k' n' : Nat} (hk : k ≤ k') (hn : n ≤ n') : OW p l e R s m args below meth c Z y bytes mx ret n0 T h k' n' := by
  obtain ⟨h1, h2, h3, h4, h5, h6, h7, h8, h9, h10, locs, S, N⟩ := X
  exact ⟨h1, h2, h3, h4, h5, h6, h7, h8, h9, h10, locs, S.more hk hn, N⟩
theorem o_iloadN (X : OW p l e R s m args below meth c Z y bytes mx ret n0 T h k n) {j : Fin 4} {v : Int32} (hd : decode bytes pc = .ok (.iload_n j, 1)) (hl : Ls[j.val]? = some (.val (.int v))) (pc' : Nat) (hp : pc + 1 = pc') (K : OE p e R below s n0 Q T (mkF m pc' Ls (.int v :: st))) : OE p e R below s n0 Q T (mkF m pc Ls st) := by
  obtain ⟨hx, hZ, hown, hby, hmx, hret, hnm, hlk, h0, hT, locs, S, N⟩ := X; subst hp
  exact OE.by (fun t q => XS.iloadN S.here hx rfl (hb hby hd) hl q) K
theorem o_iload (X : OW p l e R s m args below meth c Z y bytes mx ret n0 T h k n) {j : Nat} {v : Int32} (hd : decode bytes pc = .ok (.iload j, 2)) (hl : Ls[j]? = some (.val (.int v))) (pc' : Nat) (hp : pc + 2 = pc') (K : OE p e R below s n0 Q T (mkF m pc' Ls (.int v :: st))) : OE p e R below s n0 Q T (mkF m pc Ls st) := by
  obtain ⟨hx, hZ, hown, hby, hmx, hret, hnm, hlk, h0, hT, locs, S, N⟩ := X; subst hp
  exact OE.by (fun t q => XS.iload S.here hx rfl (hb hby hd) hl q) K
theorem o_aloadN (X : OW p l e R s m args below meth c Z y bytes mx ret n0 T h k n) {j : Fin 4} {v : Value} (hd : decode bytes pc = .ok (.aload_n j, 1)) (hl : Ls[j.val]? = some (.val v)) (hv : v.isRef = true) (pc' : Nat) (hp : pc + 1 = pc') (K : OE p e R below s n0 Q T (mkF m pc' Ls (v :: st))) : OE p e R below s n0 Q T (mkF m pc Ls st) := by
  obtain ⟨hx, hZ, hown, hby, hmx, hret, hnm, hlk, h0, hT, locs, S, N⟩ := X; subst hp
  exact OE.by (fun t q => XS.aloadN S.here hx rfl (hb hby hd) hl hv q) K
theorem o_aload (X : OW p l e R s m args below meth c Z y bytes mx ret n0 T h k n) {j : Nat} {v : Value} (hd : decode bytes pc = .ok (.aload j, 2)) (hl : Ls[j]? = some (.val v)) (hv : v.isRef = true) (pc' : Nat) (hp : pc + 2 = pc') (K : OE p e R below s n0 Q T (mkF m pc' Ls (v :: st))) : OE p e R below s n0 Q T (mkF m pc Ls st) := by
  obtain ⟨hx, hZ, hown, hby, hmx, hret, hnm, hlk, h0, hT, locs, S, N⟩ := X; subst hp
  exact OE.by (fun t q => XS.aload S.here hx rfl (hb hby hd) hl hv q) K
theorem o_lloadN (X : OW p l e R s m args below meth c Z y bytes mx ret n0 T h k n) {j : Fin 4} {v : Int64} (hd : decode bytes pc = .ok (.lload_n j, 1)) (hl : Ls[j.val]? = some (.val (.long v))) (pc' : Nat) (hp : pc + 1 = pc') (K : OE p e R below s n0 Q T (mkF m pc' Ls (.long v :: st))) : OE p e R below s n0 Q T (mkF m pc Ls st) := by
  obtain ⟨hx, hZ, hown, hby, hmx, hret, hnm, hlk, h0, hT, locs, S, N⟩ := X; subst hp
  exact OE.by (fun t q => XT.lloadN S.here hx rfl (hb hby hd) hl q) K
theorem o_lload (X : OW p l e R s m args below meth c Z y bytes mx ret n0 T h k n) {j : Nat} {v : Int64} (hd : decode bytes pc = .ok (.lload j, 2)) (hl : Ls[j]? = some (.val (.long v))) (pc' : Nat) (hp : pc + 2 = pc') (K : OE p e R below s n0 Q T (mkF m pc' Ls (.long v :: st))) : OE p e R below s n0 Q T (mkF m pc Ls st) := by
  obtain ⟨hx, hZ, hown, hby, hmx, hret, hnm, hlk, h0, hT, locs, S, N⟩ := X; subst hp
  exact OE.by (fun t q => XT.lload S.here hx rfl (hb hby hd) hl q) K
theorem o_iconst (X : OW p l e R s m args below meth c Z y bytes mx ret n0 T h k n) {i : Int} {v : Int32} (hd : decode bytes pc = .ok (.iconst i, 1)) (hv : Int32.ofInt i = v) (pc' : Nat) (hp : pc + 1 = pc') (K : OE p e R below s n0 Q T (mkF m pc' Ls (.int v :: st))) : OE p e R below s n0 Q T (mkF m pc Ls st) := by
  obtain ⟨hx, hZ, hown, hby, hmx, hret, hnm, hlk, h0, hT, locs, S, N⟩ := X; subst hp hv
  exact OE.by (fun t q => XS.iconst S.here hx rfl (hb hby hd) q) K
theorem o_bipush (X : OW p l e R s m args below meth c Z y bytes mx ret n0 T h k n) {i : Int} {v : Int32} (hd : decode bytes pc = .ok (.bipush i, 2)) (hv : (Int8.ofInt i).toInt32 = v) (pc' : Nat) (hp : pc + 2 = pc') (K : OE p e R below s n0 Q T (mkF m pc' Ls (.int v :: st))) : OE p e R below s n0 Q T (mkF m pc Ls st) := by
  obtain ⟨hx, hZ, hown, hby, hmx, hret, hnm, hlk, h0, hT, locs, S, N⟩ := X; subst hp hv
  exact OE.by (fun t q => XS.bipush S.here hx rfl (hb hby hd) q) K
theorem o_sipush (X : OW p l e R s m args below meth c Z y bytes mx ret n0 T h k n) {i : Int} {v : Int32} (hd : decode bytes pc = .ok (.sipush i, 3)) (hv : (Int16.ofInt i).toInt32 = v) (pc' : Nat) (hp : pc + 3 = pc') (K : OE p e R below s n0 Q T (mkF m pc' Ls (.int v :: st))) : OE p e R below s n0 Q T (mkF m pc Ls st) := by
  obtain ⟨hx, hZ, hown, hby, hmx, hret, hnm, hlk, h0, hT, locs, S, N⟩ := X; subst hp hv
  exact OE.by (fun t q => XS.sipush S.here hx rfl (hb hby hd) q) K
theorem o_lconst (X : OW p l e R s m args below meth c Z y bytes mx ret n0 T h k n) {i : Fin 2} {v : Int64} (hd : decode bytes pc = .ok (.lconst i, 1)) (hv : Int64.ofNat i = v) (pc' : Nat) (hp : pc + 1 = pc') (K : OE p e R below s n0 Q T (mkF m pc' Ls (.long v :: st))) : OE p e R below s n0 Q T (mkF m pc Ls st) := by
  obtain ⟨hx, hZ, hown, hby, hmx, hret, hnm, hlk, h0, hT, locs, S, N⟩ := X; subst hp hv
  exact OE.by (fun t q => XT.lconst S.here hx rfl (hb hby hd) q) K
theorem o_iadd (X : OW p l e R s m args below meth c Z y bytes mx ret n0 T h k n) {x z : Int32} (hd : decode bytes pc = .ok (.iadd, 1))  (pc' : Nat) (hp : pc + 1 = pc') (K : OE p e R below s n0 Q T (mkF m pc' Ls (.int (x + z) :: st))) : OE p e R below s n0 Q T (mkF m pc Ls (.int z :: .int x :: st)) := by
  obtain ⟨hx, hZ, hown, hby, hmx, hret, hnm, hlk, h0, hT, locs, S, N⟩ := X; subst hp
  exact OE.by (fun t q => XS.iadd S.here hx rfl (hb hby hd) rfl q) K
theorem o_isub (X : OW p l e R s m args below meth c Z y bytes mx ret n0 T h k n) {x z : Int32} (hd : decode bytes pc = .ok (.isub, 1))  (pc' : Nat) (hp : pc + 1 = pc') (K : OE p e R below s n0 Q T (mkF m pc' Ls (.int (x - z) :: st))) : OE p e R below s n0 Q T (mkF m pc Ls (.int z :: .int x :: st)) := by
  obtain ⟨hx, hZ, hown, hby, hmx, hret, hnm, hlk, h0, hT, locs, S, N⟩ := X; subst hp
  exact OE.by (fun t q => XS.isub S.here hx rfl (hb hby hd) rfl q) K
theorem o_imul (X : OW p l e R s m args below meth c Z y bytes mx ret n0 T h k n) {x z : Int32} (hd : decode bytes pc = .ok (.imul, 1))  (pc' : Nat) (hp : pc + 1 = pc') (K : OE p e R below s n0 Q T (mkF m pc' Ls (.int (x * z) :: st))) : OE p e R below s n0 Q T (mkF m pc Ls (.int z :: .int x :: st)) := by
  obtain ⟨hx, hZ, hown, hby, hmx, hret, hnm, hlk, h0, hT, locs, S, N⟩ := X; subst hp
  exact OE.by (fun t q => XS.imul S.here hx rfl (hb hby hd) rfl q) K
theorem o_iand (X : OW p l e R s m args below meth c Z y bytes mx ret n0 T h k n) {x z : Int32} (hd : decode bytes pc = .ok (.iand, 1))  (pc' : Nat) (hp : pc + 1 = pc') (K : OE p e R below s n0 Q T (mkF m pc' Ls (.int (x &&& z) :: st))) : OE p e R below s n0 Q T (mkF m pc Ls (.int z :: .int x :: st)) := by
  obtain ⟨hx, hZ, hown, hby, hmx, hret, hnm, hlk, h0, hT, locs, S, N⟩ := X; subst hp
  exact OE.by (fun t q => XS.iand S.here hx rfl (hb hby hd) rfl q) K
theorem o_ior (X : OW p l e R s m args below meth c Z y bytes mx ret n0 T h k n) {x z : Int32} (hd : decode bytes pc = .ok (.ior, 1))  (pc' : Nat) (hp : pc + 1 = pc') (K : OE p e R below s n0 Q T (mkF m pc' Ls (.int (x ||| z) :: st))) : OE p e R below s n0 Q T (mkF m pc Ls (.int z :: .int x :: st)) := by
  obtain ⟨hx, hZ, hown, hby, hmx, hret, hnm, hlk, h0, hT, locs, S, N⟩ := X; subst hp
  exact OE.by (fun t q => XT.ior S.here hx rfl (hb hby hd) rfl q) K
theorem o_ixor (X : OW p l e R s m args below meth c Z y bytes mx ret n0 T h k n) {x z : Int32} (hd : decode bytes pc = .ok (.ixor, 1))  (pc' : Nat) (hp : pc + 1 = pc') (K : OE p e R below s n0 Q T (mkF m pc' Ls (.int (x ^^^ z) :: st))) : OE p e R below s n0 Q T (mkF m pc Ls (.int z :: .int x :: st)) := by
  obtain ⟨hx, hZ, hown, hby, hmx, hret, hnm, hlk, h0, hT, locs, S, N⟩ := X; subst hp
  exact OE.by (fun t q => XT.ixor S.here hx rfl (hb hby hd) rfl q) K
theorem o_ishl (X : OW p l e R s m args below meth c Z y bytes mx ret n0 T h k n) {x z : Int32} (hd : decode bytes pc = .ok (.ishl, 1))  (pc' : Nat) (hp : pc + 1 = pc') (K : OE p e R below s n0 Q T (mkF m pc' Ls (.int (x <<< (z &&& 31)) :: st))) : OE p e R below s n0 Q T (mkF m pc Ls (.int z :: .int x :: st)) := by
  obtain ⟨hx, hZ, hown, hby, hmx, hret, hnm, hlk, h0, hT, locs, S, N⟩ := X; subst hp
  exact OE.by (fun t q => XT.ishl S.here hx rfl (hb hby hd) rfl q) K
theorem o_ishr (X : OW p l e R s m args below meth c Z y bytes mx ret n0 T h k n) {x z : Int32} (hd : decode bytes pc = .ok (.ishr, 1))  (pc' : Nat) (hp : pc + 1 = pc') (K : OE p e R below s n0 Q T (mkF m pc' Ls (.int (x >>> (z &&& 31)) :: st))) : OE p e R below s n0 Q T (mkF m pc Ls (.int z :: .int x :: st)) := by
  obtain ⟨hx, hZ, hown, hby, hmx, hret, hnm, hlk, h0, hT, locs, S, N⟩ := X; subst hp
  exact OE.by (fun t q => XT.ishr S.here hx rfl (hb hby hd) rfl q) K
theorem o_iushr (X : OW p l e R s m args below meth c Z y bytes mx ret n0 T h k n) {x z : Int32} (hd : decode bytes pc = .ok (.iushr, 1))  (pc' : Nat) (hp : pc + 1 = pc') (K : OE p e R below s n0 Q T (mkF m pc' Ls (.int (XT.ushr x z) :: st))) : OE p e R below s n0 Q T (mkF m pc Ls (.int z :: .int x :: st)) := by
  obtain ⟨hx, hZ, hown, hby, hmx, hret, hnm, hlk, h0, hT, locs, S, N⟩ := X; subst hp
  exact OE.by (fun t q => XT.iushr S.here hx rfl (hb hby hd) rfl q) K
theorem o_idiv (X : OW p l e R s m args below meth c Z y bytes mx ret n0 T h k n) {x z : Int32} (hd : decode bytes pc = .ok (.idiv, 1)) (hz : z ≠ 0) (pc' : Nat) (hp : pc + 1 = pc') (K : OE p e R below s n0 Q T (mkF m pc' Ls (.int (x / z) :: st))) : OE p e R below s n0 Q T (mkF m pc Ls (.int z :: .int x :: st)) := by
  obtain ⟨hx, hZ, hown, hby, hmx, hret, hnm, hlk, h0, hT, locs, S, N⟩ := X; subst hp
  exact OE.by (fun t q => XS.idiv S.here hx rfl (hb hby hd) rfl hz q) K
theorem o_irem (X : OW p l e R s m args below meth c Z y bytes mx ret n0 T h k n) {x z : Int32} (hd : decode bytes pc = .ok (.irem, 1)) (hz : z ≠ 0) (pc' : Nat) (hp : pc + 1 = pc') (K : OE p e R below s n0 Q T (mkF m pc' Ls (.int (x % z) :: st))) : OE p e R below s n0 Q T (mkF m pc Ls (.int z :: .int x :: st)) := by
  obtain ⟨hx, hZ, hown, hby, hmx, hret, hnm, hlk, h0, hT, locs, S, N⟩ := X; subst hp
  exact OE.by (fun t q => iremM S hx rfl (hb hby hd) rfl hz q) K
theorem o_ladd (X : OW p l e R s m args below meth c Z y bytes mx ret n0 T h k n) {x z : Int64} (hd : decode bytes pc = .ok (.ladd, 1))  (pc' : Nat) (hp : pc + 1 = pc') (K : OE p e R below s n0 Q T (mkF m pc' Ls (.long (x + z) :: st))) : OE p e R below s n0 Q T (mkF m pc Ls (.long z :: .long x :: st)) := by
  obtain ⟨hx, hZ, hown, hby, hmx, hret, hnm, hlk, h0, hT, locs, S, N⟩ := X; subst hp
  exact OE.by (fun t q => XT.ladd S.here hx rfl (hb hby hd) rfl q) K
theorem o_lsub (X : OW p l e R s m args below meth c Z y bytes mx ret n0 T h k n) {x z : Int64} (hd : decode bytes pc = .ok (.lsub, 1))  (pc' : Nat) (hp : pc + 1 = pc') (K : OE p e R below s n0 Q T (mkF m pc' Ls (.long (x - z) :: st))) : OE p e R below s n0 Q T (mkF m pc Ls (.long z :: .long x :: st)) := by
  obtain ⟨hx, hZ, hown, hby, hmx, hret, hnm, hlk, h0, hT, locs, S, N⟩ := X; subst hp
  exact OE.by (fun t q => XT.lsub S.here hx rfl (hb hby hd) rfl q) K
theorem o_lor (X : OW p l e R s m args below meth c Z y bytes mx ret n0 T h k n) {x z : Int64} (hd : decode bytes pc = .ok (.lor, 1))  (pc' : Nat) (hp : pc + 1 = pc') (K : OE p e R below s n0 Q T (mkF m pc' Ls (.long (x ||| z) :: st))) : OE p e R below s n0 Q T (mkF m pc Ls (.long z :: .long x :: st)) := by
  obtain ⟨hx, hZ, hown, hby, hmx, hret, hnm, hlk, h0, hT, locs, S, N⟩ := X; subst hp
  exact OE.by (fun t q => XT.lor S.here hx rfl (hb hby hd) rfl q) K
theorem o_land (X : OW p l e R s m args below meth c Z y bytes mx ret n0 T h k n) {x z : Int64} (hd : decode bytes pc = .ok (.land, 1))  (pc' : Nat) (hp : pc + 1 = pc') (K : OE p e R below s n0 Q T (mkF m pc' Ls (.long (x &&& z) :: st))) : OE p e R below s n0 Q T (mkF m pc Ls (.long z :: .long x :: st)) := by
  obtain ⟨hx, hZ, hown, hby, hmx, hret, hnm, hlk, h0, hT, locs, S, N⟩ := X; subst hp
  exact OE.by (fun t q => XT.land S.here hx rfl (hb hby hd) rfl q) K
theorem o_lmul (X : OW p l e R s m args below meth c Z y bytes mx ret n0 T h k n) {x z : Int64} (hd : decode bytes pc = .ok (.lmul, 1))  (pc' : Nat) (hp : pc + 1 = pc') (K : OE p e R below s n0 Q T (mkF m pc' Ls (.long (x * z) :: st))) : OE p e R below s n0 Q T (mkF m pc Ls (.long z :: .long x :: st)) := by
  obtain ⟨hx, hZ, hown, hby, hmx, hret, hnm, hlk, h0, hT, locs, S, N⟩ := X; subst hp
  exact OE.by (fun t q => XT.lmul S.here hx rfl (hb hby hd) rfl q) K
theorem o_lshl (X : OW p l e R s m args below meth c Z y bytes mx ret n0 T h k n) {x : Int64} {z : Int32} (hd : decode bytes pc = .ok (.lshl, 1))  (pc' : Nat) (hp : pc + 1 = pc') (K : OE p e R below s n0 Q T (mkF m pc' Ls (.long (x <<< (z.toInt64 &&& 63)) :: st))) : OE p e R below s n0 Q T (mkF m pc Ls (.int z :: .long x :: st)) := by
  obtain ⟨hx, hZ, hown, hby, hmx, hret, hnm, hlk, h0, hT, locs, S, N⟩ := X; subst hp
  exact OE.by (fun t q => XT.lshl S.here hx rfl (hb hby hd) rfl q) K
theorem o_lushr (X : OW p l e R s m args below meth c Z y bytes mx ret n0 T h k n) {x : Int64} {z : Int32} (hd : decode bytes pc = .ok (.lushr, 1))  (pc' : Nat) (hp : pc + 1 = pc') (K : OE p e R below s n0 Q T (mkF m pc' Ls (.long (XT.ushrL x z) :: st))) : OE p e R below s n0 Q T (mkF m pc Ls (.int z :: .long x :: st)) := by
  obtain ⟨hx, hZ, hown, hby, hmx, hret, hnm, hlk, h0, hT, locs, S, N⟩ := X; subst hp
  exact OE.by (fun t q => XT.lushr S.here hx rfl (hb hby hd) rfl q) K
theorem o_lcmp (X : OW p l e R s m args below meth c Z y bytes mx ret n0 T h k n) {x z : Int64} (hd : decode bytes pc = .ok (.lcmp, 1))  (pc' : Nat) (hp : pc + 1 = pc') (K : OE p e R below s n0 Q T (mkF m pc' Ls (.int (XT.cmpL x z) :: st))) : OE p e R below s n0 Q T (mkF m pc Ls (.long z :: .long x :: st)) := by
  obtain ⟨hx, hZ, hown, hby, hmx, hret, hnm, hlk, h0, hT, locs, S, N⟩ := X; subst hp
  exact OE.by (fun t q => XT.lcmp S.here hx rfl (hb hby hd) rfl q) K
theorem o_i2l (X : OW p l e R s m args below meth c Z y bytes mx ret n0 T h k n) {x : Int32} (hd : decode bytes pc = .ok (.i2l, 1))  (pc' : Nat) (hp : pc + 1 = pc') (K : OE p e R below s n0 Q T (mkF m pc' Ls (.long x.toInt64 :: st))) : OE p e R below s n0 Q T (mkF m pc Ls (.int x :: st)) := by
  obtain ⟨hx, hZ, hown, hby, hmx, hret, hnm, hlk, h0, hT, locs, S, N⟩ := X; subst hp
  exact OE.by (fun t q => XT.i2l S.here hx rfl (hb hby hd) rfl q) K
theorem o_l2i (X : OW p l e R s m args below meth c Z y bytes mx ret n0 T h k n) {x : Int64} (hd : decode bytes pc = .ok (.l2i, 1))  (pc' : Nat) (hp : pc + 1 = pc') (K : OE p e R below s n0 Q T (mkF m pc' Ls (.int x.toInt32 :: st))) : OE p e R below s n0 Q T (mkF m pc Ls (.long x :: st)) := by
  obtain ⟨hx, hZ, hown, hby, hmx, hret, hnm, hlk, h0, hT, locs, S, N⟩ := X; subst hp
  exact OE.by (fun t q => XT.l2i S.here hx rfl (hb hby hd) rfl q) K
theorem o_i2b (X : OW p l e R s m args below meth c Z y bytes mx ret n0 T h k n) {x : Int32} (hd : decode bytes pc = .ok (.i2b, 1))  (pc' : Nat) (hp : pc + 1 = pc') (K : OE p e R below s n0 Q T (mkF m pc' Ls (.int x.toInt8.toInt32 :: st))) : OE p e R below s n0 Q T (mkF m pc Ls (.int x :: st)) := by
  obtain ⟨hx, hZ, hown, hby, hmx, hret, hnm, hlk, h0, hT, locs, S, N⟩ := X; subst hp
  exact OE.by (fun t q => XT.i2b S.here hx rfl (hb hby hd) rfl q) K
theorem o_i2c (X : OW p l e R s m args below meth c Z y bytes mx ret n0 T h k n) {x : Int32} (hd : decode bytes pc = .ok (.i2c, 1))  (pc' : Nat) (hp : pc + 1 = pc') (K : OE p e R below s n0 Q T (mkF m pc' Ls (.int x.toUInt32.toUInt16.toUInt32.toInt32 :: st))) : OE p e R below s n0 Q T (mkF m pc Ls (.int x :: st)) := by
  obtain ⟨hx, hZ, hown, hby, hmx, hret, hnm, hlk, h0, hT, locs, S, N⟩ := X; subst hp
  exact OE.by (fun t q => XT.i2c S.here hx rfl (hb hby hd) rfl q) K
theorem o_dup (X : OW p l e R s m args below meth c Z y bytes mx ret n0 T h k n) {v : Value} (hd : decode bytes pc = .ok (.dup, 1)) (hc : v.category = 1) (pc' : Nat) (hp : pc + 1 = pc') (K : OE p e R below s n0 Q T (mkF m pc' Ls (v :: v :: st))) : OE p e R below s n0 Q T (mkF m pc Ls (v :: st)) := by
  obtain ⟨hx, hZ, hown, hby, hmx, hret, hnm, hlk, h0, hT, locs, S, N⟩ := X; subst hp
  exact OE.by (fun t q => XS.dup S.here hx rfl (hb hby hd) rfl hc q) K
theorem o_pop (X : OW p l e R s m args below meth c Z y bytes mx ret n0 T h k n) {v : Value} (hd : decode bytes pc = .ok (.pop, 1)) (hc : v.category = 1) (pc' : Nat) (hp : pc + 1 = pc') (K : OE p e R below s n0 Q T (mkF m pc' Ls st)) : OE p e R below s n0 Q T (mkF m pc Ls (v :: st)) := by
  obtain ⟨hx, hZ, hown, hby, hmx, hret, hnm, hlk, h0, hT, locs, S, N⟩ := X; subst hp
  exact OE.by (fun t q => XT.pop S.here hx rfl (hb hby hd) rfl hc q) K
theorem o_dupX1 (X : OW p l e R s m args below meth c Z y bytes mx ret n0 T h k n) {v w : Value} (hd : decode bytes pc = .ok (.dup_x1, 1)) (hc : v.category = 1) (hc' : w.category = 1) (pc' : Nat) (hp : pc + 1 = pc') (K : OE p e R below s n0 Q T (mkF m pc' Ls (v :: w :: v :: st))) : OE p e R below s n0 Q T (mkF m pc Ls (v :: w :: st)) := by
  obtain ⟨hx, hZ, hown, hby, hmx, hret, hnm, hlk, h0, hT, locs, S, N⟩ := X; subst hp
  exact OE.by (fun t q => XT.dupX1 S.here hx rfl (hb hby hd) rfl hc hc' q) K
theorem o_dup2 (X : OW p l e R s m args below meth c Z y bytes mx ret n0 T h k n) {v w : Value} (hd : decode bytes pc = .ok (.dup2, 1)) (hc : v.category = 1) (hc' : w.category = 1) (pc' : Nat) (hp : pc + 1 = pc') (K : OE p e R below s n0 Q T (mkF m pc' Ls (v :: w :: v :: w :: st))) : OE p e R below s n0 Q T (mkF m pc Ls (v :: w :: st)) := by
  obtain ⟨hx, hZ, hown, hby, hmx, hret, hnm, hlk, h0, hT, locs, S, N⟩ := X; subst hp
  exact OE.by (fun t q => XT.dup2 S.here hx rfl (hb hby hd) rfl hc hc' q) K
theorem o_istoreN (X : OW p l e R s m args below meth c Z y bytes mx ret n0 T h k n) {j : Fin 4} {v : Int32} (hd : decode bytes pc = .ok (.istore_n j, 1)) (Ls' : Array Slot) (hl : storeLocals Ls j.val (.int v) = some Ls') (pc' : Nat) (hp : pc + 1 = pc') (K : OE p e R below s n0 Q T (mkF m pc' Ls' st)) : OE p e R below s n0 Q T (mkF m pc Ls (.int v :: st)) := by
  obtain ⟨hx, hZ, hown, hby, hmx, hret, hnm, hlk, h0, hT, locs, S, N⟩ := X; subst hp
  exact OE.by (fun t q => XS.istoreN S.here hx rfl (hb hby hd) rfl hl q) K
theorem o_istore (X : OW p l e R s m args below meth c Z y bytes mx ret n0 T h k n) {j : Nat} {v : Int32} (hd : decode bytes pc = .ok (.istore j, 2)) (Ls' : Array Slot) (hl : storeLocals Ls j (.int v) = some Ls') (pc' : Nat) (hp : pc + 2 = pc') (K : OE p e R below s n0 Q T (mkF m pc' Ls' st)) : OE p e R below s n0 Q T (mkF m pc Ls (.int v :: st)) := by
  obtain ⟨hx, hZ, hown, hby, hmx, hret, hnm, hlk, h0, hT, locs, S, N⟩ := X; subst hp
  exact OE.by (fun t q => XS.istore S.here hx rfl (hb hby hd) rfl hl q) K
theorem o_lstoreN (X : OW p l e R s m args below meth c Z y bytes mx ret n0 T h k n) {j : Fin 4} {v : Int64} (hd : decode bytes pc = .ok (.lstore_n j, 1)) (Ls' : Array Slot) (hl : storeLocals Ls j.val (.long v) = some Ls') (pc' : Nat) (hp : pc + 1 = pc') (K : OE p e R below s n0 Q T (mkF m pc' Ls' st)) : OE p e R below s n0 Q T (mkF m pc Ls (.long v :: st)) := by
  obtain ⟨hx, hZ, hown, hby, hmx, hret, hnm, hlk, h0, hT, locs, S, N⟩ := X; subst hp
  exact OE.by (fun t q => XT.lstoreN S.here hx rfl (hb hby hd) rfl hl q) K
theorem o_lstore (X : OW p l e R s m args below meth c Z y bytes mx ret n0 T h k n) {j : Nat} {v : Int64} (hd : decode bytes pc = .ok (.lstore j, 2)) (Ls' : Array Slot) (hl : storeLocals Ls j (.long v) = some Ls') (pc' : Nat) (hp : pc + 2 = pc') (K : OE p e R below s n0 Q T (mkF m pc' Ls' st)) : OE p e R below s n0 Q T (mkF m pc Ls (.long v :: st)) := by
  obtain ⟨hx, hZ, hown, hby, hmx, hret, hnm, hlk, h0, hT, locs, S, N⟩ := X; subst hp
  exact OE.by (fun t q => XT.lstore S.here hx rfl (hb hby hd) rfl hl q) K
theorem o_astoreN (X : OW p l e R s m args below meth c Z y bytes mx ret n0 T h k n) {j : Fin 4} {v : Value} (hd : decode bytes pc = .ok (.astore_n j, 1)) (hv : v.isRef = true) (Ls' : Array Slot) (hl : storeLocals Ls j.val v = some Ls') (pc' : Nat) (hp : pc + 1 = pc') (K : OE p e R below s n0 Q T (mkF m pc' Ls' st)) : OE p e R below s n0 Q T (mkF m pc Ls (v :: st)) := by
  obtain ⟨hx, hZ, hown, hby, hmx, hret, hnm, hlk, h0, hT, locs, S, N⟩ := X; subst hp
  exact OE.by (fun t q => XS.astoreN S.here hx rfl (hb hby hd) rfl hv hl q) K
theorem o_astore (X : OW p l e R s m args below meth c Z y bytes mx ret n0 T h k n) {j : Nat} {v : Value} (hd : decode bytes pc = .ok (.astore j, 2)) (hv : v.isRef = true) (Ls' : Array Slot) (hl : storeLocals Ls j v = some Ls') (pc' : Nat) (hp : pc + 2 = pc') (K : OE p e R below s n0 Q T (mkF m pc' Ls' st)) : OE p e R below s n0 Q T (mkF m pc Ls (v :: st)) := by
  obtain ⟨hx, hZ, hown, hby, hmx, hret, hnm, hlk, h0, hT, locs, S, N⟩ := X; subst hp
  exact OE.by (fun t q => XS.astore S.here hx rfl (hb hby hd) rfl hv hl q) K
theorem o_iinc (X : OW p l e R s m args below meth c Z y bytes mx ret n0 T h k n) {j : Nat} {i : Int} {v w : Int32} (hd : decode bytes pc = .ok (.iinc j i, 3)) (hg : Ls[j]? = some (.val (.int v))) (hw : v + Int32.ofInt i = w) (Ls' : Array Slot) (hl : storeLocals Ls j (.int w) = some Ls') (pc' : Nat) (hp : pc + 3 = pc') (K : OE p e R below s n0 Q T (mkF m pc' Ls' st)) : OE p e R below s n0 Q T (mkF m pc Ls st) := by
  obtain ⟨hx, hZ, hown, hby, hmx, hret, hnm, hlk, h0, hT, locs, S, N⟩ := X; subst hp hw
  exact OE.by (fun t q => XS.iinc S.here hx rfl (hb hby hd) hg hl q) K
theorem o_goto (X : OW p l e R s m args below meth c Z y bytes mx ret n0 T h k n) {o : Int} (hd : decode bytes pc = .ok (.goto o, 3)) (pc' : Nat) (ho : 0 ≤ (pc : Int) + o) (hp : ((pc : Int) + o).toNat = pc') (K : OE p e R below s n0 Q T (mkF m pc' Ls st)) : OE p e R below s n0 Q T (mkF m pc Ls st) := by
  obtain ⟨hx, hZ, hown, hby, hmx, hret, hnm, hlk, h0, hT, locs, S, N⟩ := X
  exact OE.by (fun t q => XS.goto S.here hx rfl rfl (hb hby hd) ho hp q) K
theorem o_icmpEq (X : OW p l e R s m args below meth c Z y bytes mx ret n0 T h k n) {o : Int} {x z : Int32} (hd : decode bytes pc = .ok (.if_icmp .eq o, 3)) (pcT pcF : Nat) (ho : 0 ≤ (pc : Int) + o) (hT : ((pc : Int) + o).toNat = pcT) (hF : pc + 3 = pcF) (KT : x = z → OE p e R below s n0 Q T (mkF m pcT Ls st)) (KF : ¬ x = z → OE p e R below s n0 Q T (mkF m pcF Ls st)) : OE p e R below s n0 Q T (mkF m pc Ls (.int z :: .int x :: st)) := by
  obtain ⟨hx, hZ, hown, hby, hmx, hret, hnm, hlk, h0, hT', locs, S, N⟩ := X; subst hF
  by_cases q : x = z
  · exact OE.by (fun t r => XS.icmpYes S.here hx rfl rfl (hb hby hd) rfl ((teq q).1) ho hT r) (KT q)
  · exact OE.by (fun t r => XS.icmpNo S.here hx rfl (hb hby hd) rfl ((feq q).1) r) (KF q)
theorem o_ifEq (X : OW p l e R s m args below meth c Z y bytes mx ret n0 T h k n) {o : Int} {x : Int32} (hd : decode bytes pc = .ok (.ifCond .eq o, 3)) (pcT pcF : Nat) (ho : 0 ≤ (pc : Int) + o) (hT : ((pc : Int) + o).toNat = pcT) (hF : pc + 3 = pcF) (KT : x = 0 → OE p e R below s n0 Q T (mkF m pcT Ls st)) (KF : ¬ x = 0 → OE p e R below s n0 Q T (mkF m pcF Ls st)) : OE p e R below s n0 Q T (mkF m pc Ls (.int x :: st)) := by
  obtain ⟨hx, hZ, hown, hby, hmx, hret, hnm, hlk, h0, hT', locs, S, N⟩ := X; subst hF
  by_cases q : x = 0
  · exact OE.by (fun t r => XS.ifYes S.here hx rfl rfl (hb hby hd) rfl ((if0 _ _).trans (teq q).1) ho hT r) (KT q)
  · exact OE.by (fun t r => XS.ifNo S.here hx rfl (hb hby hd) rfl ((if0 _ _).trans (feq q).1) r) (KF q)
theorem o_icmpNe (X : OW p l e R s m args below meth c Z y bytes mx ret n0 T h k n) {o : Int} {x z : Int32} (hd : decode bytes pc = .ok (.if_icmp .ne o, 3)) (pcT pcF : Nat) (ho : 0 ≤ (pc : Int) + o) (hT : ((pc : Int) + o).toNat = pcT) (hF : pc + 3 = pcF) (KT : ¬ x = z → OE p e R below s n0 Q T (mkF m pcT Ls st)) (KF : x = z → OE p e R below s n0 Q T (mkF m pcF Ls st)) : OE p e R below s n0 Q T (mkF m pc Ls (.int z :: .int x :: st)) := by
  obtain ⟨hx, hZ, hown, hby, hmx, hret, hnm, hlk, h0, hT', locs, S, N⟩ := X; subst hF
  by_cases q : x = z
  · exact OE.by (fun t r => XS.icmpNo S.here hx rfl (hb hby hd) rfl ((teq q).2) r) (KF q)
  · exact OE.by (fun t r => XS.icmpYes S.here hx rfl rfl (hb hby hd) rfl ((feq q).2) ho hT r) (KT q)
theorem o_ifNe (X : OW p l e R s m args below meth c Z y bytes mx ret n0 T h k n) {o : Int} {x : Int32} (hd : decode bytes pc = .ok (.ifCond .ne o, 3)) (pcT pcF : Nat) (ho : 0 ≤ (pc : Int) + o) (hT : ((pc : Int) + o).toNat = pcT) (hF : pc + 3 = pcF) (KT : ¬ x = 0 → OE p e R below s n0 Q T (mkF m pcT Ls st)) (KF : x = 0 → OE p e R below s n0 Q T (mkF m pcF Ls st)) : OE p e R below s n0 Q T (mkF m pc Ls (.int x :: st)) := by
  obtain ⟨hx, hZ, hown, hby, hmx, hret, hnm, hlk, h0, hT', locs, S, N⟩ := X; subst hF
  by_cases q : x = 0
  · exact OE.by (fun t r => XS.ifNo S.here hx rfl (hb hby hd) rfl ((if0 _ _).trans (teq q).2) r) (KF q)
  · exact OE.by (fun t r => XS.ifYes S.here hx rfl rfl (hb hby hd) rfl ((if0 _ _).trans (feq q).2) ho hT r) (KT q)
theorem o_icmpLt (X : OW p l e R s m args below meth c Z y bytes mx ret n0 T h k n) {o : Int} {x z : Int32} (hd : decode bytes pc = .ok (.if_icmp .lt o, 3)) (pcT pcF : Nat) (ho : 0 ≤ (pc : Int) + o) (hT : ((pc : Int) + o).toNat = pcT) (hF : pc + 3 = pcF) (KT : x < z → OE p e R below s n0 Q T (mkF m pcT Ls st)) (KF : ¬ x < z → OE p e R below s n0 Q T (mkF m pcF Ls st)) : OE p e R below s n0 Q T (mkF m pc Ls (.int z :: .int x :: st)) := by
  obtain ⟨hx, hZ, hown, hby, hmx, hret, hnm, hlk, h0, hT', locs, S, N⟩ := X; subst hF
  by_cases q : x < z
  · exact OE.by (fun t r => XS.icmpYes S.here hx rfl rfl (hb hby hd) rfl ((tlt q).1) ho hT r) (KT q)
  · exact OE.by (fun t r => XS.icmpNo S.here hx rfl (hb hby hd) rfl ((flt q).1) r) (KF q)
theorem o_ifLt (X : OW p l e R s m args below meth c Z y bytes mx ret n0 T h k n) {o : Int} {x : Int32} (hd : decode bytes pc = .ok (.ifCond .lt o, 3)) (pcT pcF : Nat) (ho : 0 ≤ (pc : Int) + o) (hT : ((pc : Int) + o).toNat = pcT) (hF : pc + 3 = pcF) (KT : x < 0 → OE p e R below s n0 Q T (mkF m pcT Ls st)) (KF : ¬ x < 0 → OE p e R below s n0 Q T (mkF m pcF Ls st)) : OE p e R below s n0 Q T (mkF m pc Ls (.int x :: st)) := by
  obtain ⟨hx, hZ, hown, hby, hmx, hret, hnm, hlk, h0, hT', locs, S, N⟩ := X; subst hF
  by_cases q : x < 0
  · exact OE.by (fun t r => XS.ifYes S.here hx rfl rfl (hb hby hd) rfl ((if0 _ _).trans (tlt q).1) ho hT r) (KT q)
  · exact OE.by (fun t r => XS.ifNo S.here hx rfl (hb hby hd) rfl ((if0 _ _).trans (flt q).1) r) (KF q)
theorem o_icmpGe (X : OW p l e R s m args below meth c Z y bytes mx ret n0 T h k n) {o : Int} {x z : Int32} (hd : decode bytes pc = .ok (.if_icmp .ge o, 3)) (pcT pcF : Nat) (ho : 0 ≤ (pc : Int) + o) (hT : ((pc : Int) + o).toNat = pcT) (hF : pc + 3 = pcF) (KT : ¬ x < z → OE p e R below s n0 Q T (mkF m pcT Ls st)) (KF : x < z → OE p e R below s n0 Q T (mkF m pcF Ls st)) : OE p e R below s n0 Q T (mkF m pc Ls (.int z :: .int x :: st)) := by
  obtain ⟨hx, hZ, hown, hby, hmx, hret, hnm, hlk, h0, hT', locs, S, N⟩ := X; subst hF
  by_cases q : x < z
  · exact OE.by (fun t r => XS.icmpNo S.here hx rfl (hb hby hd) rfl ((tlt q).2.1) r) (KF q)
  · exact OE.by (fun t r => XS.icmpYes S.here hx rfl rfl (hb hby hd) rfl ((flt q).2.1) ho hT r) (KT q)
theorem o_ifGe (X : OW p l e R s m args below meth c Z y bytes mx ret n0 T h k n) {o : Int} {x : Int32} (hd : decode bytes pc = .ok (.ifCond .ge o, 3)) (pcT pcF : Nat) (ho : 0 ≤ (pc : Int) + o) (hT : ((pc : Int) + o).toNat = pcT) (hF : pc + 3 = pcF) (KT : ¬ x < 0 → OE p e R below s n0 Q T (mkF m pcT Ls st)) (KF : x < 0 → OE p e R below s n0 Q T (mkF m pcF Ls st)) : OE p e R below s n0 Q T (mkF m pc Ls (.int x :: st)) := by
  obtain ⟨hx, hZ, hown, hby, hmx, hret, hnm, hlk, h0, hT', locs, S, N⟩ := X; subst hF
  by_cases q : x < 0
  · exact OE.by (fun t r => XS.ifNo S.here hx rfl (hb hby hd) rfl ((if0 _ _).trans (tlt q).2.1) r) (KF q)
  · exact OE.by (fun t r => XS.ifYes S.here hx rfl rfl (hb hby hd) rfl ((if0 _ _).trans (flt q).2.1) ho hT r) (KT q)
theorem o_icmpGt (X : OW p l e R s m args below meth c Z y bytes mx ret n0 T h k n) {o : Int} {x z : Int32} (hd : decode bytes pc = .ok (.if_icmp .gt o, 3)) (pcT pcF : Nat) (ho : 0 ≤ (pc : Int) + o) (hT : ((pc : Int) + o).toNat = pcT) (hF : pc + 3 = pcF) (KT : z < x → OE p e R below s n0 Q T (mkF m pcT Ls st)) (KF : ¬ z < x → OE p e R below s n0 Q T (mkF m pcF Ls st)) : OE p e R below s n0 Q T (mkF m pc Ls (.int z :: .int x :: st)) := by
  obtain ⟨hx, hZ, hown, hby, hmx, hret, hnm, hlk, h0, hT', locs, S, N⟩ := X; subst hF
  by_cases q : z < x
  · exact OE.by (fun t r => XS.icmpYes S.here hx rfl rfl (hb hby hd) rfl ((tlt q).2.2.1) ho hT r) (KT q)
  · exact OE.by (fun t r => XS.icmpNo S.here hx rfl (hb hby hd) rfl ((flt q).2.2.1) r) (KF q)
theorem o_ifGt (X : OW p l e R s m args below meth c Z y bytes mx ret n0 T h k n) {o : Int} {x : Int32} (hd : decode bytes pc = .ok (.ifCond .gt o, 3)) (pcT pcF : Nat) (ho : 0 ≤ (pc : Int) + o) (hT : ((pc : Int) + o).toNat = pcT) (hF : pc + 3 = pcF) (KT : 0 < x → OE p e R below s n0 Q T (mkF m pcT Ls st)) (KF : ¬ 0 < x → OE p e R below s n0 Q T (mkF m pcF Ls st)) : OE p e R below s n0 Q T (mkF m pc Ls (.int x :: st)) := by
  obtain ⟨hx, hZ, hown, hby, hmx, hret, hnm, hlk, h0, hT', locs, S, N⟩ := X; subst hF
  by_cases q : 0 < x
  · exact OE.by (fun t r => XS.ifYes S.here hx rfl rfl (hb hby hd) rfl ((if0 _ _).trans (tlt q).2.2.1) ho hT r) (KT q)
  · exact OE.by (fun t r => XS.ifNo S.here hx rfl (hb hby hd) rfl ((if0 _ _).trans (flt q).2.2.1) r) (KF q)
theorem o_icmpLe (X : OW p l e R s m args below meth c Z y bytes mx ret n0 T h k n) {o : Int} {x z : Int32} (hd : decode bytes pc = .ok (.if_icmp .le o, 3)) (pcT pcF : Nat) (ho : 0 ≤ (pc : Int) + o) (hT : ((pc : Int) + o).toNat = pcT) (hF : pc + 3 = pcF) (KT : ¬ z < x → OE p e R below s n0 Q T (mkF m pcT Ls st)) (KF : z < x → OE p e R below s n0 Q T (mkF m pcF Ls st)) : OE p e R below s n0 Q T (mkF m pc Ls (.int z :: .int x :: st)) := by
  obtain ⟨hx, hZ, hown, hby, hmx, hret, hnm, hlk, h0, hT', locs, S, N⟩ := X; subst hF
  by_cases q : z < x
  · exact OE.by (fun t r => XS.icmpNo S.here hx rfl (hb hby hd) rfl ((tlt q).2.2.2) r) (KF q)
  · exact OE.by (fun t r => XS.icmpYes S.here hx rfl rfl (hb hby hd) rfl ((flt q).2.2.2) ho hT r) (KT q)
theorem o_ifLe (X : OW p l e R s m args below meth c Z y bytes mx ret n0 T h k n) {o : Int} {x : Int32} (hd : decode bytes pc = .ok (.ifCond .le o, 3)) (pcT pcF : Nat) (ho : 0 ≤ (pc : Int) + o) (hT : ((pc : Int) + o).toNat = pcT) (hF : pc + 3 = pcF) (KT : ¬ 0 < x → OE p e R below s n0 Q T (mkF m pcT Ls st)) (KF : 0 < x → OE p e R below s n0 Q T (mkF m pcF Ls st)) : OE p e R below s n0 Q T (mkF m pc Ls (.int x :: st)) := by
  obtain ⟨hx, hZ, hown, hby, hmx, hret, hnm, hlk, h0, hT', locs, S, N⟩ := X; subst hF
  by_cases q : 0 < x
  · exact OE.by (fun t r => XS.ifNo S.here hx rfl (hb hby hd) rfl ((if0 _ _).trans (tlt q).2.2.2) r) (KF q)
  · exact OE.by (fun t r => XS.ifYes S.here hx rfl rfl (hb hby hd) rfl ((if0 _ _).trans (flt q).2.2.2) ho hT r) (KT q)
theorem o_ifnullR (X : OW p l e R s m args below meth c Z y bytes mx ret n0 T h k n) {o : Int} {a : Addr} (hd : decode bytes pc = .ok (.ifnull o, 3)) (pc' : Nat) (hp : pc + 3 = pc') (K : OE p e R below s n0 Q T (mkF m pc' Ls st)) : OE p e R below s n0 Q T (mkF m pc Ls (.ref a :: st)) := by
  obtain ⟨hx, hZ, hown, hby, hmx, hret, hnm, hlk, h0, hT, locs, S, N⟩ := X; subst hp
  exact OE.by (fun t q => XS.ifnullNo S.here hx rfl (hb hby hd) rfl q) K
theorem o_ifnonnullR (X : OW p l e R s m args below meth c Z y bytes mx ret n0 T h k n) {o : Int} {a : Addr} (hd : decode bytes pc = .ok (.ifnonnull o, 3)) (pc' : Nat) (ho : 0 ≤ (pc : Int) + o) (hp : ((pc : Int) + o).toNat = pc') (K : OE p e R below s n0 Q T (mkF m pc' Ls st)) : OE p e R below s n0 Q T (mkF m pc Ls (.ref a :: st)) := by
  obtain ⟨hx, hZ, hown, hby, hmx, hret, hnm, hlk, h0, hT, locs, S, N⟩ := X
  exact OE.by (fun t q => XT.ifnonnullYes S.here hx rfl rfl (hb hby hd) rfl ho hp q) K
theorem o_acmpEqN (X : OW p l e R s m args below meth c Z y bytes mx ret n0 T h k n) {o : Int} {a b : Addr} (hd : decode bytes pc = .ok (.if_acmp .eq o, 3)) (hab : a ≠ b) (pc' : Nat) (hp : pc + 3 = pc') (K : OE p e R below s n0 Q T (mkF m pc' Ls st)) : OE p e R below s n0 Q T (mkF m pc Ls (.ref b :: .ref a :: st)) := by
  obtain ⟨hx, hZ, hown, hby, hmx, hret, hnm, hlk, h0, hT, locs, S, N⟩ := X; subst hp
  exact OE.by (fun t q => XT.acmpNo S.here hx rfl (hb hby hd) rfl rfl rfl (decide_eq_false fun r => hab (Value.ref.inj r)) q) K
theorem o_acmpNeY (X : OW p l e R s m args below meth c Z y bytes mx ret n0 T h k n) {o : Int} {a b : Addr} (hd : decode bytes pc = .ok (.if_acmp .ne o, 3)) (hab : a ≠ b) (pc' : Nat) (ho : 0 ≤ (pc : Int) + o) (hp : ((pc : Int) + o).toNat = pc') (K : OE p e R below s n0 Q T (mkF m pc' Ls st)) : OE p e R below s n0 Q T (mkF m pc Ls (.ref b :: .ref a :: st)) := by
  obtain ⟨hx, hZ, hown, hby, hmx, hret, hnm, hlk, h0, hT, locs, S, N⟩ := X
  exact OE.by (fun t q => XT.acmpYes S.here hx rfl rfl (hb hby hd) rfl rfl rfl (decide_eq_true fun r => hab (Value.ref.inj r)) ho hp q) K
theorem o_ldc (X : OW p l e R s m args below meth c Z y bytes mx ret n0 T h k n) {i : Nat} {v : Int32} (hd : decode bytes pc = .ok (.ldc i, 2)) (w : (Cond.constant y.cls i v).before a0 Z = true) (pc' : Nat) (hp : pc + 2 = pc') (K : OE p e R below s n0 Q T (mkF m pc' Ls (.int v :: st))) : OE p e R below s n0 Q T (mkF m pc Ls st) := by
  obtain ⟨hx, hZ, hown, hby, hmx, hret, hnm, hlk, h0, hT, locs, S, N⟩ := X; subst hp
  exact OE.by (fun t q => S.ldcInt hx hown (mvT hZ w) (g := mkF m pc Ls st) rfl (hb hby hd) t q) K
theorem o_ldc2L (X : OW p l e R s m args below meth c Z y bytes mx ret n0 T h k n) {i : Nat} {v : Int64} (hd : decode bytes pc = .ok (.ldc2_w i, 3)) (w : (Cond.constantLong y.cls i v).before a0 Z = true) (pc' : Nat) (hp : pc + 3 = pc') (K : OE p e R below s n0 Q T (mkF m pc' Ls (.long v :: st))) : OE p e R below s n0 Q T (mkF m pc Ls st) := by
  obtain ⟨hx, hZ, hown, hby, hmx, hret, hnm, hlk, h0, hT, locs, S, N⟩ := X; subst hp
  exact OE.by (fun t q => S.ldc2Long hx hown (mvT hZ w) (g := mkF m pc Ls st) rfl (hb hby hd) t q) K
theorem o_retZ (X : OW p l e R s m args below meth c Z y bytes mx (some .boolean) n0 T h k n) {z : Int32} (hd : decode bytes pc = .ok (.ireturn, 1)) (hk : k ≤ R.cells) (hn : n ≤ R.slots) (hq : Q (some (.int (nar .boolean z))) h) : OE p e R below s n0 Q T (mkF m pc Ls (.int z :: st)) := by
  obtain ⟨hx, hZ, hown, hby, hmx, hret, hnm, hlk, h0, hT, locs, S, N⟩ := X
  obtain ⟨fs, hr, hrun, hended, hW, hsame⟩ := S.leave (v := some (.int (nar .boolean z))) (fun q => by rw [hret] at q; cases q) hlk
  exact ⟨_, _, retN S hx (t := .boolean) hret (by simp) (hb hby hd) hr, hrun, hended, _, _, rfl, ⟨by show Q _ T.heap; rw [hT]; exact hq, N⟩, ⟨_, rfl⟩, hW, hsame.mono hk hn⟩
theorem o_retB (X : OW p l e R s m args below meth c Z y bytes mx (some .byte) n0 T h k n) {z : Int32} (hd : decode bytes pc = .ok (.ireturn, 1)) (hk : k ≤ R.cells) (hn : n ≤ R.slots) (hq : Q (some (.int (nar .byte z))) h) : OE p e R below s n0 Q T (mkF m pc Ls (.int z :: st)) := by
  obtain ⟨hx, hZ, hown, hby, hmx, hret, hnm, hlk, h0, hT, locs, S, N⟩ := X
  obtain ⟨fs, hr, hrun, hended, hW, hsame⟩ := S.leave (v := some (.int (nar .byte z))) (fun q => by rw [hret] at q; cases q) hlk
  exact ⟨_, _, retN S hx (t := .byte) hret (by simp) (hb hby hd) hr, hrun, hended, _, _, rfl, ⟨by show Q _ T.heap; rw [hT]; exact hq, N⟩, ⟨_, rfl⟩, hW, hsame.mono hk hn⟩
theorem o_retC (X : OW p l e R s m args below meth c Z y bytes mx (some .char) n0 T h k n) {z : Int32} (hd : decode bytes pc = .ok (.ireturn, 1)) (hk : k ≤ R.cells) (hn : n ≤ R.slots) (hq : Q (some (.int (nar .char z))) h) : OE p e R below s n0 Q T (mkF m pc Ls (.int z :: st)) := by
  obtain ⟨hx, hZ, hown, hby, hmx, hret, hnm, hlk, h0, hT, locs, S, N⟩ := X
  obtain ⟨fs, hr, hrun, hended, hW, hsame⟩ := S.leave (v := some (.int (nar .char z))) (fun q => by rw [hret] at q; cases q) hlk
  exact ⟨_, _, retN S hx (t := .char) hret (by simp) (hb hby hd) hr, hrun, hended, _, _, rfl, ⟨by show Q _ T.heap; rw [hT]; exact hq, N⟩, ⟨_, rfl⟩, hW, hsame.mono hk hn⟩
theorem o_retI (X : OW p l e R s m args below meth c Z y bytes mx (some .int) n0 T h k n) {z : Int32} (hd : decode bytes pc = .ok (.ireturn, 1)) (hk : k ≤ R.cells) (hn : n ≤ R.slots) (hq : Q (some (.int z)) h) : OE p e R below s n0 Q T (mkF m pc Ls (.int z :: st)) := by
  obtain ⟨hx, hZ, hown, hby, hmx, hret, hnm, hlk, h0, hT, locs, S, N⟩ := X
  obtain ⟨fs, hr, hrun, hended, hW, hsame⟩ := S.leave (v := some (.int z)) (fun q => by rw [hret] at q; cases q) hlk
  exact ⟨_, _, retOut S hx hret rfl (Or.inl ⟨rfl, Or.inl rfl, z, rfl⟩) (hb hby hd) hr, hrun, hended, _, _, rfl, ⟨by show Q _ T.heap; rw [hT]; exact hq, N⟩, ⟨_, rfl⟩, hW, hsame.mono hk hn⟩
theorem o_retJ (X : OW p l e R s m args below meth c Z y bytes mx (some .long) n0 T h k n) {z : Int64} (hd : decode bytes pc = .ok (.lreturn, 1)) (hk : k ≤ R.cells) (hn : n ≤ R.slots) (hq : Q (some (.long z)) h) : OE p e R below s n0 Q T (mkF m pc Ls (.long z :: st)) := by
  obtain ⟨hx, hZ, hown, hby, hmx, hret, hnm, hlk, h0, hT, locs, S, N⟩ := X
  obtain ⟨fs, hr, hrun, hended, hW, hsame⟩ := S.leave (v := some (.long z)) (fun q => by rw [hret] at q; cases q) hlk
  exact ⟨_, _, retOut S hx hret rfl (Or.inr (Or.inl ⟨rfl, rfl, z, rfl⟩)) (hb hby hd) hr, hrun, hended, _, _, rfl, ⟨by show Q _ T.heap; rw [hT]; exact hq, N⟩, ⟨_, rfl⟩, hW, hsame.mono hk hn⟩
theorem o_retA {ty : FieldType} (X : OW p l e R s m args below meth c Z y bytes mx (some ty) n0 T h k n) (hty : ty.isReference = true) {a : Addr} (hnar : narrow ty (.ref a) = .ref a) (hd : decode bytes pc = .ok (.areturn, 1)) (hk : k ≤ R.cells) (hn : n ≤ R.slots) (hq : Q (some (.ref a)) h) : OE p e R below s n0 Q T (mkF m pc Ls (.ref a :: st)) := by
  obtain ⟨hx, hZ, hown, hby, hmx, hret, hnm, hlk, h0, hT, locs, S, N⟩ := X
  obtain ⟨fs, hr, hrun, hended, hW, hsame⟩ := S.leave (v := some (.ref a)) (fun q => by rw [hret] at q; cases q) hlk
  exact ⟨_, _, retOut S hx hret hnar (Or.inr (Or.inr (Or.inr (Or.inr ⟨rfl, hty, rfl⟩)))) (hb hby hd) hr, hrun, hended, _, _, rfl, ⟨by show Q _ T.heap; rw [hT]; exact hq, N⟩, ⟨_, rfl⟩, hW, hsame.mono hk hn⟩
theorem o_ret (X : OW p l e R s m args below meth c Z y bytes mx none n0 T h k n) (hd : decode bytes pc = .ok (.return_, 1)) (hk : k ≤ R.cells) (hn : n ≤ R.slots) (hq : Q none h) : OE p e R below s n0 Q T (mkF m pc Ls []) := by
  obtain ⟨hx, hZ, hown, hby, hmx, hret, hnm, hlk, h0, hT, locs, S, N⟩ := X
  obtain ⟨fs, hr, hrun, hended, hW, hsame⟩ := S.leave (v := none) (fun _ => rfl) hlk
  exact ⟨_, _, S.returnOut hx hret (hb hby hd) hr, hrun, hended, _, _, rfl, ⟨by show Q _ T.heap; rw [hT]; exact hq, N⟩, ⟨_, rfl⟩, hW, hsame.mono hk hn⟩
/-! the heap: a list of places, each with what its cell says -/
def OA (Z : State) (ty : FieldType) (vs : List Int32) (c : Cell) : Prop := Z.isArrayOf c ty ∧ c.vm ≠ .unknown ∧ c.slots = (vs.map Value.int).toArray ∧ (∀ x ∈ vs, fits ty (.int x) = true) ∧ Z.vm.findClass ("[" ++ ty.toString) = some c.cls
def OL (n0 : Nat) (h : Heap) (L : List (Addr × (Cell → Prop))) : Prop := (L.map (·.1)).Nodup ∧ ∀ q ∈ L, n0 ≤ q.1 ∧ ∃ c : Cell, h[q.1]? = some c ∧ q.2 c
variable {L : List (Addr × (Cell → Prop))} {h' : Heap} {a : Addr} {ty : FieldType} {vs : List Int32} {PP : Cell → Prop}
theorem OL.nil : OL n0 h [] := ⟨List.nodup_nil, fun _ q => nomatch q⟩
theorem OL.ext (H : OL n0 h L) (E : Ext h h') : OL n0 h' L := ⟨H.1, fun q hq => by obtain ⟨h1, c, h2, h3⟩ := H.2 q hq; exact ⟨h1, c, E.2 _ _ h2, h3⟩⟩
theorem OL.lt (H : OL n0 h L) {q : Addr × (Cell → Prop)} (hq : q ∈ L) : q.1 < h.size := by obtain ⟨-, c, h2, -⟩ := H.2 q hq; exact (Array.getElem?_eq_some_iff.mp h2).1
theorem OL.push (H : OL n0 h L) (E : Ext h h') (h0 : n0 ≤ h.size) {c : Cell} (hc : h'[h.size]? = some c) (hp : PP c) : OL n0 h' ((h.size, PP) :: L) := by
  refine ⟨?_, fun q hq => ?_⟩
  · rw [List.map_cons, List.nodup_cons]
    refine ⟨fun hx => ?_, H.1⟩
    obtain ⟨q, hq, e⟩ := List.mem_map.mp hx
    have e' : q.1 = h.size := e
    exact absurd (H.lt hq) (by rw [e']; exact Nat.lt_irrefl _)
  · rcases List.mem_cons.mp hq with hq | hq
    · cases hq; exact ⟨h0, c, hc, hp⟩
    · exact (H.ext E).2 q hq
theorem OL.perm {L' : List (Addr × (Cell → Prop))} (H : OL n0 h L) (q : L.Perm L') : OL n0 h L' := ⟨(q.map (·.1)).nodup_iff.mp H.1, fun z hz => H.2 z (q.mem_iff.mpr hz)⟩
/-- the i-th place comes to the front -/
theorem OL.front (H : OL n0 h L) (i : Nat) {q : Addr × (Cell → Prop)} (hi : L[i]? = some q) : OL n0 h (q :: L.eraseIdx i) := by
  obtain ⟨hl, e⟩ := List.getElem?_eq_some_iff.mp hi
  refine H.perm ?_
  have e1 : L = L.take i ++ q :: L.drop (i + 1) := by rw [← e, List.getElem_cons_drop]; exact (List.take_append_drop i L).symm
  have e2 : L.eraseIdx i = L.take i ++ L.drop (i + 1) := List.eraseIdx_eq_take_drop_succ L i
  rw [e2]
  exact (List.Perm.of_eq e1).trans List.perm_middle
theorem OL.get (H : OL n0 h L) {i : Nat} (hi : L[i]? = some (a, PP)) : n0 ≤ a ∧ ∃ c : Cell, h[a]? = some c ∧ PP c := H.2 (a, PP) (List.mem_of_getElem? hi)
theorem OL.ne (H : OL n0 h L) {i j : Nat} {b : Addr} {PB : Cell → Prop} (hi : L[i]? = some (a, PP)) (hj : L[j]? = some (b, PB)) (hij : i ≠ j) : a ≠ b := by
  intro e; subst e
  have h1 : (L.map (·.1))[i]? = some a := by simp [hi]
  have h2 : (L.map (·.1))[j]? = some a := by simp [hj]
  obtain ⟨l1, -⟩ := List.getElem?_eq_some_iff.mp h1
  exact hij ((List.getElem?_inj l1 H.1).mp (h1.trans h2.symm))
theorem OL.wr (H : OL n0 h L) {i sl : Nat} {v : Value} {P' : Cell → Prop} (hi : L[i]? = some (a, PP)) (W : Wr h h' a sl v) (hP : ∀ c : Cell, h[a]? = some c → PP c → P' (c.setSlot sl v)) : OL n0 h' (L.set i (a, P')) := by
  have hmap : (L.set i (a, P')).map (·.1) = L.map (·.1) := by
    apply List.ext_getElem?
    intro j
    simp only [List.getElem?_map, List.getElem?_set]
    split
    · rename_i e; subst e; rw [if_pos (List.getElem?_eq_some_iff.mp hi).1, hi]; rfl
    · rfl
  refine ⟨by rw [hmap]; exact H.1, fun q hq => ?_⟩
  obtain ⟨j, hj⟩ := List.getElem?_of_mem hq
  rw [List.getElem?_set] at hj
  split at hj
  · rename_i e; subst e
    split at hj
    · cases hj
      obtain ⟨h1, c, h2, h3⟩ := H.get hi
      obtain ⟨c', e1, -, -, -, -, -, e7⟩ := wr_at W h2
      exact ⟨h1, c', e1, by rw [(e7 rfl).1]; exact hP c h2 h3⟩
    · cases hj
  · rename_i e
    obtain ⟨b, PB⟩ := q
    obtain ⟨h1, c, h2, h3⟩ := H.get hj
    obtain ⟨c', e1, -, -, -, e5, -⟩ := wr_at W h2
    have := e5 (H.ne hj hi (fun r => e r.symm))
    subst this
    exact ⟨h1, c', e1, h3⟩
theorem OA.set {c : Cell} {j : Nat} {x : Int32} (A : OA Z ty vs c) (hf : fits ty (.int x) = true) : OA Z ty (vs.set j x) (c.setSlot j (.int x)) := by
  obtain ⟨h1, h2, h3, h4, h5⟩ := A
  refine ⟨h1, h2, ?_, fun z hz => ?_, h5⟩
  · show c.slots.setIfInBounds j (.int x) = _
    rw [h3]; simp [List.map_set]
  · rcases List.mem_or_eq_of_mem_set hz with q | q
    · exact h4 z q
    · rw [q]; exact hf
theorem OA.new {k : ClassId} {z : Int32} {N : Nat} (hN : z.toInt = N) (hd : defaultValue ty = .int 0) (hf : fits ty (.int 0) = true) (A : Arr Z h a (newA k ty z) ty) (E : Exa Z h a ("[" ++ ty.toString)) : OA Z ty (List.replicate N 0) (newA k ty z) := by
  obtain ⟨c, kk, e1, e2, -⟩ := E
  cases A.1.symm.trans e1
  refine ⟨A.2.1, A.2.2, ?_, fun x hx => by rw [List.eq_of_mem_replicate hx]; exact hf, e2⟩
  have e : z.toNatClampNeg = N := by simp only [Int32.toNatClampNeg, hN]; rfl
  show Array.replicate z.toNatClampNeg (defaultValue ty) = _
  rw [e, hd]; simp
theorem o_idx {j : Int32} {i N : Nat} (hj : j.toInt = i) (hi : i < N) : ¬ (j < 0 ∨ N ≤ j.toNatClampNeg) ∧ j.toNatClampNeg = i := by
  have e : j.toNatClampNeg = i := by simp only [Int32.toNatClampNeg, hj]; rfl
  refine ⟨?_, e⟩
  rw [e, Int32.lt_iff_toInt_lt, hj, show (0 : Int32).toInt = 0 from rfl]; omega
theorem OA.size {c : Cell} (A : OA Z ty vs c) : c.slots.size = vs.length := by rw [A.2.2.1]; simp
theorem o_newarray (X : OW p l e R s m args below meth c Z y bytes mx ret n0 T h k n) (H : OL n0 h L) {aty : ArrayType} (hd : decode bytes pc = .ok (.newarray aty, 2)) (w : (Cond.arrayClass (newarray.typeOf aty)).before a0 Z = true) (hdv : defaultValue (newarray.typeOf aty) = .int 0) (hfv : fits (newarray.typeOf aty) (.int 0) = true) {z : Int32} (N cap : Nat) (hN : z.toInt = N) (hcap : N ≤ cap) (hb8 : cap * 8 ≤ 536870912) (k2 n2 : Nat) (hk2 : k + 1 = k2) (hn2 : n + cap = n2) (hc : k2 ≤ R.cells) (hl : n2 ≤ R.slots) (pc' : Nat) (hp : pc + 2 = pc')
    (K : ∀ T' h' a, OW p l e R s m args below meth c Z y bytes mx ret n0 T' h' k2 n2 → OL n0 h' ((a, OA Z (newarray.typeOf aty) (List.replicate N 0)) :: L) → OE p e R below s n0 Q T' (mkF m pc' Ls (.ref a :: st))) : OE p e R below s n0 Q T (mkF m pc Ls (.int z :: st)) := by
  have h0 := X.size
  obtain ⟨hx, hZ, hown, hby, hmx, hret, hnm, hlk, hn0, hT, locs, S, N0⟩ := X; subst hp hk2 hn2
  obtain ⟨T', h', cA, S', hT', E, A, EX, stp⟩ := newPE S hx hZ w hT (g := mkF m pc Ls (.int z :: st)) rfl (hb hby hd) rfl (by rw [Int32.lt_iff_toInt_lt, hN, show (0 : Int32).toInt = 0 from rfl]; omega) (cap := cap) (by simp only [Int32.toNatClampNeg, hN]; exact hcap) hb8 hc hl rfl
  exact OE.by stp (K T' h' h.size ⟨hx, hZ, hown, hby, hmx, hret, hnm, hlk, hn0, hT', locs, S', N0⟩ (H.push E h0 A.1 (OA.new hN hdv hfv A EX)))
theorem o_arraylength (X : OW p l e R s m args below meth c Z y bytes mx ret n0 T h k n) (H : OL n0 h L) (i : Nat) (hi : L[i]? = some (a, OA Z ty vs)) (hd : decode bytes pc = .ok (.arraylength, 1)) (z : Int32) (hz : Int32.ofNat vs.length = z) (pc' : Nat) (hp : pc + 1 = pc')
    (K : OE p e R below s n0 Q T (mkF m pc' Ls (.int z :: st))) : OE p e R below s n0 Q T (mkF m pc Ls (.ref a :: st)) := by
  obtain ⟨hx, hZ, hown, hby, hmx, hret, hnm, hlk, hn0, hT, locs, S, N0⟩ := X; subst hp
  obtain ⟨h1, c', h2, A⟩ := H.get hi
  refine OE.by (fun t q => S.arraylength hx (by rw [hT]; exact h2) (State.isArrayOf_alike hZ.alike A.1) (g := mkF m pc Ls (.ref a :: st)) rfl rfl (hb hby hd) t ?_) K
  have e1 : c'.slots.size.toInt32 = z := by rw [A.size]; exact hz
  rw [e1]; exact q
theorem o_iaload (X : OW p l e R s m args below meth c Z y bytes mx ret n0 T h k n) (H : OL n0 h L) (i : Nat) (hi : L[i]? = some (a, OA Z .int vs)) (hd : decode bytes pc = .ok (.iaload, 1)) {j : Int32} (jn : Nat) (hj : j.toInt = jn) (v : Int32) (hv : vs[jn]? = some v) (pc' : Nat) (hp : pc + 1 = pc')
    (K : OE p e R below s n0 Q T (mkF m pc' Ls (.int v :: st))) : OE p e R below s n0 Q T (mkF m pc Ls (.int j :: .ref a :: st)) := by
  obtain ⟨hx, hZ, hown, hby, hmx, hret, hnm, hlk, hn0, hT, locs, S, N0⟩ := X; subst hp
  obtain ⟨h1, c', h2, A⟩ := H.get hi
  have hlt := (List.getElem?_eq_some_iff.mp hv).1
  obtain ⟨q1, q2⟩ := o_idx hj (N := c'.slots.size) (by rw [A.size]; exact hlt)
  exact OE.by (fun t q => S.iaload hx (by rw [hT]; exact h2) (State.isArrayOf_alike hZ.alike A.1) A.2.1 q1 (v := .int v) (by rw [q2, A.2.2.1]; simp [hv]) (g := mkF m pc Ls (.int j :: .ref a :: st)) rfl rfl (hb hby hd) t q) K
theorem o_baloadB (X : OW p l e R s m args below meth c Z y bytes mx ret n0 T h k n) (H : OL n0 h L) (i : Nat) (hi : L[i]? = some (a, OA Z .byte vs)) (hd : decode bytes pc = .ok (.baload, 1)) {j : Int32} (jn : Nat) (hj : j.toInt = jn) (v : Int32) (hv : vs[jn]? = some v) (pc' : Nat) (hp : pc + 1 = pc')
    (K : OE p e R below s n0 Q T (mkF m pc' Ls (.int v :: st))) : OE p e R below s n0 Q T (mkF m pc Ls (.int j :: .ref a :: st)) := by
  obtain ⟨hx, hZ, hown, hby, hmx, hret, hnm, hlk, hn0, hT, locs, S, N0⟩ := X; subst hp
  obtain ⟨h1, c', h2, A⟩ := H.get hi
  have hlt := (List.getElem?_eq_some_iff.mp hv).1
  obtain ⟨q1, q2⟩ := o_idx hj (N := c'.slots.size) (by rw [A.size]; exact hlt)
  exact OE.by (fun t q => S.baloadBytes hx (by rw [hT]; exact h2) (State.isArrayOf_alike hZ.alike A.1) A.2.1 q1 (v := .int v) (by rw [q2, A.2.2.1]; simp [hv]) (g := mkF m pc Ls (.int j :: .ref a :: st)) rfl rfl (hb hby hd) t q) K
theorem o_baloadZ (X : OW p l e R s m args below meth c Z y bytes mx ret n0 T h k n) (H : OL n0 h L) (i : Nat) (hi : L[i]? = some (a, OA Z .boolean vs)) (hd : decode bytes pc = .ok (.baload, 1)) {j : Int32} (jn : Nat) (hj : j.toInt = jn) (v : Int32) (hv : vs[jn]? = some v) (pc' : Nat) (hp : pc + 1 = pc')
    (K : OE p e R below s n0 Q T (mkF m pc' Ls (.int v :: st))) : OE p e R below s n0 Q T (mkF m pc Ls (.int j :: .ref a :: st)) := by
  obtain ⟨hx, hZ, hown, hby, hmx, hret, hnm, hlk, hn0, hT, locs, S, N0⟩ := X; subst hp
  obtain ⟨h1, c', h2, A⟩ := H.get hi
  have hlt := (List.getElem?_eq_some_iff.mp hv).1
  obtain ⟨q1, q2⟩ := o_idx hj (N := c'.slots.size) (by rw [A.size]; exact hlt)
  exact OE.by (fun t q => S.baloadBooleans hx (by rw [hT]; exact h2) (State.isArrayOf_alike hZ.alike A.1) A.2.1 q1 (v := .int v) (by rw [q2, A.2.2.1]; simp [hv]) (g := mkF m pc Ls (.int j :: .ref a :: st)) rfl rfl (hb hby hd) t q) K
theorem o_iastore (X : OW p l e R s m args below meth c Z y bytes mx ret n0 T h k n) (H : OL n0 h L) (i : Nat) (hi : L[i]? = some (a, OA Z .int vs)) (hd : decode bytes pc = .ok (.iastore, 1)) {j x : Int32} (jn : Nat) (hj : j.toInt = jn) (hlt : jn < vs.length) (pc' : Nat) (hp : pc + 1 = pc')
    (K : ∀ T' h', OW p l e R s m args below meth c Z y bytes mx ret n0 T' h' k n → OL n0 h' (L.set i (a, OA Z .int (vs.set jn x))) → OE p e R below s n0 Q T' (mkF m pc' Ls st)) : OE p e R below s n0 Q T (mkF m pc Ls (.int x :: .int j :: .ref a :: st)) := by
  obtain ⟨hx, hZ, hown, hby, hmx, hret, hnm, hlk, hn0, hT, locs, S, N0⟩ := X; subst hp
  obtain ⟨h1, c', h2, A⟩ := H.get hi
  obtain ⟨q1, q2⟩ := o_idx hj (N := c'.slots.size) (by rw [A.size]; exact hlt)
  obtain ⟨T', h', S', hT', W, stp⟩ := stI S hx hZ hT ⟨h2, A.1, A.2.1⟩ q1 (x := x) (g := mkF m pc Ls (.int x :: .int j :: .ref a :: st)) rfl rfl (hb hby hd)
  rw [q2] at W S'
  exact OE.by stp (K T' h' ⟨hx, hZ, hown, hby, hmx, hret, hnm, hlk, hn0, hT', _, S', N0.app fun z hz => by cases List.mem_singleton.mp hz; exact h1⟩ (H.wr hi W fun c _ B => B.set rfl))
theorem o_bastoreB (X : OW p l e R s m args below meth c Z y bytes mx ret n0 T h k n) (H : OL n0 h L) (i : Nat) (hi : L[i]? = some (a, OA Z .byte vs)) (hd : decode bytes pc = .ok (.bastore, 1)) {j x : Int32} (jn : Nat) (hj : j.toInt = jn) (hlt : jn < vs.length) (v : Int32) (hv : x.toInt8.toInt32 = v) (pc' : Nat) (hp : pc + 1 = pc')
    (K : ∀ T' h', OW p l e R s m args below meth c Z y bytes mx ret n0 T' h' k n → OL n0 h' (L.set i (a, OA Z .byte (vs.set jn v))) → OE p e R below s n0 Q T' (mkF m pc' Ls st)) : OE p e R below s n0 Q T (mkF m pc Ls (.int x :: .int j :: .ref a :: st)) := by
  obtain ⟨hx, hZ, hown, hby, hmx, hret, hnm, hlk, hn0, hT, locs, S, N0⟩ := X; subst hp hv
  obtain ⟨h1, c', h2, A⟩ := H.get hi
  obtain ⟨q1, q2⟩ := o_idx hj (N := c'.slots.size) (by rw [A.size]; exact hlt)
  obtain ⟨T', h', S', hT', W, stp⟩ := stB S hx hZ hT ⟨h2, A.1, A.2.1⟩ q1 (x := x) (g := mkF m pc Ls (.int x :: .int j :: .ref a :: st)) rfl rfl (hb hby hd)
  rw [q2] at W S'
  exact OE.by stp (K T' h' ⟨hx, hZ, hown, hby, hmx, hret, hnm, hlk, hn0, hT', _, S', N0.app fun z hz => by cases List.mem_singleton.mp hz; exact h1⟩ (H.wr hi W fun c _ B => B.set (fits_nar_byte x)))
theorem o_bastoreZ (X : OW p l e R s m args below meth c Z y bytes mx ret n0 T h k n) (H : OL n0 h L) (i : Nat) (hi : L[i]? = some (a, OA Z .boolean vs)) (hd : decode bytes pc = .ok (.bastore, 1)) {j x : Int32} (jn : Nat) (hj : j.toInt = jn) (hlt : jn < vs.length) (v : Int32) (hv : nar .boolean x = v) (pc' : Nat) (hp : pc + 1 = pc')
    (K : ∀ T' h', OW p l e R s m args below meth c Z y bytes mx ret n0 T' h' k n → OL n0 h' (L.set i (a, OA Z .boolean (vs.set jn v))) → OE p e R below s n0 Q T' (mkF m pc' Ls st)) : OE p e R below s n0 Q T (mkF m pc Ls (.int x :: .int j :: .ref a :: st)) := by
  obtain ⟨hx, hZ, hown, hby, hmx, hret, hnm, hlk, hn0, hT, locs, S, N0⟩ := X; subst hp hv
  obtain ⟨h1, c', h2, A⟩ := H.get hi
  obtain ⟨q1, q2⟩ := o_idx hj (N := c'.slots.size) (by rw [A.size]; exact hlt)
  obtain ⟨T', h', S', hT', W, stp⟩ := stZ S hx hZ hT ⟨h2, A.1, A.2.1⟩ q1 (x := x) (g := mkF m pc Ls (.int x :: .int j :: .ref a :: st)) rfl rfl (hb hby hd)
  rw [q2] at W S'
  exact OE.by stp (K T' h' ⟨hx, hZ, hown, hby, hmx, hret, hnm, hlk, hn0, hT', _, S', N0.app fun z hz => by cases List.mem_singleton.mp hz; exact h1⟩ (H.wr hi W fun c _ B => B.set (fits_nar_bool x)))
theorem o_b8 (x : Int32) : x.toInt8.toInt32.toInt8.toInt32 = x.toInt8.toInt32 := by simp
/-! contracts and calls -/
def OC (l : Launch) (Z : State) (y : MethodName) (bytes : ByteArray) (mx : Nat) (ret : Option FieldType) (ws : List Jvm.Cond) (rm : Room) (n0 : Nat) (as' : Array Value) (h0 : Heap) (Q : Option Value → Heap → Prop) : Prop :=
  MetFree l y (head1 (Jvm.Cond.code y bytes mx ret :: ws) rm) (fun a U => a = as' ∧ Z.Warmed39 U.vm ∧ U.heap = h0) (fun _ _ _ _ _ => True) (fun _ U o U' => ∃ v L, o = .returned v ∧ (Q v U'.heap ∧ Fr n0 L) ∧ FrameEnd U o U' L rm.cells rm.slots)
theorem OC.of {ws : List Jvm.Cond} {rm : Room} {as' : Array Value} {h0 : Heap} (hp : plainName y.cls = true) (hn : n0 ≤ h0.size) (Ls : Array Slot) (hef : ∀ m : MethodId, entryFrame m as' mx = mkF m 0 Ls [])
    (B : ∀ p e s m below meth c T, OW p l e rm s m as' below meth c Z y bytes mx ret n0 T h0 0 0 → ∀ Q' : Option Value → Heap → Prop, (∀ r h, Q r h → Q' r h) → OE p e rm below s n0 Q' T (mkF m 0 Ls [])) : OC l Z y bytes mx ret ws rm n0 as' h0 Q := by
  refine MetFree.of_bodySF (plainFor_of_name hp) hisR ?_
  intro p e s m args below meth c s₁ Bd hml0 hP hK
  obtain ⟨rfl, hZ, hh⟩ := hP
  have hnm := (name_of_methodNamed Bd.named Bd.method).1
  have X0 : Stand p l e rm s m args below meth c s₁ [] 0 0 := Stand.of_body Bd
  have e0 : s₁.heap = h0 := by rw [← hh, Bd.state]; rfl
  rw [hef m]
  exact B p e s m below meth c s₁ ⟨Bd.exec, hZ, findClass_of_methodNamed Bd.named, Bd.bytes, hml0, Bd.returns, hnm, Bd.notSynchronized, by rw [hh]; exact hn, e0, [], X0, Fr.nil n0⟩ Q (fun _ _ q => q)
theorem o_callS (X : OW p l e R s m args below meth c Z y bytes mx ret n0 T h k n) {i : Nat} (hd : decode bytes pc = .ok (.invokestatic i, 3)) {y' : MethodName} {bytes' : ByteArray} {mx' : Nat} {ret' : Option FieldType} {rm : Room} {as' : Array Value} {Q' : Option Value → Heap → Prop} (C : OC l Z y' bytes' mx' ret' [] rm n0 as' h Q')
    (w1 : (Cond.methodLink y.cls i y').before a0 Z = true) (w2 : (Cond.static y').before a0 Z = true) (w3 : (Cond.initialized y'.cls).before a0 Z = true) (w4 : (Cond.code y' bytes' mx' ret').before a0 Z = true) (hy : y'.cls ≠ "java/lang/invoke/MethodHandle" ∧ y'.cls ≠ "java/lang/invoke/VarHandle")
    (Wd : Nat) (hf : rm.frames + 1 ≤ R.frames) (hlo : Wd + (mx' + 11) + rm.locals ≤ R.locals) (hls : Ls.size = mx) (argsL : List Value) (has : as' = argsL.toArray) {ps : List FieldType} {r' : Option FieldType} (hpd : parseMethodDescriptor y'.desc = some ⟨ps, r'⟩) (hlen : argsL.length = ps.length) (hst : st = argsL.reverse ++ rest) (hW : (rest.map fun v => v.category).sum ≤ Wd) (k2 n2 : Nat) (hk2 : k + rm.cells = k2) (hn2 : n + rm.slots = n2) (hk : k2 ≤ R.cells) (hn : n2 ≤ R.slots) (pc' : Nat) (hp : pc + 3 = pc')
    (K : ∀ v T' h', OW p l e R s m args below meth c Z y bytes mx ret n0 T' h' k2 n2 → Q' v h' → OE p e R below s n0 Q T' (mkF m pc' Ls (v.toList ++ rest))) : OE p e R below s n0 Q T (mkF m pc Ls st) := by
  obtain ⟨hx, hZ, hown, hby, hmx, hret, hnm, hlk, hn0, hT, locs, S, N0⟩ := X; subst hp has hk2 hn2
  obtain ⟨v, _, ⟨T2, L2, k2, n2⟩, -, X2, ⟨Lc, hQ, l2, y2, z2⟩, stp⟩ := Jvm.LawKit.callS S hx (y := y') hown (mvT hZ w1) (mvT hZ w2) (mvT hZ w3) (mvT hZ w4) hy (backOf (W := Wd) (Q := fun v hh LL => Q' v hh ∧ Fr n0 LL) C hZ w4 w3 hf hlo) (g := mkF m pc Ls st) rfl (by rw [hmx]; exact hls) (argsL := argsL) (rest := rest) (lenOf hpd hlen) hst (by show 2 * 0 + _ ≤ _; omega) (hb hby hd) (fun _ _ => ⟨rfl, hT, hk, hn⟩)
  dsimp only [Pt.U, Pt.locs, Pt.cells, Pt.slots] at X2 l2 y2 z2 stp hQ
  subst l2 y2 z2
  exact OE.by stp (K v T2 T2.heap ⟨hx, hZ, hown, hby, hmx, hret, hnm, hlk, hn0, rfl, _, X2, N0.app hQ.2⟩ hQ.1)
end OwnKit
theorem d1_0 : decode method_3_code 0 = .ok (.iload_n 0, 1) := by decide +kernel
theorem d1_1 : decode method_3_code 1 = .ok (.iload_n 1, 1) := by decide +kernel
theorem d1_2 : decode method_3_code 2 = .ok (.isub, 1) := by decide +kernel
theorem d1_3 : decode method_3_code 3 = .ok (.istore 5, 2) := by decide +kernel
theorem d1_5 : decode method_3_code 5 = .ok (.iload 5, 2) := by decide +kernel
theorem d1_7 : decode method_3_code 7 = .ok (.ifCond .lt 23, 3) := by decide +kernel
theorem d1_10 : decode method_3_code 10 = .ok (.iload 5, 2) := by decide +kernel
theorem d1_12 : decode method_3_code 12 = .ok (.bipush 8, 2) := by decide +kernel
theorem d1_14 : decode method_3_code 14 = .ok (.if_icmp .ge 16, 3) := by decide +kernel
theorem d1_17 : decode method_3_code 17 = .ok (.lload_n 2, 1) := by decide +kernel
theorem d1_18 : decode method_3_code 18 = .ok (.bipush 56, 2) := by decide +kernel
theorem d1_20 : decode method_3_code 20 = .ok (.bipush 8, 2) := by decide +kernel
theorem d1_22 : decode method_3_code 22 = .ok (.iload 5, 2) := by decide +kernel
theorem d1_24 : decode method_3_code 24 = .ok (.imul, 1) := by decide +kernel
theorem d1_25 : decode method_3_code 25 = .ok (.isub, 1) := by decide +kernel
theorem d1_26 : decode method_3_code 26 = .ok (.lushr, 1) := by decide +kernel
theorem d1_27 : decode method_3_code 27 = .ok (.l2i, 1) := by decide +kernel
theorem d1_28 : decode method_3_code 28 = .ok (.i2b, 1) := by decide +kernel
theorem d1_29 : decode method_3_code 29 = .ok (.ireturn, 1) := by decide +kernel
theorem d1_30 : decode method_3_code 30 = .ok (.iload 4, 2) := by decide +kernel
theorem d1_32 : decode method_3_code 32 = .ok (.bipush 8, 2) := by decide +kernel
theorem d1_34 : decode method_3_code 34 = .ok (.iload_n 0, 1) := by decide +kernel
theorem d1_35 : decode method_3_code 35 = .ok (.iconst 3, 1) := by decide +kernel
theorem d1_36 : decode method_3_code 36 = .ok (.iand, 1) := by decide +kernel
theorem d1_37 : decode method_3_code 37 = .ok (.imul, 1) := by decide +kernel
theorem d1_38 : decode method_3_code 38 = .ok (.iushr, 1) := by decide +kernel
theorem d1_39 : decode method_3_code 39 = .ok (.i2b, 1) := by decide +kernel
theorem d1_40 : decode method_3_code 40 = .ok (.ireturn, 1) := by decide +kernel
theorem d2_0 : decode prog_68_method_8_code 0 = .ok (.lconst 0, 1) := by decide +kernel
theorem d2_1 : decode prog_68_method_8_code 1 = .ok (.lstore_n 3, 1) := by decide +kernel
theorem d2_2 : decode prog_68_method_8_code 2 = .ok (.iload_n 1, 1) := by decide +kernel
theorem d2_3 : decode prog_68_method_8_code 3 = .ok (.istore 5, 2) := by decide +kernel
theorem d2_5 : decode prog_68_method_8_code 5 = .ok (.iload 5, 2) := by decide +kernel
theorem d2_7 : decode prog_68_method_8_code 7 = .ok (.iload_n 2, 1) := by decide +kernel
theorem d2_8 : decode prog_68_method_8_code 8 = .ok (.if_icmp .ge 24, 3) := by decide +kernel
theorem d2_11 : decode prog_68_method_8_code 11 = .ok (.lload_n 3, 1) := by decide +kernel
theorem d2_12 : decode prog_68_method_8_code 12 = .ok (.bipush 8, 2) := by decide +kernel
theorem d2_14 : decode prog_68_method_8_code 14 = .ok (.lshl, 1) := by decide +kernel
theorem d2_15 : decode prog_68_method_8_code 15 = .ok (.aload_n 0, 1) := by decide +kernel
theorem d2_16 : decode prog_68_method_8_code 16 = .ok (.iload 5, 2) := by decide +kernel
theorem d2_18 : decode prog_68_method_8_code 18 = .ok (.baload, 1) := by decide +kernel
theorem d2_19 : decode prog_68_method_8_code 19 = .ok (.sipush 255, 3) := by decide +kernel
theorem d2_22 : decode prog_68_method_8_code 22 = .ok (.iand, 1) := by decide +kernel
theorem d2_23 : decode prog_68_method_8_code 23 = .ok (.i2l, 1) := by decide +kernel
theorem d2_24 : decode prog_68_method_8_code 24 = .ok (.lor, 1) := by decide +kernel
theorem d2_25 : decode prog_68_method_8_code 25 = .ok (.lstore_n 3, 1) := by decide +kernel
theorem d2_26 : decode prog_68_method_8_code 26 = .ok (.iinc 5 1, 3) := by decide +kernel
theorem d2_29 : decode prog_68_method_8_code 29 = .ok (.goto (-24), 3) := by decide +kernel
theorem d2_32 : decode prog_68_method_8_code 32 = .ok (.lload_n 3, 1) := by decide +kernel
theorem d2_33 : decode prog_68_method_8_code 33 = .ok (.lreturn, 1) := by decide +kernel
theorem pn_0 : plainName "com/example/vestbook/vestbook/member/MemberIdsPackedPinLaw" = true := by first | (simp [plainName, overriddenIn]; done) | decide +kernel
theorem pn_1 : plainName "com/example/vestbook/vestbook/member/MemberIds" = true := by first | (simp [plainName, overriddenIn]; done) | decide +kernel
theorem pd_1 : parseMethodDescriptor "(IIJI)B" = some ⟨[.int, .int, .long, .int], (some .byte)⟩ := by decide +kernel
theorem pd_2 : parseMethodDescriptor "([BII)J" = some ⟨[(.array .byte), .int, .int], (some .long)⟩ := by decide +kernel
def f_by (a : Int64) (s : Int32) : Int32 := Int8.toInt32 (Int32.toInt8 (Int64.toInt32 (XT.ushrL a s)))
def f_at (i s : Int32) (a : Int64) (b : Int32) : Int32 := if i - s < 0 then Int8.toInt32 (Int32.toInt8 (XT.ushr b (8 * (i &&& 3)))) else if i - s < 8 then Int8.toInt32 (Int32.toInt8 (Int64.toInt32 (XT.ushrL a (56 - 8 * (i - s))))) else Int8.toInt32 (Int32.toInt8 (XT.ushr b (8 * (i &&& 3))))
theorem v_atn (i s : Int32) (a : Int64) (b : Int32) : Int8.toInt32 (Int32.toInt8 (f_at i s a b)) = f_at i s a b := by unfold f_at; split <;> (try split) <;> simp
theorem v_byn (a : Int64) (s : Int32) : Int8.toInt32 (Int32.toInt8 (f_by a s)) = f_by a s := by unfold f_by; simp
theorem v_low (x : Int64) : Int32.toInt64 ((Int8.toInt32 (Int32.toInt8 (Int64.toInt32 x))) &&& 255) = x &&& 255 := by
  have a := Jvm.Kit.i32_mask (Int8.toInt32 (Int32.toInt8 (Int64.toInt32 x))) 255 (k := 8) (by decide) (by decide)
  have b := c_i2b (Int64.toInt32 x)
  have c := c_l2i x
  have d := Jvm.Kit.i64_mask x 255 (k := 8) (by decide) (by decide)
  apply Int64.toInt_inj.mp
  rw [Int32.toInt_toInt64]; omega
theorem v_join (x y : Int64) (h : y.toBitVec = x.toBitVec >>> 8) : (y <<< ((Int32.toInt64 (8 : Int32)) &&& 63)) ||| (x &&& 255) = x := by
  apply Int64.toBitVec_inj.mp
  have e : (y <<< ((Int32.toInt64 (8 : Int32)) &&& 63)).toBitVec = y.toBitVec <<< 8 := rfl
  rw [Int64.toBitVec_or, e, h, Int64.toBitVec_and, show (255 : Int64).toBitVec = 255#64 from rfl]
  generalize x.toBitVec = b
  apply BitVec.eq_of_getLsbD_eq
  intro i hi
  have m : (255#64).getLsbD i = decide (i < 8) := by
    rw [show (255#64) = BitVec.ofNat 64 (2 ^ 8 - 1) from rfl, BitVec.getLsbD_ofNat, Nat.testBit_two_pow_sub_one]; simp [hi]
  simp only [BitVec.getLsbD_or, BitVec.getLsbD_shiftLeft, BitVec.getLsbD_ushiftRight, BitVec.getLsbD_and, m]
  by_cases c : i < 8
  · simp [c]
  · simp [c, hi, show 8 + (i - 8) = i by omega]
theorem v_cmp0 (x z : Int64) : XT.cmpL x z = 0 ↔ x = z := by
  unfold XT.cmpL; split <;> (try split) <;> simp_all [Int64.lt_iff_toInt_lt, ← Int64.toInt_inj] <;> omega
theorem v_p1 (a : Int64) : (((0 : Int64) <<< ((Int32.toInt64 (8 : Int32)) &&& 63)) ||| (Int32.toInt64 ((f_by a 56) &&& 255))) = XT.ushrL a 56 := by
  unfold f_by; rw [v_low]; refine v_join _ _ ?_
  show (0#64) = (a.toBitVec >>> 56) >>> 8
  rw [← BitVec.shiftRight_add]; apply BitVec.eq_of_toNat_eq; rw [BitVec.toNat_ushiftRight, Nat.shiftRight_eq_div_pow]; simp; omega
theorem v_p2 (a : Int64) : ((XT.ushrL a 56) <<< ((Int32.toInt64 (8 : Int32)) &&& 63)) ||| (Int32.toInt64 ((f_by a 48) &&& 255)) = XT.ushrL a 48 := by
  unfold f_by; rw [v_low]; refine v_join _ _ ?_
  show a.toBitVec >>> 56 = (a.toBitVec >>> 48) >>> 8
  rw [← BitVec.shiftRight_add]
theorem v_p3 (a : Int64) : ((XT.ushrL a 48) <<< ((Int32.toInt64 (8 : Int32)) &&& 63)) ||| (Int32.toInt64 ((f_by a 40) &&& 255)) = XT.ushrL a 40 := by
  unfold f_by; rw [v_low]; refine v_join _ _ ?_
  show a.toBitVec >>> 48 = (a.toBitVec >>> 40) >>> 8
  rw [← BitVec.shiftRight_add]
theorem v_p4 (a : Int64) : ((XT.ushrL a 40) <<< ((Int32.toInt64 (8 : Int32)) &&& 63)) ||| (Int32.toInt64 ((f_by a 32) &&& 255)) = XT.ushrL a 32 := by
  unfold f_by; rw [v_low]; refine v_join _ _ ?_
  show a.toBitVec >>> 40 = (a.toBitVec >>> 32) >>> 8
  rw [← BitVec.shiftRight_add]
theorem v_p5 (a : Int64) : ((XT.ushrL a 32) <<< ((Int32.toInt64 (8 : Int32)) &&& 63)) ||| (Int32.toInt64 ((f_by a 24) &&& 255)) = XT.ushrL a 24 := by
  unfold f_by; rw [v_low]; refine v_join _ _ ?_
  show a.toBitVec >>> 32 = (a.toBitVec >>> 24) >>> 8
  rw [← BitVec.shiftRight_add]
theorem v_p6 (a : Int64) : ((XT.ushrL a 24) <<< ((Int32.toInt64 (8 : Int32)) &&& 63)) ||| (Int32.toInt64 ((f_by a 16) &&& 255)) = XT.ushrL a 16 := by
  unfold f_by; rw [v_low]; refine v_join _ _ ?_
  show a.toBitVec >>> 24 = (a.toBitVec >>> 16) >>> 8
  rw [← BitVec.shiftRight_add]
theorem v_p7 (a : Int64) : ((XT.ushrL a 16) <<< ((Int32.toInt64 (8 : Int32)) &&& 63)) ||| (Int32.toInt64 ((f_by a 8) &&& 255)) = XT.ushrL a 8 := by
  unfold f_by; rw [v_low]; refine v_join _ _ ?_
  show a.toBitVec >>> 16 = (a.toBitVec >>> 8) >>> 8
  rw [← BitVec.shiftRight_add]
theorem v_p8 (a : Int64) : ((XT.ushrL a 8) <<< ((Int32.toInt64 (8 : Int32)) &&& 63)) ||| (Int32.toInt64 ((f_by a 0) &&& 255)) = XT.ushrL a 0 := by
  unfold f_by; rw [v_low]; refine v_join _ _ ?_
  show a.toBitVec >>> 8 = (a.toBitVec >>> 0) >>> 8
  rw [← BitVec.shiftRight_add]
theorem v_s (x : Int32) : (x &&& 2147483647) % 3 = 0 ∨ (x &&& 2147483647) % 3 = 1 ∨ (x &&& 2147483647) % 3 = 2 := by
  have h := Jvm.Kit.i32_mask x 2147483647 (k := 31) (by decide) (by decide)
  have r := (c_irem (x &&& 2147483647) 3 3 rfl).1 (by omega)
  simp only [← Int32.toInt_inj, Int32.reduceToInt]; omega
theorem v_l (x : Int32) : (x &&& 2147483647) % 9 = 0 ∨ (x &&& 2147483647) % 9 = 1 ∨ (x &&& 2147483647) % 9 = 2 ∨ (x &&& 2147483647) % 9 = 3 ∨ (x &&& 2147483647) % 9 = 4 ∨ (x &&& 2147483647) % 9 = 5 ∨ (x &&& 2147483647) % 9 = 6 ∨ (x &&& 2147483647) % 9 = 7 ∨ (x &&& 2147483647) % 9 = 8 := by
  have h := Jvm.Kit.i32_mask x 2147483647 (k := 31) (by decide) (by decide)
  have r := (c_irem (x &&& 2147483647) 9 9 rfl).1 (by omega)
  simp only [← Int32.toInt_inj, Int32.reduceToInt]; omega
set_option maxRecDepth 65536 in
set_option maxHeartbeats 40000000 in
theorem c_at (l : Launch) (Z : State) (a0 : Array Value) (hw : ∀ d ∈ tables_1, d.before a0 Z = true) (ws : List Jvm.Cond) (n0 : Nat) (h0 : Heap) (hn0 : n0 ≤ h0.size) (xi xs : Int32) (xa : Int64) (xb : Int32) :
    OC l Z (⟨"com/example/vestbook/vestbook/member/MemberIdsPackedPinLaw", "at", "(IIJI)B"⟩ : MethodName) method_3_code 6 (some .byte) ws ({ frames := 0, cells := 0, slots := 0, locals := 0 } : Room) n0 #[(.int xi), (.int xs), (.long xa), (.int xb)] h0 (fun r h => r = some (.int (f_at xi xs xa xb)) ∧ h0 = h) := by
  refine OC.of pn_0 hn0 #[.val (.int xi), .val (.int xs), .val (.long xa), .second, .val (.int xb), .unset] (fun m => by first | (simp [entryFrame, mkF, argsToLocals, Value.category, maxLocals]; done) | rfl) ?_
  intro p e s m below meth cd0 T0 X0 Q' hQ
  refine o_iloadN X0 d1_0 rfl 1 rfl ?_
  refine o_iloadN X0 d1_1 rfl 2 rfl ?_
  refine o_isub X0 d1_2 3 rfl ?_
  refine o_istore X0 d1_3 #[.val (.int xi), .val (.int xs), .val (.long xa), .second, .val (.int xb), .val (.int (xi - xs))] rfl 5 rfl ?_
  refine o_iload X0 d1_5 rfl 7 rfl ?_
  refine o_ifLt X0 d1_7 30 10 (by decide) (by decide) rfl ?_ ?_
  · intro hc7
    refine o_iload X0 d1_30 rfl 32 rfl ?_
    refine o_bipush (v := (8 : Int32)) X0 d1_32 rfl 34 rfl ?_
    refine o_iloadN X0 d1_34 rfl 35 rfl ?_
    refine o_iconst (v := (3 : Int32)) X0 d1_35 rfl 36 rfl ?_
    refine o_iand X0 d1_36 37 rfl ?_
    refine o_imul X0 d1_37 38 rfl ?_
    refine o_iushr X0 d1_38 39 rfl ?_
    refine o_i2b X0 d1_39 40 rfl ?_
    exact o_retB X0 d1_40 (by decide) (by decide) (hQ _ _ ⟨by show some (Value.int (nar .byte (Int8.toInt32 (Int32.toInt8 (XT.ushr xb ((8 : Int32) * (xi &&& (3 : Int32)))))))) = some (Value.int (f_at xi xs xa xb)); rw [show nar .byte (Int8.toInt32 (Int32.toInt8 (XT.ushr xb ((8 : Int32) * (xi &&& (3 : Int32)))))) = (Int8.toInt32 (Int32.toInt8 (XT.ushr xb ((8 : Int32) * (xi &&& (3 : Int32)))))) from o_b8 _]; simp [f_at, hc7], rfl⟩)
  · intro hc7
    refine o_iload X0 d1_10 rfl 12 rfl ?_
    refine o_bipush (v := (8 : Int32)) X0 d1_12 rfl 14 rfl ?_
    refine o_icmpGe X0 d1_14 30 17 (by decide) (by decide) rfl ?_ ?_
    · intro hc14
      refine o_iload X0 d1_30 rfl 32 rfl ?_
      refine o_bipush (v := (8 : Int32)) X0 d1_32 rfl 34 rfl ?_
      refine o_iloadN X0 d1_34 rfl 35 rfl ?_
      refine o_iconst (v := (3 : Int32)) X0 d1_35 rfl 36 rfl ?_
      refine o_iand X0 d1_36 37 rfl ?_
      refine o_imul X0 d1_37 38 rfl ?_
      refine o_iushr X0 d1_38 39 rfl ?_
      refine o_i2b X0 d1_39 40 rfl ?_
      exact o_retB X0 d1_40 (by decide) (by decide) (hQ _ _ ⟨by show some (Value.int (nar .byte (Int8.toInt32 (Int32.toInt8 (XT.ushr xb ((8 : Int32) * (xi &&& (3 : Int32)))))))) = some (Value.int (f_at xi xs xa xb)); rw [show nar .byte (Int8.toInt32 (Int32.toInt8 (XT.ushr xb ((8 : Int32) * (xi &&& (3 : Int32)))))) = (Int8.toInt32 (Int32.toInt8 (XT.ushr xb ((8 : Int32) * (xi &&& (3 : Int32)))))) from o_b8 _]; simp [f_at, hc7, hc14], rfl⟩)
    · intro hc14
      refine o_lloadN X0 d1_17 rfl 18 rfl ?_
      refine o_bipush (v := (56 : Int32)) X0 d1_18 rfl 20 rfl ?_
      refine o_bipush (v := (8 : Int32)) X0 d1_20 rfl 22 rfl ?_
      refine o_iload X0 d1_22 rfl 24 rfl ?_
      refine o_imul X0 d1_24 25 rfl ?_
      refine o_isub X0 d1_25 26 rfl ?_
      refine o_lushr X0 d1_26 27 rfl ?_
      refine o_l2i X0 d1_27 28 rfl ?_
      refine o_i2b X0 d1_28 29 rfl ?_
      exact o_retB X0 d1_29 (by decide) (by decide) (hQ _ _ ⟨by show some (Value.int (nar .byte (Int8.toInt32 (Int32.toInt8 (Int64.toInt32 (XT.ushrL xa ((56 : Int32) - ((8 : Int32) * (xi - xs))))))))) = some (Value.int (f_at xi xs xa xb)); rw [show nar .byte (Int8.toInt32 (Int32.toInt8 (Int64.toInt32 (XT.ushrL xa ((56 : Int32) - ((8 : Int32) * (xi - xs))))))) = (Int8.toInt32 (Int32.toInt8 (Int64.toInt32 (XT.ushrL xa ((56 : Int32) - ((8 : Int32) * (xi - xs))))))) from o_b8 _]; simp [f_at, hc7, hc14], rfl⟩)
set_option maxRecDepth 65536 in
set_option maxHeartbeats 40000000 in
theorem c_pack_0_0 (l : Launch) (Z : State) (a0 : Array Value) (hw : ∀ d ∈ tables_1, d.before a0 Z = true) (ws : List Jvm.Cond) (n0 : Nat) (h0 : Heap) (hn0 : n0 ≤ h0.size) (xa : Addr) (y0 y1 y2 y3 y4 y5 y6 y7 y8 y9 : Int32) (L' : List (Addr × (Cell → Prop))) (H0 : OL n0 h0 ((xa, OA Z .byte [y0, y1, y2, y3, y4, y5, y6, y7, y8, y9]) :: L')) :
    OC l Z (⟨"com/example/vestbook/vestbook/member/MemberIds", "packed", "([BII)J"⟩ : MethodName) prog_68_method_8_code 6 (some .long) ws ({ frames := 0, cells := 0, slots := 0, locals := 0 } : Room) n0 #[(.ref xa), (.int (0 : Int32)), (.int (0 : Int32))] h0 (fun r h => r = some (.long (0 : Int64)) ∧ h0 = h) := by
  refine OC.of pn_1 hn0 #[.val (.ref xa), .val (.int (0 : Int32)), .val (.int (0 : Int32)), .unset, .unset, .unset] (fun m => by first | (simp [entryFrame, mkF, argsToLocals, Value.category, maxLocals]; done) | rfl) ?_
  intro p e s m below meth cd0 T0 X0 Q' hQ
  refine o_lconst (v := (0 : Int64)) X0 d2_0 rfl 1 rfl ?_
  refine o_lstoreN X0 d2_1 #[.val (.ref xa), .val (.int (0 : Int32)), .val (.int (0 : Int32)), .val (.long (0 : Int64)), .second, .unset] rfl 2 rfl ?_
  refine o_iloadN X0 d2_2 rfl 3 rfl ?_
  refine o_istore X0 d2_3 #[.val (.ref xa), .val (.int (0 : Int32)), .val (.int (0 : Int32)), .val (.long (0 : Int64)), .second, .val (.int (0 : Int32))] rfl 5 rfl ?_
  refine o_iload X0 d2_5 rfl 7 rfl ?_
  refine o_iloadN X0 d2_7 rfl 8 rfl ?_
  refine o_icmpGe X0 d2_8 32 11 (by decide) (by decide) rfl ?_ (fun q => by exfalso; exact absurd q (by decide))
  intro hc8
  refine o_lloadN X0 d2_32 rfl 33 rfl ?_
  exact o_retJ X0 d2_33 (by decide) (by decide) (hQ _ _ ⟨rfl, rfl⟩)
set_option maxRecDepth 65536 in
set_option maxHeartbeats 40000000 in
theorem c_pack_0_1 (l : Launch) (Z : State) (a0 : Array Value) (hw : ∀ d ∈ tables_1, d.before a0 Z = true) (ws : List Jvm.Cond) (n0 : Nat) (h0 : Heap) (hn0 : n0 ≤ h0.size) (xa : Addr) (y0 y1 y2 y3 y4 y5 y6 y7 y8 y9 : Int32) (L' : List (Addr × (Cell → Prop))) (H0 : OL n0 h0 ((xa, OA Z .byte [y0, y1, y2, y3, y4, y5, y6, y7, y8, y9]) :: L')) :
    OC l Z (⟨"com/example/vestbook/vestbook/member/MemberIds", "packed", "([BII)J"⟩ : MethodName) prog_68_method_8_code 6 (some .long) ws ({ frames := 0, cells := 0, slots := 0, locals := 0 } : Room) n0 #[(.ref xa), (.int (0 : Int32)), (.int (1 : Int32))] h0 (fun r h => r = some (.long (((0 : Int64) <<< (Int32.toInt64 (8 : Int32) &&& 63)) ||| (Int32.toInt64 (y0 &&& (255 : Int32))))) ∧ h0 = h) := by
  refine OC.of pn_1 hn0 #[.val (.ref xa), .val (.int (0 : Int32)), .val (.int (1 : Int32)), .unset, .unset, .unset] (fun m => by first | (simp [entryFrame, mkF, argsToLocals, Value.category, maxLocals]; done) | rfl) ?_
  intro p e s m below meth cd0 T0 X0 Q' hQ
  refine o_lconst (v := (0 : Int64)) X0 d2_0 rfl 1 rfl ?_
  refine o_lstoreN X0 d2_1 #[.val (.ref xa), .val (.int (0 : Int32)), .val (.int (1 : Int32)), .val (.long (0 : Int64)), .second, .unset] rfl 2 rfl ?_
  refine o_iloadN X0 d2_2 rfl 3 rfl ?_
  refine o_istore X0 d2_3 #[.val (.ref xa), .val (.int (0 : Int32)), .val (.int (1 : Int32)), .val (.long (0 : Int64)), .second, .val (.int (0 : Int32))] rfl 5 rfl ?_
  refine o_iload X0 d2_5 rfl 7 rfl ?_
  refine o_iloadN X0 d2_7 rfl 8 rfl ?_
  refine o_icmpGe X0 d2_8 32 11 (by decide) (by decide) rfl (fun q => by exfalso; exact absurd q (by decide)) ?_
  intro hc8
  refine o_lloadN X0 d2_11 rfl 12 rfl ?_
  refine o_bipush (v := (8 : Int32)) X0 d2_12 rfl 14 rfl ?_
  refine o_lshl X0 d2_14 15 rfl ?_
  refine o_aloadN X0 d2_15 rfl rfl 16 rfl ?_
  refine o_iload X0 d2_16 rfl 18 rfl ?_
  refine o_baloadB X0 H0 0 rfl d2_18 0 rfl y0 rfl 19 rfl ?_
  refine o_sipush (v := (255 : Int32)) X0 d2_19 rfl 22 rfl ?_
  refine o_iand X0 d2_22 23 rfl ?_
  refine o_i2l X0 d2_23 24 rfl ?_
  refine o_lor X0 d2_24 25 rfl ?_
  refine o_lstoreN X0 d2_25 #[.val (.ref xa), .val (.int (0 : Int32)), .val (.int (1 : Int32)), .val (.long (((0 : Int64) <<< (Int32.toInt64 (8 : Int32) &&& 63)) ||| (Int32.toInt64 (y0 &&& (255 : Int32))))), .second, .val (.int (0 : Int32))] rfl 26 rfl ?_
  refine o_iinc (v := (0 : Int32)) (w := (1 : Int32)) X0 d2_26 rfl rfl #[.val (.ref xa), .val (.int (0 : Int32)), .val (.int (1 : Int32)), .val (.long (((0 : Int64) <<< (Int32.toInt64 (8 : Int32) &&& 63)) ||| (Int32.toInt64 (y0 &&& (255 : Int32))))), .second, .val (.int (1 : Int32))] rfl 29 rfl ?_
  refine o_goto X0 d2_29 5 (by decide) (by decide) ?_
  refine o_iload X0 d2_5 rfl 7 rfl ?_
  refine o_iloadN X0 d2_7 rfl 8 rfl ?_
  refine o_icmpGe X0 d2_8 32 11 (by decide) (by decide) rfl ?_ (fun q => by exfalso; exact absurd q (by decide))
  intro hc8_1
  refine o_lloadN X0 d2_32 rfl 33 rfl ?_
  exact o_retJ X0 d2_33 (by decide) (by decide) (hQ _ _ ⟨rfl, rfl⟩)
set_option maxRecDepth 65536 in
set_option maxHeartbeats 40000000 in
theorem c_pack_0_2 (l : Launch) (Z : State) (a0 : Array Value) (hw : ∀ d ∈ tables_1, d.before a0 Z = true) (ws : List Jvm.Cond) (n0 : Nat) (h0 : Heap) (hn0 : n0 ≤ h0.size) (xa : Addr) (y0 y1 y2 y3 y4 y5 y6 y7 y8 y9 : Int32) (L' : List (Addr × (Cell → Prop))) (H0 : OL n0 h0 ((xa, OA Z .byte [y0, y1, y2, y3, y4, y5, y6, y7, y8, y9]) :: L')) :
    OC l Z (⟨"com/example/vestbook/vestbook/member/MemberIds", "packed", "([BII)J"⟩ : MethodName) prog_68_method_8_code 6 (some .long) ws ({ frames := 0, cells := 0, slots := 0, locals := 0 } : Room) n0 #[(.ref xa), (.int (0 : Int32)), (.int (2 : Int32))] h0 (fun r h => r = some (.long (((((0 : Int64) <<< (Int32.toInt64 (8 : Int32) &&& 63)) ||| (Int32.toInt64 (y0 &&& (255 : Int32)))) <<< (Int32.toInt64 (8 : Int32) &&& 63)) ||| (Int32.toInt64 (y1 &&& (255 : Int32))))) ∧ h0 = h) := by
  refine OC.of pn_1 hn0 #[.val (.ref xa), .val (.int (0 : Int32)), .val (.int (2 : Int32)), .unset, .unset, .unset] (fun m => by first | (simp [entryFrame, mkF, argsToLocals, Value.category, maxLocals]; done) | rfl) ?_
  intro p e s m below meth cd0 T0 X0 Q' hQ
  refine o_lconst (v := (0 : Int64)) X0 d2_0 rfl 1 rfl ?_
  refine o_lstoreN X0 d2_1 #[.val (.ref xa), .val (.int (0 : Int32)), .val (.int (2 : Int32)), .val (.long (0 : Int64)), .second, .unset] rfl 2 rfl ?_
  refine o_iloadN X0 d2_2 rfl 3 rfl ?_
  refine o_istore X0 d2_3 #[.val (.ref xa), .val (.int (0 : Int32)), .val (.int (2 : Int32)), .val (.long (0 : Int64)), .second, .val (.int (0 : Int32))] rfl 5 rfl ?_
  refine o_iload X0 d2_5 rfl 7 rfl ?_
  refine o_iloadN X0 d2_7 rfl 8 rfl ?_
  refine o_icmpGe X0 d2_8 32 11 (by decide) (by decide) rfl (fun q => by exfalso; exact absurd q (by decide)) ?_
  intro hc8
  refine o_lloadN X0 d2_11 rfl 12 rfl ?_
  refine o_bipush (v := (8 : Int32)) X0 d2_12 rfl 14 rfl ?_
  refine o_lshl X0 d2_14 15 rfl ?_
  refine o_aloadN X0 d2_15 rfl rfl 16 rfl ?_
  refine o_iload X0 d2_16 rfl 18 rfl ?_
  refine o_baloadB X0 H0 0 rfl d2_18 0 rfl y0 rfl 19 rfl ?_
  refine o_sipush (v := (255 : Int32)) X0 d2_19 rfl 22 rfl ?_
  refine o_iand X0 d2_22 23 rfl ?_
  refine o_i2l X0 d2_23 24 rfl ?_
  refine o_lor X0 d2_24 25 rfl ?_
  refine o_lstoreN X0 d2_25 #[.val (.ref xa), .val (.int (0 : Int32)), .val (.int (2 : Int32)), .val (.long (((0 : Int64) <<< (Int32.toInt64 (8 : Int32) &&& 63)) ||| (Int32.toInt64 (y0 &&& (255 : Int32))))), .second, .val (.int (0 : Int32))] rfl 26 rfl ?_
  refine o_iinc (v := (0 : Int32)) (w := (1 : Int32)) X0 d2_26 rfl rfl #[.val (.ref xa), .val (.int (0 : Int32)), .val (.int (2 : Int32)), .val (.long (((0 : Int64) <<< (Int32.toInt64 (8 : Int32) &&& 63)) ||| (Int32.toInt64 (y0 &&& (255 : Int32))))), .second, .val (.int (1 : Int32))] rfl 29 rfl ?_
  refine o_goto X0 d2_29 5 (by decide) (by decide) ?_
  refine o_iload X0 d2_5 rfl 7 rfl ?_
  refine o_iloadN X0 d2_7 rfl 8 rfl ?_
  refine o_icmpGe X0 d2_8 32 11 (by decide) (by decide) rfl (fun q => by exfalso; exact absurd q (by decide)) ?_
  intro hc8_1
  refine o_lloadN X0 d2_11 rfl 12 rfl ?_
  refine o_bipush (v := (8 : Int32)) X0 d2_12 rfl 14 rfl ?_
  refine o_lshl X0 d2_14 15 rfl ?_
  refine o_aloadN X0 d2_15 rfl rfl 16 rfl ?_
  refine o_iload X0 d2_16 rfl 18 rfl ?_
  refine o_baloadB X0 H0 0 rfl d2_18 1 rfl y1 rfl 19 rfl ?_
  refine o_sipush (v := (255 : Int32)) X0 d2_19 rfl 22 rfl ?_
  refine o_iand X0 d2_22 23 rfl ?_
  refine o_i2l X0 d2_23 24 rfl ?_
  refine o_lor X0 d2_24 25 rfl ?_
  refine o_lstoreN X0 d2_25 #[.val (.ref xa), .val (.int (0 : Int32)), .val (.int (2 : Int32)), .val (.long (((((0 : Int64) <<< (Int32.toInt64 (8 : Int32) &&& 63)) ||| (Int32.toInt64 (y0 &&& (255 : Int32)))) <<< (Int32.toInt64 (8 : Int32) &&& 63)) ||| (Int32.toInt64 (y1 &&& (255 : Int32))))), .second, .val (.int (1 : Int32))] rfl 26 rfl ?_
  refine o_iinc (v := (1 : Int32)) (w := (2 : Int32)) X0 d2_26 rfl rfl #[.val (.ref xa), .val (.int (0 : Int32)), .val (.int (2 : Int32)), .val (.long (((((0 : Int64) <<< (Int32.toInt64 (8 : Int32) &&& 63)) ||| (Int32.toInt64 (y0 &&& (255 : Int32)))) <<< (Int32.toInt64 (8 : Int32) &&& 63)) ||| (Int32.toInt64 (y1 &&& (255 : Int32))))), .second, .val (.int (2 : Int32))] rfl 29 rfl ?_
  refine o_goto X0 d2_29 5 (by decide) (by decide) ?_
  refine o_iload X0 d2_5 rfl 7 rfl ?_
  refine o_iloadN X0 d2_7 rfl 8 rfl ?_
  refine o_icmpGe X0 d2_8 32 11 (by decide) (by decide) rfl ?_ (fun q => by exfalso; exact absurd q (by decide))
  intro hc8_2
  refine o_lloadN X0 d2_32 rfl 33 rfl ?_
  exact o_retJ X0 d2_33 (by decide) (by decide) (hQ _ _ ⟨rfl, rfl⟩)
set_option maxRecDepth 65536 in
set_option maxHeartbeats 40000000 in
theorem c_pack_0_3 (l : Launch) (Z : State) (a0 : Array Value) (hw : ∀ d ∈ tables_1, d.before a0 Z = true) (ws : List Jvm.Cond) (n0 : Nat) (h0 : Heap) (hn0 : n0 ≤ h0.size) (xa : Addr) (y0 y1 y2 y3 y4 y5 y6 y7 y8 y9 : Int32) (L' : List (Addr × (Cell → Prop))) (H0 : OL n0 h0 ((xa, OA Z .byte [y0, y1, y2, y3, y4, y5, y6, y7, y8, y9]) :: L')) :
    OC l Z (⟨"com/example/vestbook/vestbook/member/MemberIds", "packed", "([BII)J"⟩ : MethodName) prog_68_method_8_code 6 (some .long) ws ({ frames := 0, cells := 0, slots := 0, locals := 0 } : Room) n0 #[(.ref xa), (.int (0 : Int32)), (.int (3 : Int32))] h0 (fun r h => r = some (.long (((((((0 : Int64) <<< (Int32.toInt64 (8 : Int32) &&& 63)) ||| (Int32.toInt64 (y0 &&& (255 : Int32)))) <<< (Int32.toInt64 (8 : Int32) &&& 63)) ||| (Int32.toInt64 (y1 &&& (255 : Int32)))) <<< (Int32.toInt64 (8 : Int32) &&& 63)) ||| (Int32.toInt64 (y2 &&& (255 : Int32))))) ∧ h0 = h) := by
  refine OC.of pn_1 hn0 #[.val (.ref xa), .val (.int (0 : Int32)), .val (.int (3 : Int32)), .unset, .unset, .unset] (fun m => by first | (simp [entryFrame, mkF, argsToLocals, Value.category, maxLocals]; done) | rfl) ?_
  intro p e s m below meth cd0 T0 X0 Q' hQ
  refine o_lconst (v := (0 : Int64)) X0 d2_0 rfl 1 rfl ?_
  refine o_lstoreN X0 d2_1 #[.val (.ref xa), .val (.int (0 : Int32)), .val (.int (3 : Int32)), .val (.long (0 : Int64)), .second, .unset] rfl 2 rfl ?_
  refine o_iloadN X0 d2_2 rfl 3 rfl ?_
  refine o_istore X0 d2_3 #[.val (.ref xa), .val (.int (0 : Int32)), .val (.int (3 : Int32)), .val (.long (0 : Int64)), .second, .val (.int (0 : Int32))] rfl 5 rfl ?_
  refine o_iload X0 d2_5 rfl 7 rfl ?_
  refine o_iloadN X0 d2_7 rfl 8 rfl ?_
  refine o_icmpGe X0 d2_8 32 11 (by decide) (by decide) rfl (fun q => by exfalso; exact absurd q (by decide)) ?_
  intro hc8
  refine o_lloadN X0 d2_11 rfl 12 rfl ?_
  refine o_bipush (v := (8 : Int32)) X0 d2_12 rfl 14 rfl ?_
  refine o_lshl X0 d2_14 15 rfl ?_
  refine o_aloadN X0 d2_15 rfl rfl 16 rfl ?_
  refine o_iload X0 d2_16 rfl 18 rfl ?_
  refine o_baloadB X0 H0 0 rfl d2_18 0 rfl y0 rfl 19 rfl ?_
  refine o_sipush (v := (255 : Int32)) X0 d2_19 rfl 22 rfl ?_
  refine o_iand X0 d2_22 23 rfl ?_
  refine o_i2l X0 d2_23 24 rfl ?_
  refine o_lor X0 d2_24 25 rfl ?_
  refine o_lstoreN X0 d2_25 #[.val (.ref xa), .val (.int (0 : Int32)), .val (.int (3 : Int32)), .val (.long (((0 : Int64) <<< (Int32.toInt64 (8 : Int32) &&& 63)) ||| (Int32.toInt64 (y0 &&& (255 : Int32))))), .second, .val (.int (0 : Int32))] rfl 26 rfl ?_
  refine o_iinc (v := (0 : Int32)) (w := (1 : Int32)) X0 d2_26 rfl rfl #[.val (.ref xa), .val (.int (0 : Int32)), .val (.int (3 : Int32)), .val (.long (((0 : Int64) <<< (Int32.toInt64 (8 : Int32) &&& 63)) ||| (Int32.toInt64 (y0 &&& (255 : Int32))))), .second, .val (.int (1 : Int32))] rfl 29 rfl ?_
  refine o_goto X0 d2_29 5 (by decide) (by decide) ?_
  refine o_iload X0 d2_5 rfl 7 rfl ?_
  refine o_iloadN X0 d2_7 rfl 8 rfl ?_
  refine o_icmpGe X0 d2_8 32 11 (by decide) (by decide) rfl (fun q => by exfalso; exact absurd q (by decide)) ?_
  intro hc8_1
  refine o_lloadN X0 d2_11 rfl 12 rfl ?_
  refine o_bipush (v := (8 : Int32)) X0 d2_12 rfl 14 rfl ?_
  refine o_lshl X0 d2_14 15 rfl ?_
  refine o_aloadN X0 d2_15 rfl rfl 16 rfl ?_
  refine o_iload X0 d2_16 rfl 18 rfl ?_
  refine o_baloadB X0 H0 0 rfl d2_18 1 rfl y1 rfl 19 rfl ?_
  refine o_sipush (v := (255 : Int32)) X0 d2_19 rfl 22 rfl ?_
  refine o_iand X0 d2_22 23 rfl ?_
  refine o_i2l X0 d2_23 24 rfl ?_
  refine o_lor X0 d2_24 25 rfl ?_
  refine o_lstoreN X0 d2_25 #[.val (.ref xa), .val (.int (0 : Int32)), .val (.int (3 : Int32)), .val (.long (((((0 : Int64) <<< (Int32.toInt64 (8 : Int32) &&& 63)) ||| (Int32.toInt64 (y0 &&& (255 : Int32)))) <<< (Int32.toInt64 (8 : Int32) &&& 63)) ||| (Int32.toInt64 (y1 &&& (255 : Int32))))), .second, .val (.int (1 : Int32))] rfl 26 rfl ?_
  refine o_iinc (v := (1 : Int32)) (w := (2 : Int32)) X0 d2_26 rfl rfl #[.val (.ref xa), .val (.int (0 : Int32)), .val (.int (3 : Int32)), .val (.long (((((0 : Int64) <<< (Int32.toInt64 (8 : Int32) &&& 63)) ||| (Int32.toInt64 (y0 &&& (255 : Int32)))) <<< (Int32.toInt64 (8 : Int32) &&& 63)) ||| (Int32.toInt64 (y1 &&& (255 : Int32))))), .second, .val (.int (2 : Int32))] rfl 29 rfl ?_
  refine o_goto X0 d2_29 5 (by decide) (by decide) ?_
  refine o_iload X0 d2_5 rfl 7 rfl ?_
  refine o_iloadN X0 d2_7 rfl 8 rfl ?_
  refine o_icmpGe X0 d2_8 32 11 (by decide) (by decide) rfl (fun q => by exfalso; exact absurd q (by decide)) ?_
  intro hc8_2
  refine o_lloadN X0 d2_11 rfl 12 rfl ?_
  refine o_bipush (v := (8 : Int32)) X0 d2_12 rfl 14 rfl ?_
  refine o_lshl X0 d2_14 15 rfl ?_
  refine o_aloadN X0 d2_15 rfl rfl 16 rfl ?_
  refine o_iload X0 d2_16 rfl 18 rfl ?_
  refine o_baloadB X0 H0 0 rfl d2_18 2 rfl y2 rfl 19 rfl ?_
  refine o_sipush (v := (255 : Int32)) X0 d2_19 rfl 22 rfl ?_
  refine o_iand X0 d2_22 23 rfl ?_
  refine o_i2l X0 d2_23 24 rfl ?_
  refine o_lor X0 d2_24 25 rfl ?_
  refine o_lstoreN X0 d2_25 #[.val (.ref xa), .val (.int (0 : Int32)), .val (.int (3 : Int32)), .val (.long (((((((0 : Int64) <<< (Int32.toInt64 (8 : Int32) &&& 63)) ||| (Int32.toInt64 (y0 &&& (255 : Int32)))) <<< (Int32.toInt64 (8 : Int32) &&& 63)) ||| (Int32.toInt64 (y1 &&& (255 : Int32)))) <<< (Int32.toInt64 (8 : Int32) &&& 63)) ||| (Int32.toInt64 (y2 &&& (255 : Int32))))), .second, .val (.int (2 : Int32))] rfl 26 rfl ?_
  refine o_iinc (v := (2 : Int32)) (w := (3 : Int32)) X0 d2_26 rfl rfl #[.val (.ref xa), .val (.int (0 : Int32)), .val (.int (3 : Int32)), .val (.long (((((((0 : Int64) <<< (Int32.toInt64 (8 : Int32) &&& 63)) ||| (Int32.toInt64 (y0 &&& (255 : Int32)))) <<< (Int32.toInt64 (8 : Int32) &&& 63)) ||| (Int32.toInt64 (y1 &&& (255 : Int32)))) <<< (Int32.toInt64 (8 : Int32) &&& 63)) ||| (Int32.toInt64 (y2 &&& (255 : Int32))))), .second, .val (.int (3 : Int32))] rfl 29 rfl ?_
  refine o_goto X0 d2_29 5 (by decide) (by decide) ?_
  refine o_iload X0 d2_5 rfl 7 rfl ?_
  refine o_iloadN X0 d2_7 rfl 8 rfl ?_
  refine o_icmpGe X0 d2_8 32 11 (by decide) (by decide) rfl ?_ (fun q => by exfalso; exact absurd q (by decide))
  intro hc8_3
  refine o_lloadN X0 d2_32 rfl 33 rfl ?_
  exact o_retJ X0 d2_33 (by decide) (by decide) (hQ _ _ ⟨rfl, rfl⟩)
set_option maxRecDepth 65536 in
set_option maxHeartbeats 40000000 in
theorem c_pack_0_4 (l : Launch) (Z : State) (a0 : Array Value) (hw : ∀ d ∈ tables_1, d.before a0 Z = true) (ws : List Jvm.Cond) (n0 : Nat) (h0 : Heap) (hn0 : n0 ≤ h0.size) (xa : Addr) (y0 y1 y2 y3 y4 y5 y6 y7 y8 y9 : Int32) (L' : List (Addr × (Cell → Prop))) (H0 : OL n0 h0 ((xa, OA Z .byte [y0, y1, y2, y3, y4, y5, y6, y7, y8, y9]) :: L')) :
    OC l Z (⟨"com/example/vestbook/vestbook/member/MemberIds", "packed", "([BII)J"⟩ : MethodName) prog_68_method_8_code 6 (some .long) ws ({ frames := 0, cells := 0, slots := 0, locals := 0 } : Room) n0 #[(.ref xa), (.int (0 : Int32)), (.int (4 : Int32))] h0 (fun r h => r = some (.long (((((((((0 : Int64) <<< (Int32.toInt64 (8 : Int32) &&& 63)) ||| (Int32.toInt64 (y0 &&& (255 : Int32)))) <<< (Int32.toInt64 (8 : Int32) &&& 63)) ||| (Int32.toInt64 (y1 &&& (255 : Int32)))) <<< (Int32.toInt64 (8 : Int32) &&& 63)) ||| (Int32.toInt64 (y2 &&& (255 : Int32)))) <<< (Int32.toInt64 (8 : Int32) &&& 63)) ||| (Int32.toInt64 (y3 &&& (255 : Int32))))) ∧ h0 = h) := by
  refine OC.of pn_1 hn0 #[.val (.ref xa), .val (.int (0 : Int32)), .val (.int (4 : Int32)), .unset, .unset, .unset] (fun m => by first | (simp [entryFrame, mkF, argsToLocals, Value.category, maxLocals]; done) | rfl) ?_
  intro p e s m below meth cd0 T0 X0 Q' hQ
  refine o_lconst (v := (0 : Int64)) X0 d2_0 rfl 1 rfl ?_
  refine o_lstoreN X0 d2_1 #[.val (.ref xa), .val (.int (0 : Int32)), .val (.int (4 : Int32)), .val (.long (0 : Int64)), .second, .unset] rfl 2 rfl ?_
  refine o_iloadN X0 d2_2 rfl 3 rfl ?_
  refine o_istore X0 d2_3 #[.val (.ref xa), .val (.int (0 : Int32)), .val (.int (4 : Int32)), .val (.long (0 : Int64)), .second, .val (.int (0 : Int32))] rfl 5 rfl ?_
  refine o_iload X0 d2_5 rfl 7 rfl ?_
  refine o_iloadN X0 d2_7 rfl 8 rfl ?_
  refine o_icmpGe X0 d2_8 32 11 (by decide) (by decide) rfl (fun q => by exfalso; exact absurd q (by decide)) ?_
  intro hc8
  refine o_lloadN X0 d2_11 rfl 12 rfl ?_
  refine o_bipush (v := (8 : Int32)) X0 d2_12 rfl 14 rfl ?_
  refine o_lshl X0 d2_14 15 rfl ?_
  refine o_aloadN X0 d2_15 rfl rfl 16 rfl ?_
  refine o_iload X0 d2_16 rfl 18 rfl ?_
  refine o_baloadB X0 H0 0 rfl d2_18 0 rfl y0 rfl 19 rfl ?_
  refine o_sipush (v := (255 : Int32)) X0 d2_19 rfl 22 rfl ?_
  refine o_iand X0 d2_22 23 rfl ?_
  refine o_i2l X0 d2_23 24 rfl ?_
  refine o_lor X0 d2_24 25 rfl ?_
  refine o_lstoreN X0 d2_25 #[.val (.ref xa), .val (.int (0 : Int32)), .val (.int (4 : Int32)), .val (.long (((0 : Int64) <<< (Int32.toInt64 (8 : Int32) &&& 63)) ||| (Int32.toInt64 (y0 &&& (255 : Int32))))), .second, .val (.int (0 : Int32))] rfl 26 rfl ?_
  refine o_iinc (v := (0 : Int32)) (w := (1 : Int32)) X0 d2_26 rfl rfl #[.val (.ref xa), .val (.int (0 : Int32)), .val (.int (4 : Int32)), .val (.long (((0 : Int64) <<< (Int32.toInt64 (8 : Int32) &&& 63)) ||| (Int32.toInt64 (y0 &&& (255 : Int32))))), .second, .val (.int (1 : Int32))] rfl 29 rfl ?_
  refine o_goto X0 d2_29 5 (by decide) (by decide) ?_
  refine o_iload X0 d2_5 rfl 7 rfl ?_
  refine o_iloadN X0 d2_7 rfl 8 rfl ?_
  refine o_icmpGe X0 d2_8 32 11 (by decide) (by decide) rfl (fun q => by exfalso; exact absurd q (by decide)) ?_
  intro hc8_1
  refine o_lloadN X0 d2_11 rfl 12 rfl ?_
  refine o_bipush (v := (8 : Int32)) X0 d2_12 rfl 14 rfl ?_
  refine o_lshl X0 d2_14 15 rfl ?_
  refine o_aloadN X0 d2_15 rfl rfl 16 rfl ?_
  refine o_iload X0 d2_16 rfl 18 rfl ?_
  refine o_baloadB X0 H0 0 rfl d2_18 1 rfl y1 rfl 19 rfl ?_
  refine o_sipush (v := (255 : Int32)) X0 d2_19 rfl 22 rfl ?_
  refine o_iand X0 d2_22 23 rfl ?_
  refine o_i2l X0 d2_23 24 rfl ?_
  refine o_lor X0 d2_24 25 rfl ?_
  refine o_lstoreN X0 d2_25 #[.val (.ref xa), .val (.int (0 : Int32)), .val (.int (4 : Int32)), .val (.long (((((0 : Int64) <<< (Int32.toInt64 (8 : Int32) &&& 63)) ||| (Int32.toInt64 (y0 &&& (255 : Int32)))) <<< (Int32.toInt64 (8 : Int32) &&& 63)) ||| (Int32.toInt64 (y1 &&& (255 : Int32))))), .second, .val (.int (1 : Int32))] rfl 26 rfl ?_
  refine o_iinc (v := (1 : Int32)) (w := (2 : Int32)) X0 d2_26 rfl rfl #[.val (.ref xa), .val (.int (0 : Int32)), .val (.int (4 : Int32)), .val (.long (((((0 : Int64) <<< (Int32.toInt64 (8 : Int32) &&& 63)) ||| (Int32.toInt64 (y0 &&& (255 : Int32)))) <<< (Int32.toInt64 (8 : Int32) &&& 63)) ||| (Int32.toInt64 (y1 &&& (255 : Int32))))), .second, .val (.int (2 : Int32))] rfl 29 rfl ?_
  refine o_goto X0 d2_29 5 (by decide) (by decide) ?_
  refine o_iload X0 d2_5 rfl 7 rfl ?_
  refine o_iloadN X0 d2_7 rfl 8 rfl ?_
  refine o_icmpGe X0 d2_8 32 11 (by decide) (by decide) rfl (fun q => by exfalso; exact absurd q (by decide)) ?_
  intro hc8_2
  refine o_lloadN X0 d2_11 rfl 12 rfl ?_
  refine o_bipush (v := (8 : Int32)) X0 d2_12 rfl 14 rfl ?_
  refine o_lshl X0 d2_14 15 rfl ?_
  refine o_aloadN X0 d2_15 rfl rfl 16 rfl ?_
  refine o_iload X0 d2_16 rfl 18 rfl ?_
  refine o_baloadB X0 H0 0 rfl d2_18 2 rfl y2 rfl 19 rfl ?_
  refine o_sipush (v := (255 : Int32)) X0 d2_19 rfl 22 rfl ?_
  refine o_iand X0 d2_22 23 rfl ?_
  refine o_i2l X0 d2_23 24 rfl ?_
  refine o_lor X0 d2_24 25 rfl ?_
  refine o_lstoreN X0 d2_25 #[.val (.ref xa), .val (.int (0 : Int32)), .val (.int (4 : Int32)), .val (.long (((((((0 : Int64) <<< (Int32.toInt64 (8 : Int32) &&& 63)) ||| (Int32.toInt64 (y0 &&& (255 : Int32)))) <<< (Int32.toInt64 (8 : Int32) &&& 63)) ||| (Int32.toInt64 (y1 &&& (255 : Int32)))) <<< (Int32.toInt64 (8 : Int32) &&& 63)) ||| (Int32.toInt64 (y2 &&& (255 : Int32))))), .second, .val (.int (2 : Int32))] rfl 26 rfl ?_
  refine o_iinc (v := (2 : Int32)) (w := (3 : Int32)) X0 d2_26 rfl rfl #[.val (.ref xa), .val (.int (0 : Int32)), .val (.int (4 : Int32)), .val (.long (((((((0 : Int64) <<< (Int32.toInt64 (8 : Int32) &&& 63)) ||| (Int32.toInt64 (y0 &&& (255 : Int32)))) <<< (Int32.toInt64 (8 : Int32) &&& 63)) ||| (Int32.toInt64 (y1 &&& (255 : Int32)))) <<< (Int32.toInt64 (8 : Int32) &&& 63)) ||| (Int32.toInt64 (y2 &&& (255 : Int32))))), .second, .val (.int (3 : Int32))] rfl 29 rfl ?_
  refine o_goto X0 d2_29 5 (by decide) (by decide) ?_
  refine o_iload X0 d2_5 rfl 7 rfl ?_
  refine o_iloadN X0 d2_7 rfl 8 rfl ?_
  refine o_icmpGe X0 d2_8 32 11 (by decide) (by decide) rfl (fun q => by exfalso; exact absurd q (by decide)) ?_
  intro hc8_3
  refine o_lloadN X0 d2_11 rfl 12 rfl ?_
  refine o_bipush (v := (8 : Int32)) X0 d2_12 rfl 14 rfl ?_
  refine o_lshl X0 d2_14 15 rfl ?_
  refine o_aloadN X0 d2_15 rfl rfl 16 rfl ?_
  refine o_iload X0 d2_16 rfl 18 rfl ?_
  refine o_baloadB X0 H0 0 rfl d2_18 3 rfl y3 rfl 19 rfl ?_
  refine o_sipush (v := (255 : Int32)) X0 d2_19 rfl 22 rfl ?_
  refine o_iand X0 d2_22 23 rfl ?_
  refine o_i2l X0 d2_23 24 rfl ?_
  refine o_lor X0 d2_24 25 rfl ?_
  refine o_lstoreN X0 d2_25 #[.val (.ref xa), .val (.int (0 : Int32)), .val (.int (4 : Int32)), .val (.long (((((((((0 : Int64) <<< (Int32.toInt64 (8 : Int32) &&& 63)) ||| (Int32.toInt64 (y0 &&& (255 : Int32)))) <<< (Int32.toInt64 (8 : Int32) &&& 63)) ||| (Int32.toInt64 (y1 &&& (255 : Int32)))) <<< (Int32.toInt64 (8 : Int32) &&& 63)) ||| (Int32.toInt64 (y2 &&& (255 : Int32)))) <<< (Int32.toInt64 (8 : Int32) &&& 63)) ||| (Int32.toInt64 (y3 &&& (255 : Int32))))), .second, .val (.int (3 : Int32))] rfl 26 rfl ?_
  refine o_iinc (v := (3 : Int32)) (w := (4 : Int32)) X0 d2_26 rfl rfl #[.val (.ref xa), .val (.int (0 : Int32)), .val (.int (4 : Int32)), .val (.long (((((((((0 : Int64) <<< (Int32.toInt64 (8 : Int32) &&& 63)) ||| (Int32.toInt64 (y0 &&& (255 : Int32)))) <<< (Int32.toInt64 (8 : Int32) &&& 63)) ||| (Int32.toInt64 (y1 &&& (255 : Int32)))) <<< (Int32.toInt64 (8 : Int32) &&& 63)) ||| (Int32.toInt64 (y2 &&& (255 : Int32)))) <<< (Int32.toInt64 (8 : Int32) &&& 63)) ||| (Int32.toInt64 (y3 &&& (255 : Int32))))), .second, .val (.int (4 : Int32))] rfl 29 rfl ?_
  refine o_goto X0 d2_29 5 (by decide) (by decide) ?_
  refine o_iload X0 d2_5 rfl 7 rfl ?_
  refine o_iloadN X0 d2_7 rfl 8 rfl ?_
  refine o_icmpGe X0 d2_8 32 11 (by decide) (by decide) rfl ?_ (fun q => by exfalso; exact absurd q (by decide))
  intro hc8_4
  refine o_lloadN X0 d2_32 rfl 33 rfl ?_
  exact o_retJ X0 d2_33 (by decide) (by decide) (hQ _ _ ⟨rfl, rfl⟩)
set_option maxRecDepth 65536 in
set_option maxHeartbeats 40000000 in
theorem c_pack_0_5 (l : Launch) (Z : State) (a0 : Array Value) (hw : ∀ d ∈ tables_1, d.before a0 Z = true) (ws : List Jvm.Cond) (n0 : Nat) (h0 : Heap) (hn0 : n0 ≤ h0.size) (xa : Addr) (y0 y1 y2 y3 y4 y5 y6 y7 y8 y9 : Int32) (L' : List (Addr × (Cell → Prop))) (H0 : OL n0 h0 ((xa, OA Z .byte [y0, y1, y2, y3, y4, y5, y6, y7, y8, y9]) :: L')) :
    OC l Z (⟨"com/example/vestbook/vestbook/member/MemberIds", "packed", "([BII)J"⟩ : MethodName) prog_68_method_8_code 6 (some .long) ws ({ frames := 0, cells := 0, slots := 0, locals := 0 } : Room) n0 #[(.ref xa), (.int (0 : Int32)), (.int (5 : Int32))] h0 (fun r h => r = some (.long (((((((((((0 : Int64) <<< (Int32.toInt64 (8 : Int32) &&& 63)) ||| (Int32.toInt64 (y0 &&& (255 : Int32)))) <<< (Int32.toInt64 (8 : Int32) &&& 63)) ||| (Int32.toInt64 (y1 &&& (255 : Int32)))) <<< (Int32.toInt64 (8 : Int32) &&& 63)) ||| (Int32.toInt64 (y2 &&& (255 : Int32)))) <<< (Int32.toInt64 (8 : Int32) &&& 63)) ||| (Int32.toInt64 (y3 &&& (255 : Int32)))) <<< (Int32.toInt64 (8 : Int32) &&& 63)) ||| (Int32.toInt64 (y4 &&& (255 : Int32))))) ∧ h0 = h) := by
  refine OC.of pn_1 hn0 #[.val (.ref xa), .val (.int (0 : Int32)), .val (.int (5 : Int32)), .unset, .unset, .unset] (fun m => by first | (simp [entryFrame, mkF, argsToLocals, Value.category, maxLocals]; done) | rfl) ?_
  intro p e s m below meth cd0 T0 X0 Q' hQ
  refine o_lconst (v := (0 : Int64)) X0 d2_0 rfl 1 rfl ?_
  refine o_lstoreN X0 d2_1 #[.val (.ref xa), .val (.int (0 : Int32)), .val (.int (5 : Int32)), .val (.long (0 : Int64)), .second, .unset] rfl 2 rfl ?_
  refine o_iloadN X0 d2_2 rfl 3 rfl ?_
  refine o_istore X0 d2_3 #[.val (.ref xa), .val (.int (0 : Int32)), .val (.int (5 : Int32)), .val (.long (0 : Int64)), .second, .val (.int (0 : Int32))] rfl 5 rfl ?_
  refine o_iload X0 d2_5 rfl 7 rfl ?_
  refine o_iloadN X0 d2_7 rfl 8 rfl ?_
  refine o_icmpGe X0 d2_8 32 11 (by decide) (by decide) rfl (fun q => by exfalso; exact absurd q (by decide)) ?_
  intro hc8
  refine o_lloadN X0 d2_11 rfl 12 rfl ?_
  refine o_bipush (v := (8 : Int32)) X0 d2_12 rfl 14 rfl ?_
  refine o_lshl X0 d2_14 15 rfl ?_
  refine o_aloadN X0 d2_15 rfl rfl 16 rfl ?_
  refine o_iload X0 d2_16 rfl 18 rfl ?_
  refine o_baloadB X0 H0 0 rfl d2_18 0 rfl y0 rfl 19 rfl ?_
  refine o_sipush (v := (255 : Int32)) X0 d2_19 rfl 22 rfl ?_
  refine o_iand X0 d2_22 23 rfl ?_
  refine o_i2l X0 d2_23 24 rfl ?_
  refine o_lor X0 d2_24 25 rfl ?_
  refine o_lstoreN X0 d2_25 #[.val (.ref xa), .val (.int (0 : Int32)), .val (.int (5 : Int32)), .val (.long (((0 : Int64) <<< (Int32.toInt64 (8 : Int32) &&& 63)) ||| (Int32.toInt64 (y0 &&& (255 : Int32))))), .second, .val (.int (0 : Int32))] rfl 26 rfl ?_
  refine o_iinc (v := (0 : Int32)) (w := (1 : Int32)) X0 d2_26 rfl rfl #[.val (.ref xa), .val (.int (0 : Int32)), .val (.int (5 : Int32)), .val (.long (((0 : Int64) <<< (Int32.toInt64 (8 : Int32) &&& 63)) ||| (Int32.toInt64 (y0 &&& (255 : Int32))))), .second, .val (.int (1 : Int32))] rfl 29 rfl ?_
  refine o_goto X0 d2_29 5 (by decide) (by decide) ?_
  refine o_iload X0 d2_5 rfl 7 rfl ?_
  refine o_iloadN X0 d2_7 rfl 8 rfl ?_
  refine o_icmpGe X0 d2_8 32 11 (by decide) (by decide) rfl (fun q => by exfalso; exact absurd q (by decide)) ?_
  intro hc8_1
  refine o_lloadN X0 d2_11 rfl 12 rfl ?_
  refine o_bipush (v := (8 : Int32)) X0 d2_12 rfl 14 rfl ?_
  refine o_lshl X0 d2_14 15 rfl ?_
  refine o_aloadN X0 d2_15 rfl rfl 16 rfl ?_
  refine o_iload X0 d2_16 rfl 18 rfl ?_
  refine o_baloadB X0 H0 0 rfl d2_18 1 rfl y1 rfl 19 rfl ?_
  refine o_sipush (v := (255 : Int32)) X0 d2_19 rfl 22 rfl ?_
  refine o_iand X0 d2_22 23 rfl ?_
  refine o_i2l X0 d2_23 24 rfl ?_
  refine o_lor X0 d2_24 25 rfl ?_
  refine o_lstoreN X0 d2_25 #[.val (.ref xa), .val (.int (0 : Int32)), .val (.int (5 : Int32)), .val (.long (((((0 : Int64) <<< (Int32.toInt64 (8 : Int32) &&& 63)) ||| (Int32.toInt64 (y0 &&& (255 : Int32)))) <<< (Int32.toInt64 (8 : Int32) &&& 63)) ||| (Int32.toInt64 (y1 &&& (255 : Int32))))), .second, .val (.int (1 : Int32))] rfl 26 rfl ?_
  refine o_iinc (v := (1 : Int32)) (w := (2 : Int32)) X0 d2_26 rfl rfl #[.val (.ref xa), .val (.int (0 : Int32)), .val (.int (5 : Int32)), .val (.long (((((0 : Int64) <<< (Int32.toInt64 (8 : Int32) &&& 63)) ||| (Int32.toInt64 (y0 &&& (255 : Int32)))) <<< (Int32.toInt64 (8 : Int32) &&& 63)) ||| (Int32.toInt64 (y1 &&& (255 : Int32))))), .second, .val (.int (2 : Int32))] rfl 29 rfl ?_
  refine o_goto X0 d2_29 5 (by decide) (by decide) ?_
  refine o_iload X0 d2_5 rfl 7 rfl ?_
  refine o_iloadN X0 d2_7 rfl 8 rfl ?_
  refine o_icmpGe X0 d2_8 32 11 (by decide) (by decide) rfl (fun q => by exfalso; exact absurd q (by decide)) ?_
  intro hc8_2
  refine o_lloadN X0 d2_11 rfl 12 rfl ?_
  refine o_bipush (v := (8 : Int32)) X0 d2_12 rfl 14 rfl ?_
  refine o_lshl X0 d2_14 15 rfl ?_
  refine o_aloadN X0 d2_15 rfl rfl 16 rfl ?_
  refine o_iload X0 d2_16 rfl 18 rfl ?_
  refine o_baloadB X0 H0 0 rfl d2_18 2 rfl y2 rfl 19 rfl ?_
  refine o_sipush (v := (255 : Int32)) X0 d2_19 rfl 22 rfl ?_
  refine o_iand X0 d2_22 23 rfl ?_
  refine o_i2l X0 d2_23 24 rfl ?_
  refine o_lor X0 d2_24 25 rfl ?_
  refine o_lstoreN X0 d2_25 #[.val (.ref xa), .val (.int (0 : Int32)), .val (.int (5 : Int32)), .val (.long (((((((0 : Int64) <<< (Int32.toInt64 (8 : Int32) &&& 63)) ||| (Int32.toInt64 (y0 &&& (255 : Int32)))) <<< (Int32.toInt64 (8 : Int32) &&& 63)) ||| (Int32.toInt64 (y1 &&& (255 : Int32)))) <<< (Int32.toInt64 (8 : Int32) &&& 63)) ||| (Int32.toInt64 (y2 &&& (255 : Int32))))), .second, .val (.int (2 : Int32))] rfl 26 rfl ?_
  refine o_iinc (v := (2 : Int32)) (w := (3 : Int32)) X0 d2_26 rfl rfl #[.val (.ref xa), .val (.int (0 : Int32)), .val (.int (5 : Int32)), .val (.long (((((((0 : Int64) <<< (Int32.toInt64 (8 : Int32) &&& 63)) ||| (Int32.toInt64 (y0 &&& (255 : Int32)))) <<< (Int32.toInt64 (8 : Int32) &&& 63)) ||| (Int32.toInt64 (y1 &&& (255 : Int32)))) <<< (Int32.toInt64 (8 : Int32) &&& 63)) ||| (Int32.toInt64 (y2 &&& (255 : Int32))))), .second, .val (.int (3 : Int32))] rfl 29 rfl ?_
  refine o_goto X0 d2_29 5 (by decide) (by decide) ?_
  refine o_iload X0 d2_5 rfl 7 rfl ?_
  refine o_iloadN X0 d2_7 rfl 8 rfl ?_
  refine o_icmpGe X0 d2_8 32 11 (by decide) (by decide) rfl (fun q => by exfalso; exact absurd q (by decide)) ?_
  intro hc8_3
  refine o_lloadN X0 d2_11 rfl 12 rfl ?_
  refine o_bipush (v := (8 : Int32)) X0 d2_12 rfl 14 rfl ?_
  refine o_lshl X0 d2_14 15 rfl ?_
  refine o_aloadN X0 d2_15 rfl rfl 16 rfl ?_
  refine o_iload X0 d2_16 rfl 18 rfl ?_
  refine o_baloadB X0 H0 0 rfl d2_18 3 rfl y3 rfl 19 rfl ?_
  refine o_sipush (v := (255 : Int32)) X0 d2_19 rfl 22 rfl ?_
  refine o_iand X0 d2_22 23 rfl ?_
  refine o_i2l X0 d2_23 24 rfl ?_
  refine o_lor X0 d2_24 25 rfl ?_
  refine o_lstoreN X0 d2_25 #[.val (.ref xa), .val (.int (0 : Int32)), .val (.int (5 : Int32)), .val (.long (((((((((0 : Int64) <<< (Int32.toInt64 (8 : Int32) &&& 63)) ||| (Int32.toInt64 (y0 &&& (255 : Int32)))) <<< (Int32.toInt64 (8 : Int32) &&& 63)) ||| (Int32.toInt64 (y1 &&& (255 : Int32)))) <<< (Int32.toInt64 (8 : Int32) &&& 63)) ||| (Int32.toInt64 (y2 &&& (255 : Int32)))) <<< (Int32.toInt64 (8 : Int32) &&& 63)) ||| (Int32.toInt64 (y3 &&& (255 : Int32))))), .second, .val (.int (3 : Int32))] rfl 26 rfl ?_
  refine o_iinc (v := (3 : Int32)) (w := (4 : Int32)) X0 d2_26 rfl rfl #[.val (.ref xa), .val (.int (0 : Int32)), .val (.int (5 : Int32)), .val (.long (((((((((0 : Int64) <<< (Int32.toInt64 (8 : Int32) &&& 63)) ||| (Int32.toInt64 (y0 &&& (255 : Int32)))) <<< (Int32.toInt64 (8 : Int32) &&& 63)) ||| (Int32.toInt64 (y1 &&& (255 : Int32)))) <<< (Int32.toInt64 (8 : Int32) &&& 63)) ||| (Int32.toInt64 (y2 &&& (255 : Int32)))) <<< (Int32.toInt64 (8 : Int32) &&& 63)) ||| (Int32.toInt64 (y3 &&& (255 : Int32))))), .second, .val (.int (4 : Int32))] rfl 29 rfl ?_
  refine o_goto X0 d2_29 5 (by decide) (by decide) ?_
  refine o_iload X0 d2_5 rfl 7 rfl ?_
  refine o_iloadN X0 d2_7 rfl 8 rfl ?_
  refine o_icmpGe X0 d2_8 32 11 (by decide) (by decide) rfl (fun q => by exfalso; exact absurd q (by decide)) ?_
  intro hc8_4
  refine o_lloadN X0 d2_11 rfl 12 rfl ?_
  refine o_bipush (v := (8 : Int32)) X0 d2_12 rfl 14 rfl ?_
  refine o_lshl X0 d2_14 15 rfl ?_
  refine o_aloadN X0 d2_15 rfl rfl 16 rfl ?_
  refine o_iload X0 d2_16 rfl 18 rfl ?_
  refine o_baloadB X0 H0 0 rfl d2_18 4 rfl y4 rfl 19 rfl ?_
  refine o_sipush (v := (255 : Int32)) X0 d2_19 rfl 22 rfl ?_
  refine o_iand X0 d2_22 23 rfl ?_
  refine o_i2l X0 d2_23 24 rfl ?_
  refine o_lor X0 d2_24 25 rfl ?_
  refine o_lstoreN X0 d2_25 #[.val (.ref xa), .val (.int (0 : Int32)), .val (.int (5 : Int32)), .val (.long (((((((((((0 : Int64) <<< (Int32.toInt64 (8 : Int32) &&& 63)) ||| (Int32.toInt64 (y0 &&& (255 : Int32)))) <<< (Int32.toInt64 (8 : Int32) &&& 63)) ||| (Int32.toInt64 (y1 &&& (255 : Int32)))) <<< (Int32.toInt64 (8 : Int32) &&& 63)) ||| (Int32.toInt64 (y2 &&& (255 : Int32)))) <<< (Int32.toInt64 (8 : Int32) &&& 63)) ||| (Int32.toInt64 (y3 &&& (255 : Int32)))) <<< (Int32.toInt64 (8 : Int32) &&& 63)) ||| (Int32.toInt64 (y4 &&& (255 : Int32))))), .second, .val (.int (4 : Int32))] rfl 26 rfl ?_
  refine o_iinc (v := (4 : Int32)) (w := (5 : Int32)) X0 d2_26 rfl rfl #[.val (.ref xa), .val (.int (0 : Int32)), .val (.int (5 : Int32)), .val (.long (((((((((((0 : Int64) <<< (Int32.toInt64 (8 : Int32) &&& 63)) ||| (Int32.toInt64 (y0 &&& (255 : Int32)))) <<< (Int32.toInt64 (8 : Int32) &&& 63)) ||| (Int32.toInt64 (y1 &&& (255 : Int32)))) <<< (Int32.toInt64 (8 : Int32) &&& 63)) ||| (Int32.toInt64 (y2 &&& (255 : Int32)))) <<< (Int32.toInt64 (8 : Int32) &&& 63)) ||| (Int32.toInt64 (y3 &&& (255 : Int32)))) <<< (Int32.toInt64 (8 : Int32) &&& 63)) ||| (Int32.toInt64 (y4 &&& (255 : Int32))))), .second, .val (.int (5 : Int32))] rfl 29 rfl ?_
  refine o_goto X0 d2_29 5 (by decide) (by decide) ?_
  refine o_iload X0 d2_5 rfl 7 rfl ?_
  refine o_iloadN X0 d2_7 rfl 8 rfl ?_
  refine o_icmpGe X0 d2_8 32 11 (by decide) (by decide) rfl ?_ (fun q => by exfalso; exact absurd q (by decide))
  intro hc8_5
  refine o_lloadN X0 d2_32 rfl 33 rfl ?_
  exact o_retJ X0 d2_33 (by decide) (by decide) (hQ _ _ ⟨rfl, rfl⟩)
set_option maxRecDepth 65536 in
set_option maxHeartbeats 40000000 in
theorem c_pack_0_6 (l : Launch) (Z : State) (a0 : Array Value) (hw : ∀ d ∈ tables_1, d.before a0 Z = true) (ws : List Jvm.Cond) (n0 : Nat) (h0 : Heap) (hn0 : n0 ≤ h0.size) (xa : Addr) (y0 y1 y2 y3 y4 y5 y6 y7 y8 y9 : Int32) (L' : List (Addr × (Cell → Prop))) (H0 : OL n0 h0 ((xa, OA Z .byte [y0, y1, y2, y3, y4, y5, y6, y7, y8, y9]) :: L')) :
    OC l Z (⟨"com/example/vestbook/vestbook/member/MemberIds", "packed", "([BII)J"⟩ : MethodName) prog_68_method_8_code 6 (some .long) ws ({ frames := 0, cells := 0, slots := 0, locals := 0 } : Room) n0 #[(.ref xa), (.int (0 : Int32)), (.int (6 : Int32))] h0 (fun r h => r = some (.long (((((((((((((0 : Int64) <<< (Int32.toInt64 (8 : Int32) &&& 63)) ||| (Int32.toInt64 (y0 &&& (255 : Int32)))) <<< (Int32.toInt64 (8 : Int32) &&& 63)) ||| (Int32.toInt64 (y1 &&& (255 : Int32)))) <<< (Int32.toInt64 (8 : Int32) &&& 63)) ||| (Int32.toInt64 (y2 &&& (255 : Int32)))) <<< (Int32.toInt64 (8 : Int32) &&& 63)) ||| (Int32.toInt64 (y3 &&& (255 : Int32)))) <<< (Int32.toInt64 (8 : Int32) &&& 63)) ||| (Int32.toInt64 (y4 &&& (255 : Int32)))) <<< (Int32.toInt64 (8 : Int32) &&& 63)) ||| (Int32.toInt64 (y5 &&& (255 : Int32))))) ∧ h0 = h) := by
  refine OC.of pn_1 hn0 #[.val (.ref xa), .val (.int (0 : Int32)), .val (.int (6 : Int32)), .unset, .unset, .unset] (fun m => by first | (simp [entryFrame, mkF, argsToLocals, Value.category, maxLocals]; done) | rfl) ?_
  intro p e s m below meth cd0 T0 X0 Q' hQ
  refine o_lconst (v := (0 : Int64)) X0 d2_0 rfl 1 rfl ?_
  refine o_lstoreN X0 d2_1 #[.val (.ref xa), .val (.int (0 : Int32)), .val (.int (6 : Int32)), .val (.long (0 : Int64)), .second, .unset] rfl 2 rfl ?_
  refine o_iloadN X0 d2_2 rfl 3 rfl ?_
  refine o_istore X0 d2_3 #[.val (.ref xa), .val (.int (0 : Int32)), .val (.int (6 : Int32)), .val (.long (0 : Int64)), .second, .val (.int (0 : Int32))] rfl 5 rfl ?_
  refine o_iload X0 d2_5 rfl 7 rfl ?_
  refine o_iloadN X0 d2_7 rfl 8 rfl ?_
  refine o_icmpGe X0 d2_8 32 11 (by decide) (by decide) rfl (fun q => by exfalso; exact absurd q (by decide)) ?_
  intro hc8
  refine o_lloadN X0 d2_11 rfl 12 rfl ?_
  refine o_bipush (v := (8 : Int32)) X0 d2_12 rfl 14 rfl ?_
  refine o_lshl X0 d2_14 15 rfl ?_
  refine o_aloadN X0 d2_15 rfl rfl 16 rfl ?_
  refine o_iload X0 d2_16 rfl 18 rfl ?_
  refine o_baloadB X0 H0 0 rfl d2_18 0 rfl y0 rfl 19 rfl ?_
  refine o_sipush (v := (255 : Int32)) X0 d2_19 rfl 22 rfl ?_
  refine o_iand X0 d2_22 23 rfl ?_
  refine o_i2l X0 d2_23 24 rfl ?_
  refine o_lor X0 d2_24 25 rfl ?_
  refine o_lstoreN X0 d2_25 #[.val (.ref xa), .val (.int (0 : Int32)), .val (.int (6 : Int32)), .val (.long (((0 : Int64) <<< (Int32.toInt64 (8 : Int32) &&& 63)) ||| (Int32.toInt64 (y0 &&& (255 : Int32))))), .second, .val (.int (0 : Int32))] rfl 26 rfl ?_
  refine o_iinc (v := (0 : Int32)) (w := (1 : Int32)) X0 d2_26 rfl rfl #[.val (.ref xa), .val (.int (0 : Int32)), .val (.int (6 : Int32)), .val (.long (((0 : Int64) <<< (Int32.toInt64 (8 : Int32) &&& 63)) ||| (Int32.toInt64 (y0 &&& (255 : Int32))))), .second, .val (.int (1 : Int32))] rfl 29 rfl ?_
  refine o_goto X0 d2_29 5 (by decide) (by decide) ?_
  refine o_iload X0 d2_5 rfl 7 rfl ?_
  refine o_iloadN X0 d2_7 rfl 8 rfl ?_
  refine o_icmpGe X0 d2_8 32 11 (by decide) (by decide) rfl (fun q => by exfalso; exact absurd q (by decide)) ?_
  intro hc8_1
  refine o_lloadN X0 d2_11 rfl 12 rfl ?_
  refine o_bipush (v := (8 : Int32)) X0 d2_12 rfl 14 rfl ?_
  refine o_lshl X0 d2_14 15 rfl ?_
  refine o_aloadN X0 d2_15 rfl rfl 16 rfl ?_
  refine o_iload X0 d2_16 rfl 18 rfl ?_
  refine o_baloadB X0 H0 0 rfl d2_18 1 rfl y1 rfl 19 rfl ?_
  refine o_sipush (v := (255 : Int32)) X0 d2_19 rfl 22 rfl ?_
  refine o_iand X0 d2_22 23 rfl ?_
  refine o_i2l X0 d2_23 24 rfl ?_
  refine o_lor X0 d2_24 25 rfl ?_
  refine o_lstoreN X0 d2_25 #[.val (.ref xa), .val (.int (0 : Int32)), .val (.int (6 : Int32)), .val (.long (((((0 : Int64) <<< (Int32.toInt64 (8 : Int32) &&& 63)) ||| (Int32.toInt64 (y0 &&& (255 : Int32)))) <<< (Int32.toInt64 (8 : Int32) &&& 63)) ||| (Int32.toInt64 (y1 &&& (255 : Int32))))), .second, .val (.int (1 : Int32))] rfl 26 rfl ?_
  refine o_iinc (v := (1 : Int32)) (w := (2 : Int32)) X0 d2_26 rfl rfl #[.val (.ref xa), .val (.int (0 : Int32)), .val (.int (6 : Int32)), .val (.long (((((0 : Int64) <<< (Int32.toInt64 (8 : Int32) &&& 63)) ||| (Int32.toInt64 (y0 &&& (255 : Int32)))) <<< (Int32.toInt64 (8 : Int32) &&& 63)) ||| (Int32.toInt64 (y1 &&& (255 : Int32))))), .second, .val (.int (2 : Int32))] rfl 29 rfl ?_
  refine o_goto X0 d2_29 5 (by decide) (by decide) ?_
  refine o_iload X0 d2_5 rfl 7 rfl ?_
  refine o_iloadN X0 d2_7 rfl 8 rfl ?_
  refine o_icmpGe X0 d2_8 32 11 (by decide) (by decide) rfl (fun q => by exfalso; exact absurd q (by decide)) ?_
  intro hc8_2
  refine o_lloadN X0 d2_11 rfl 12 rfl ?_
  refine o_bipush (v := (8 : Int32)) X0 d2_12 rfl 14 rfl ?_
  refine o_lshl X0 d2_14 15 rfl ?_
  refine o_aloadN X0 d2_15 rfl rfl 16 rfl ?_
  refine o_iload X0 d2_16 rfl 18 rfl ?_
  refine o_baloadB X0 H0 0 rfl d2_18 2 rfl y2 rfl 19 rfl ?_
  refine o_sipush (v := (255 : Int32)) X0 d2_19 rfl 22 rfl ?_
  refine o_iand X0 d2_22 23 rfl ?_
  refine o_i2l X0 d2_23 24 rfl ?_
  refine o_lor X0 d2_24 25 rfl ?_
  refine o_lstoreN X0 d2_25 #[.val (.ref xa), .val (.int (0 : Int32)), .val (.int (6 : Int32)), .val (.long (((((((0 : Int64) <<< (Int32.toInt64 (8 : Int32) &&& 63)) ||| (Int32.toInt64 (y0 &&& (255 : Int32)))) <<< (Int32.toInt64 (8 : Int32) &&& 63)) ||| (Int32.toInt64 (y1 &&& (255 : Int32)))) <<< (Int32.toInt64 (8 : Int32) &&& 63)) ||| (Int32.toInt64 (y2 &&& (255 : Int32))))), .second, .val (.int (2 : Int32))] rfl 26 rfl ?_
  refine o_iinc (v := (2 : Int32)) (w := (3 : Int32)) X0 d2_26 rfl rfl #[.val (.ref xa), .val (.int (0 : Int32)), .val (.int (6 : Int32)), .val (.long (((((((0 : Int64) <<< (Int32.toInt64 (8 : Int32) &&& 63)) ||| (Int32.toInt64 (y0 &&& (255 : Int32)))) <<< (Int32.toInt64 (8 : Int32) &&& 63)) ||| (Int32.toInt64 (y1 &&& (255 : Int32)))) <<< (Int32.toInt64 (8 : Int32) &&& 63)) ||| (Int32.toInt64 (y2 &&& (255 : Int32))))), .second, .val (.int (3 : Int32))] rfl 29 rfl ?_
  refine o_goto X0 d2_29 5 (by decide) (by decide) ?_
  refine o_iload X0 d2_5 rfl 7 rfl ?_
  refine o_iloadN X0 d2_7 rfl 8 rfl ?_
  refine o_icmpGe X0 d2_8 32 11 (by decide) (by decide) rfl (fun q => by exfalso; exact absurd q (by decide)) ?_
  intro hc8_3
  refine o_lloadN X0 d2_11 rfl 12 rfl ?_
  refine o_bipush (v := (8 : Int32)) X0 d2_12 rfl 14 rfl ?_
  refine o_lshl X0 d2_14 15 rfl ?_
  refine o_aloadN X0 d2_15 rfl rfl 16 rfl ?_
  refine o_iload X0 d2_16 rfl 18 rfl ?_
  refine o_baloadB X0 H0 0 rfl d2_18 3 rfl y3 rfl 19 rfl ?_
  refine o_sipush (v := (255 : Int32)) X0 d2_19 rfl 22 rfl ?_
  refine o_iand X0 d2_22 23 rfl ?_
  refine o_i2l X0 d2_23 24 rfl ?_
  refine o_lor X0 d2_24 25 rfl ?_
  refine o_lstoreN X0 d2_25 #[.val (.ref xa), .val (.int (0 : Int32)), .val (.int (6 : Int32)), .val (.long (((((((((0 : Int64) <<< (Int32.toInt64 (8 : Int32) &&& 63)) ||| (Int32.toInt64 (y0 &&& (255 : Int32)))) <<< (Int32.toInt64 (8 : Int32) &&& 63)) ||| (Int32.toInt64 (y1 &&& (255 : Int32)))) <<< (Int32.toInt64 (8 : Int32) &&& 63)) ||| (Int32.toInt64 (y2 &&& (255 : Int32)))) <<< (Int32.toInt64 (8 : Int32) &&& 63)) ||| (Int32.toInt64 (y3 &&& (255 : Int32))))), .second, .val (.int (3 : Int32))] rfl 26 rfl ?_
  refine o_iinc (v := (3 : Int32)) (w := (4 : Int32)) X0 d2_26 rfl rfl #[.val (.ref xa), .val (.int (0 : Int32)), .val (.int (6 : Int32)), .val (.long (((((((((0 : Int64) <<< (Int32.toInt64 (8 : Int32) &&& 63)) ||| (Int32.toInt64 (y0 &&& (255 : Int32)))) <<< (Int32.toInt64 (8 : Int32) &&& 63)) ||| (Int32.toInt64 (y1 &&& (255 : Int32)))) <<< (Int32.toInt64 (8 : Int32) &&& 63)) ||| (Int32.toInt64 (y2 &&& (255 : Int32)))) <<< (Int32.toInt64 (8 : Int32) &&& 63)) ||| (Int32.toInt64 (y3 &&& (255 : Int32))))), .second, .val (.int (4 : Int32))] rfl 29 rfl ?_
  refine o_goto X0 d2_29 5 (by decide) (by decide) ?_
  refine o_iload X0 d2_5 rfl 7 rfl ?_
  refine o_iloadN X0 d2_7 rfl 8 rfl ?_
  refine o_icmpGe X0 d2_8 32 11 (by decide) (by decide) rfl (fun q => by exfalso; exact absurd q (by decide)) ?_
  intro hc8_4
  refine o_lloadN X0 d2_11 rfl 12 rfl ?_
  refine o_bipush (v := (8 : Int32)) X0 d2_12 rfl 14 rfl ?_
  refine o_lshl X0 d2_14 15 rfl ?_
  refine o_aloadN X0 d2_15 rfl rfl 16 rfl ?_
  refine o_iload X0 d2_16 rfl 18 rfl ?_
  refine o_baloadB X0 H0 0 rfl d2_18 4 rfl y4 rfl 19 rfl ?_
  refine o_sipush (v := (255 : Int32)) X0 d2_19 rfl 22 rfl ?_
  refine o_iand X0 d2_22 23 rfl ?_
  refine o_i2l X0 d2_23 24 rfl ?_
  refine o_lor X0 d2_24 25 rfl ?_
  refine o_lstoreN X0 d2_25 #[.val (.ref xa), .val (.int (0 : Int32)), .val (.int (6 : Int32)), .val (.long (((((((((((0 : Int64) <<< (Int32.toInt64 (8 : Int32) &&& 63)) ||| (Int32.toInt64 (y0 &&& (255 : Int32)))) <<< (Int32.toInt64 (8 : Int32) &&& 63)) ||| (Int32.toInt64 (y1 &&& (255 : Int32)))) <<< (Int32.toInt64 (8 : Int32) &&& 63)) ||| (Int32.toInt64 (y2 &&& (255 : Int32)))) <<< (Int32.toInt64 (8 : Int32) &&& 63)) ||| (Int32.toInt64 (y3 &&& (255 : Int32)))) <<< (Int32.toInt64 (8 : Int32) &&& 63)) ||| (Int32.toInt64 (y4 &&& (255 : Int32))))), .second, .val (.int (4 : Int32))] rfl 26 rfl ?_
  refine o_iinc (v := (4 : Int32)) (w := (5 : Int32)) X0 d2_26 rfl rfl #[.val (.ref xa), .val (.int (0 : Int32)), .val (.int (6 : Int32)), .val (.long (((((((((((0 : Int64) <<< (Int32.toInt64 (8 : Int32) &&& 63)) ||| (Int32.toInt64 (y0 &&& (255 : Int32)))) <<< (Int32.toInt64 (8 : Int32) &&& 63)) ||| (Int32.toInt64 (y1 &&& (255 : Int32)))) <<< (Int32.toInt64 (8 : Int32) &&& 63)) ||| (Int32.toInt64 (y2 &&& (255 : Int32)))) <<< (Int32.toInt64 (8 : Int32) &&& 63)) ||| (Int32.toInt64 (y3 &&& (255 : Int32)))) <<< (Int32.toInt64 (8 : Int32) &&& 63)) ||| (Int32.toInt64 (y4 &&& (255 : Int32))))), .second, .val (.int (5 : Int32))] rfl 29 rfl ?_
  refine o_goto X0 d2_29 5 (by decide) (by decide) ?_
  refine o_iload X0 d2_5 rfl 7 rfl ?_
  refine o_iloadN X0 d2_7 rfl 8 rfl ?_
  refine o_icmpGe X0 d2_8 32 11 (by decide) (by decide) rfl (fun q => by exfalso; exact absurd q (by decide)) ?_
  intro hc8_5
  refine o_lloadN X0 d2_11 rfl 12 rfl ?_
  refine o_bipush (v := (8 : Int32)) X0 d2_12 rfl 14 rfl ?_
  refine o_lshl X0 d2_14 15 rfl ?_
  refine o_aloadN X0 d2_15 rfl rfl 16 rfl ?_
  refine o_iload X0 d2_16 rfl 18 rfl ?_
  refine o_baloadB X0 H0 0 rfl d2_18 5 rfl y5 rfl 19 rfl ?_
  refine o_sipush (v := (255 : Int32)) X0 d2_19 rfl 22 rfl ?_
  refine o_iand X0 d2_22 23 rfl ?_
  refine o_i2l X0 d2_23 24 rfl ?_
  refine o_lor X0 d2_24 25 rfl ?_
  refine o_lstoreN X0 d2_25 #[.val (.ref xa), .val (.int (0 : Int32)), .val (.int (6 : Int32)), .val (.long (((((((((((((0 : Int64) <<< (Int32.toInt64 (8 : Int32) &&& 63)) ||| (Int32.toInt64 (y0 &&& (255 : Int32)))) <<< (Int32.toInt64 (8 : Int32) &&& 63)) ||| (Int32.toInt64 (y1 &&& (255 : Int32)))) <<< (Int32.toInt64 (8 : Int32) &&& 63)) ||| (Int32.toInt64 (y2 &&& (255 : Int32)))) <<< (Int32.toInt64 (8 : Int32) &&& 63)) ||| (Int32.toInt64 (y3 &&& (255 : Int32)))) <<< (Int32.toInt64 (8 : Int32) &&& 63)) ||| (Int32.toInt64 (y4 &&& (255 : Int32)))) <<< (Int32.toInt64 (8 : Int32) &&& 63)) ||| (Int32.toInt64 (y5 &&& (255 : Int32))))), .second, .val (.int (5 : Int32))] rfl 26 rfl ?_
  refine o_iinc (v := (5 : Int32)) (w := (6 : Int32)) X0 d2_26 rfl rfl #[.val (.ref xa), .val (.int (0 : Int32)), .val (.int (6 : Int32)), .val (.long (((((((((((((0 : Int64) <<< (Int32.toInt64 (8 : Int32) &&& 63)) ||| (Int32.toInt64 (y0 &&& (255 : Int32)))) <<< (Int32.toInt64 (8 : Int32) &&& 63)) ||| (Int32.toInt64 (y1 &&& (255 : Int32)))) <<< (Int32.toInt64 (8 : Int32) &&& 63)) ||| (Int32.toInt64 (y2 &&& (255 : Int32)))) <<< (Int32.toInt64 (8 : Int32) &&& 63)) ||| (Int32.toInt64 (y3 &&& (255 : Int32)))) <<< (Int32.toInt64 (8 : Int32) &&& 63)) ||| (Int32.toInt64 (y4 &&& (255 : Int32)))) <<< (Int32.toInt64 (8 : Int32) &&& 63)) ||| (Int32.toInt64 (y5 &&& (255 : Int32))))), .second, .val (.int (6 : Int32))] rfl 29 rfl ?_
  refine o_goto X0 d2_29 5 (by decide) (by decide) ?_
  refine o_iload X0 d2_5 rfl 7 rfl ?_
  refine o_iloadN X0 d2_7 rfl 8 rfl ?_
  refine o_icmpGe X0 d2_8 32 11 (by decide) (by decide) rfl ?_ (fun q => by exfalso; exact absurd q (by decide))
  intro hc8_6
  refine o_lloadN X0 d2_32 rfl 33 rfl ?_
  exact o_retJ X0 d2_33 (by decide) (by decide) (hQ _ _ ⟨rfl, rfl⟩)
set_option maxRecDepth 65536 in
set_option maxHeartbeats 40000000 in
theorem c_pack_0_7 (l : Launch) (Z : State) (a0 : Array Value) (hw : ∀ d ∈ tables_1, d.before a0 Z = true) (ws : List Jvm.Cond) (n0 : Nat) (h0 : Heap) (hn0 : n0 ≤ h0.size) (xa : Addr) (y0 y1 y2 y3 y4 y5 y6 y7 y8 y9 : Int32) (L' : List (Addr × (Cell → Prop))) (H0 : OL n0 h0 ((xa, OA Z .byte [y0, y1, y2, y3, y4, y5, y6, y7, y8, y9]) :: L')) :
    OC l Z (⟨"com/example/vestbook/vestbook/member/MemberIds", "packed", "([BII)J"⟩ : MethodName) prog_68_method_8_code 6 (some .long) ws ({ frames := 0, cells := 0, slots := 0, locals := 0 } : Room) n0 #[(.ref xa), (.int (0 : Int32)), (.int (7 : Int32))] h0 (fun r h => r = some (.long (((((((((((((((0 : Int64) <<< (Int32.toInt64 (8 : Int32) &&& 63)) ||| (Int32.toInt64 (y0 &&& (255 : Int32)))) <<< (Int32.toInt64 (8 : Int32) &&& 63)) ||| (Int32.toInt64 (y1 &&& (255 : Int32)))) <<< (Int32.toInt64 (8 : Int32) &&& 63)) ||| (Int32.toInt64 (y2 &&& (255 : Int32)))) <<< (Int32.toInt64 (8 : Int32) &&& 63)) ||| (Int32.toInt64 (y3 &&& (255 : Int32)))) <<< (Int32.toInt64 (8 : Int32) &&& 63)) ||| (Int32.toInt64 (y4 &&& (255 : Int32)))) <<< (Int32.toInt64 (8 : Int32) &&& 63)) ||| (Int32.toInt64 (y5 &&& (255 : Int32)))) <<< (Int32.toInt64 (8 : Int32) &&& 63)) ||| (Int32.toInt64 (y6 &&& (255 : Int32))))) ∧ h0 = h) := by
  refine OC.of pn_1 hn0 #[.val (.ref xa), .val (.int (0 : Int32)), .val (.int (7 : Int32)), .unset, .unset, .unset] (fun m => by first | (simp [entryFrame, mkF, argsToLocals, Value.category, maxLocals]; done) | rfl) ?_
  intro p e s m below meth cd0 T0 X0 Q' hQ
  refine o_lconst (v := (0 : Int64)) X0 d2_0 rfl 1 rfl ?_
  refine o_lstoreN X0 d2_1 #[.val (.ref xa), .val (.int (0 : Int32)), .val (.int (7 : Int32)), .val (.long (0 : Int64)), .second, .unset] rfl 2 rfl ?_
  refine o_iloadN X0 d2_2 rfl 3 rfl ?_
  refine o_istore X0 d2_3 #[.val (.ref xa), .val (.int (0 : Int32)), .val (.int (7 : Int32)), .val (.long (0 : Int64)), .second, .val (.int (0 : Int32))] rfl 5 rfl ?_
  refine o_iload X0 d2_5 rfl 7 rfl ?_
  refine o_iloadN X0 d2_7 rfl 8 rfl ?_
  refine o_icmpGe X0 d2_8 32 11 (by decide) (by decide) rfl (fun q => by exfalso; exact absurd q (by decide)) ?_
  intro hc8
  refine o_lloadN X0 d2_11 rfl 12 rfl ?_
  refine o_bipush (v := (8 : Int32)) X0 d2_12 rfl 14 rfl ?_
  refine o_lshl X0 d2_14 15 rfl ?_
  refine o_aloadN X0 d2_15 rfl rfl 16 rfl ?_
  refine o_iload X0 d2_16 rfl 18 rfl ?_
  refine o_baloadB X0 H0 0 rfl d2_18 0 rfl y0 rfl 19 rfl ?_
  refine o_sipush (v := (255 : Int32)) X0 d2_19 rfl 22 rfl ?_
  refine o_iand X0 d2_22 23 rfl ?_
  refine o_i2l X0 d2_23 24 rfl ?_
  refine o_lor X0 d2_24 25 rfl ?_
  refine o_lstoreN X0 d2_25 #[.val (.ref xa), .val (.int (0 : Int32)), .val (.int (7 : Int32)), .val (.long (((0 : Int64) <<< (Int32.toInt64 (8 : Int32) &&& 63)) ||| (Int32.toInt64 (y0 &&& (255 : Int32))))), .second, .val (.int (0 : Int32))] rfl 26 rfl ?_
  refine o_iinc (v := (0 : Int32)) (w := (1 : Int32)) X0 d2_26 rfl rfl #[.val (.ref xa), .val (.int (0 : Int32)), .val (.int (7 : Int32)), .val (.long (((0 : Int64) <<< (Int32.toInt64 (8 : Int32) &&& 63)) ||| (Int32.toInt64 (y0 &&& (255 : Int32))))), .second, .val (.int (1 : Int32))] rfl 29 rfl ?_
  refine o_goto X0 d2_29 5 (by decide) (by decide) ?_
  refine o_iload X0 d2_5 rfl 7 rfl ?_
  refine o_iloadN X0 d2_7 rfl 8 rfl ?_
  refine o_icmpGe X0 d2_8 32 11 (by decide) (by decide) rfl (fun q => by exfalso; exact absurd q (by decide)) ?_
  intro hc8_1
  refine o_lloadN X0 d2_11 rfl 12 rfl ?_
  refine o_bipush (v := (8 : Int32)) X0 d2_12 rfl 14 rfl ?_
  refine o_lshl X0 d2_14 15 rfl ?_
  refine o_aloadN X0 d2_15 rfl rfl 16 rfl ?_
  refine o_iload X0 d2_16 rfl 18 rfl ?_
  refine o_baloadB X0 H0 0 rfl d2_18 1 rfl y1 rfl 19 rfl ?_
  refine o_sipush (v := (255 : Int32)) X0 d2_19 rfl 22 rfl ?_
  refine o_iand X0 d2_22 23 rfl ?_
  refine o_i2l X0 d2_23 24 rfl ?_
  refine o_lor X0 d2_24 25 rfl ?_
  refine o_lstoreN X0 d2_25 #[.val (.ref xa), .val (.int (0 : Int32)), .val (.int (7 : Int32)), .val (.long (((((0 : Int64) <<< (Int32.toInt64 (8 : Int32) &&& 63)) ||| (Int32.toInt64 (y0 &&& (255 : Int32)))) <<< (Int32.toInt64 (8 : Int32) &&& 63)) ||| (Int32.toInt64 (y1 &&& (255 : Int32))))), .second, .val (.int (1 : Int32))] rfl 26 rfl ?_
  refine o_iinc (v := (1 : Int32)) (w := (2 : Int32)) X0 d2_26 rfl rfl #[.val (.ref xa), .val (.int (0 : Int32)), .val (.int (7 : Int32)), .val (.long (((((0 : Int64) <<< (Int32.toInt64 (8 : Int32) &&& 63)) ||| (Int32.toInt64 (y0 &&& (255 : Int32)))) <<< (Int32.toInt64 (8 : Int32) &&& 63)) ||| (Int32.toInt64 (y1 &&& (255 : Int32))))), .second, .val (.int (2 : Int32))] rfl 29 rfl ?_
  refine o_goto X0 d2_29 5 (by decide) (by decide) ?_
  refine o_iload X0 d2_5 rfl 7 rfl ?_
  refine o_iloadN X0 d2_7 rfl 8 rfl ?_
  refine o_icmpGe X0 d2_8 32 11 (by decide) (by decide) rfl (fun q => by exfalso; exact absurd q (by decide)) ?_
  intro hc8_2
  refine o_lloadN X0 d2_11 rfl 12 rfl ?_
  refine o_bipush (v := (8 : Int32)) X0 d2_12 rfl 14 rfl ?_
  refine o_lshl X0 d2_14 15 rfl ?_
  refine o_aloadN X0 d2_15 rfl rfl 16 rfl ?_
  refine o_iload X0 d2_16 rfl 18 rfl ?_
  refine o_baloadB X0 H0 0 rfl d2_18 2 rfl y2 rfl 19 rfl ?_
  refine o_sipush (v := (255 : Int32)) X0 d2_19 rfl 22 rfl ?_
  refine o_iand X0 d2_22 23 rfl ?_
  refine o_i2l X0 d2_23 24 rfl ?_
  refine o_lor X0 d2_24 25 rfl ?_
  refine o_lstoreN X0 d2_25 #[.val (.ref xa), .val (.int (0 : Int32)), .val (.int (7 : Int32)), .val (.long (((((((0 : Int64) <<< (Int32.toInt64 (8 : Int32) &&& 63)) ||| (Int32.toInt64 (y0 &&& (255 : Int32)))) <<< (Int32.toInt64 (8 : Int32) &&& 63)) ||| (Int32.toInt64 (y1 &&& (255 : Int32)))) <<< (Int32.toInt64 (8 : Int32) &&& 63)) ||| (Int32.toInt64 (y2 &&& (255 : Int32))))), .second, .val (.int (2 : Int32))] rfl 26 rfl ?_
  refine o_iinc (v := (2 : Int32)) (w := (3 : Int32)) X0 d2_26 rfl rfl #[.val (.ref xa), .val (.int (0 : Int32)), .val (.int (7 : Int32)), .val (.long (((((((0 : Int64) <<< (Int32.toInt64 (8 : Int32) &&& 63)) ||| (Int32.toInt64 (y0 &&& (255 : Int32)))) <<< (Int32.toInt64 (8 : Int32) &&& 63)) ||| (Int32.toInt64 (y1 &&& (255 : Int32)))) <<< (Int32.toInt64 (8 : Int32) &&& 63)) ||| (Int32.toInt64 (y2 &&& (255 : Int32))))), .second, .val (.int (3 : Int32))] rfl 29 rfl ?_
  refine o_goto X0 d2_29 5 (by decide) (by decide) ?_
  refine o_iload X0 d2_5 rfl 7 rfl ?_
  refine o_iloadN X0 d2_7 rfl 8 rfl ?_
  refine o_icmpGe X0 d2_8 32 11 (by decide) (by decide) rfl (fun q => by exfalso; exact absurd q (by decide)) ?_
  intro hc8_3
  refine o_lloadN X0 d2_11 rfl 12 rfl ?_
  refine o_bipush (v := (8 : Int32)) X0 d2_12 rfl 14 rfl ?_
  refine o_lshl X0 d2_14 15 rfl ?_
  refine o_aloadN X0 d2_15 rfl rfl 16 rfl ?_
  refine o_iload X0 d2_16 rfl 18 rfl ?_
  refine o_baloadB X0 H0 0 rfl d2_18 3 rfl y3 rfl 19 rfl ?_
  refine o_sipush (v := (255 : Int32)) X0 d2_19 rfl 22 rfl ?_
  refine o_iand X0 d2_22 23 rfl ?_
  refine o_i2l X0 d2_23 24 rfl ?_
  refine o_lor X0 d2_24 25 rfl ?_
  refine o_lstoreN X0 d2_25 #[.val (.ref xa), .val (.int (0 : Int32)), .val (.int (7 : Int32)), .val (.long (((((((((0 : Int64) <<< (Int32.toInt64 (8 : Int32) &&& 63)) ||| (Int32.toInt64 (y0 &&& (255 : Int32)))) <<< (Int32.toInt64 (8 : Int32) &&& 63)) ||| (Int32.toInt64 (y1 &&& (255 : Int32)))) <<< (Int32.toInt64 (8 : Int32) &&& 63)) ||| (Int32.toInt64 (y2 &&& (255 : Int32)))) <<< (Int32.toInt64 (8 : Int32) &&& 63)) ||| (Int32.toInt64 (y3 &&& (255 : Int32))))), .second, .val (.int (3 : Int32))] rfl 26 rfl ?_
  refine o_iinc (v := (3 : Int32)) (w := (4 : Int32)) X0 d2_26 rfl rfl #[.val (.ref xa), .val (.int (0 : Int32)), .val (.int (7 : Int32)), .val (.long (((((((((0 : Int64) <<< (Int32.toInt64 (8 : Int32) &&& 63)) ||| (Int32.toInt64 (y0 &&& (255 : Int32)))) <<< (Int32.toInt64 (8 : Int32) &&& 63)) ||| (Int32.toInt64 (y1 &&& (255 : Int32)))) <<< (Int32.toInt64 (8 : Int32) &&& 63)) ||| (Int32.toInt64 (y2 &&& (255 : Int32)))) <<< (Int32.toInt64 (8 : Int32) &&& 63)) ||| (Int32.toInt64 (y3 &&& (255 : Int32))))), .second, .val (.int (4 : Int32))] rfl 29 rfl ?_
  refine o_goto X0 d2_29 5 (by decide) (by decide) ?_
  refine o_iload X0 d2_5 rfl 7 rfl ?_
  refine o_iloadN X0 d2_7 rfl 8 rfl ?_
  refine o_icmpGe X0 d2_8 32 11 (by decide) (by decide) rfl (fun q => by exfalso; exact absurd q (by decide)) ?_
  intro hc8_4
  refine o_lloadN X0 d2_11 rfl 12 rfl ?_
  refine o_bipush (v := (8 : Int32)) X0 d2_12 rfl 14 rfl ?_
  refine o_lshl X0 d2_14 15 rfl ?_
  refine o_aloadN X0 d2_15 rfl rfl 16 rfl ?_
  refine o_iload X0 d2_16 rfl 18 rfl ?_
  refine o_baloadB X0 H0 0 rfl d2_18 4 rfl y4 rfl 19 rfl ?_
  refine o_sipush (v := (255 : Int32)) X0 d2_19 rfl 22 rfl ?_
  refine o_iand X0 d2_22 23 rfl ?_
  refine o_i2l X0 d2_23 24 rfl ?_
  refine o_lor X0 d2_24 25 rfl ?_
  refine o_lstoreN X0 d2_25 #[.val (.ref xa), .val (.int (0 : Int32)), .val (.int (7 : Int32)), .val (.long (((((((((((0 : Int64) <<< (Int32.toInt64 (8 : Int32) &&& 63)) ||| (Int32.toInt64 (y0 &&& (255 : Int32)))) <<< (Int32.toInt64 (8 : Int32) &&& 63)) ||| (Int32.toInt64 (y1 &&& (255 : Int32)))) <<< (Int32.toInt64 (8 : Int32) &&& 63)) ||| (Int32.toInt64 (y2 &&& (255 : Int32)))) <<< (Int32.toInt64 (8 : Int32) &&& 63)) ||| (Int32.toInt64 (y3 &&& (255 : Int32)))) <<< (Int32.toInt64 (8 : Int32) &&& 63)) ||| (Int32.toInt64 (y4 &&& (255 : Int32))))), .second, .val (.int (4 : Int32))] rfl 26 rfl ?_
  refine o_iinc (v := (4 : Int32)) (w := (5 : Int32)) X0 d2_26 rfl rfl #[.val (.ref xa), .val (.int (0 : Int32)), .val (.int (7 : Int32)), .val (.long (((((((((((0 : Int64) <<< (Int32.toInt64 (8 : Int32) &&& 63)) ||| (Int32.toInt64 (y0 &&& (255 : Int32)))) <<< (Int32.toInt64 (8 : Int32) &&& 63)) ||| (Int32.toInt64 (y1 &&& (255 : Int32)))) <<< (Int32.toInt64 (8 : Int32) &&& 63)) ||| (Int32.toInt64 (y2 &&& (255 : Int32)))) <<< (Int32.toInt64 (8 : Int32) &&& 63)) ||| (Int32.toInt64 (y3 &&& (255 : Int32)))) <<< (Int32.toInt64 (8 : Int32) &&& 63)) ||| (Int32.toInt64 (y4 &&& (255 : Int32))))), .second, .val (.int (5 : Int32))] rfl 29 rfl ?_
  refine o_goto X0 d2_29 5 (by decide) (by decide) ?_
  refine o_iload X0 d2_5 rfl 7 rfl ?_
  refine o_iloadN X0 d2_7 rfl 8 rfl ?_
  refine o_icmpGe X0 d2_8 32 11 (by decide) (by decide) rfl (fun q => by exfalso; exact absurd q (by decide)) ?_
  intro hc8_5
  refine o_lloadN X0 d2_11 rfl 12 rfl ?_
  refine o_bipush (v := (8 : Int32)) X0 d2_12 rfl 14 rfl ?_
  refine o_lshl X0 d2_14 15 rfl ?_
  refine o_aloadN X0 d2_15 rfl rfl 16 rfl ?_
  refine o_iload X0 d2_16 rfl 18 rfl ?_
  refine o_baloadB X0 H0 0 rfl d2_18 5 rfl y5 rfl 19 rfl ?_
  refine o_sipush (v := (255 : Int32)) X0 d2_19 rfl 22 rfl ?_
  refine o_iand X0 d2_22 23 rfl ?_
  refine o_i2l X0 d2_23 24 rfl ?_
  refine o_lor X0 d2_24 25 rfl ?_
  refine o_lstoreN X0 d2_25 #[.val (.ref xa), .val (.int (0 : Int32)), .val (.int (7 : Int32)), .val (.long (((((((((((((0 : Int64) <<< (Int32.toInt64 (8 : Int32) &&& 63)) ||| (Int32.toInt64 (y0 &&& (255 : Int32)))) <<< (Int32.toInt64 (8 : Int32) &&& 63)) ||| (Int32.toInt64 (y1 &&& (255 : Int32)))) <<< (Int32.toInt64 (8 : Int32) &&& 63)) ||| (Int32.toInt64 (y2 &&& (255 : Int32)))) <<< (Int32.toInt64 (8 : Int32) &&& 63)) ||| (Int32.toInt64 (y3 &&& (255 : Int32)))) <<< (Int32.toInt64 (8 : Int32) &&& 63)) ||| (Int32.toInt64 (y4 &&& (255 : Int32)))) <<< (Int32.toInt64 (8 : Int32) &&& 63)) ||| (Int32.toInt64 (y5 &&& (255 : Int32))))), .second, .val (.int (5 : Int32))] rfl 26 rfl ?_
  refine o_iinc (v := (5 : Int32)) (w := (6 : Int32)) X0 d2_26 rfl rfl #[.val (.ref xa), .val (.int (0 : Int32)), .val (.int (7 : Int32)), .val (.long (((((((((((((0 : Int64) <<< (Int32.toInt64 (8 : Int32) &&& 63)) ||| (Int32.toInt64 (y0 &&& (255 : Int32)))) <<< (Int32.toInt64 (8 : Int32) &&& 63)) ||| (Int32.toInt64 (y1 &&& (255 : Int32)))) <<< (Int32.toInt64 (8 : Int32) &&& 63)) ||| (Int32.toInt64 (y2 &&& (255 : Int32)))) <<< (Int32.toInt64 (8 : Int32) &&& 63)) ||| (Int32.toInt64 (y3 &&& (255 : Int32)))) <<< (Int32.toInt64 (8 : Int32) &&& 63)) ||| (Int32.toInt64 (y4 &&& (255 : Int32)))) <<< (Int32.toInt64 (8 : Int32) &&& 63)) ||| (Int32.toInt64 (y5 &&& (255 : Int32))))), .second, .val (.int (6 : Int32))] rfl 29 rfl ?_
  refine o_goto X0 d2_29 5 (by decide) (by decide) ?_
  refine o_iload X0 d2_5 rfl 7 rfl ?_
  refine o_iloadN X0 d2_7 rfl 8 rfl ?_
  refine o_icmpGe X0 d2_8 32 11 (by decide) (by decide) rfl (fun q => by exfalso; exact absurd q (by decide)) ?_
  intro hc8_6
  refine o_lloadN X0 d2_11 rfl 12 rfl ?_
  refine o_bipush (v := (8 : Int32)) X0 d2_12 rfl 14 rfl ?_
  refine o_lshl X0 d2_14 15 rfl ?_
  refine o_aloadN X0 d2_15 rfl rfl 16 rfl ?_
  refine o_iload X0 d2_16 rfl 18 rfl ?_
  refine o_baloadB X0 H0 0 rfl d2_18 6 rfl y6 rfl 19 rfl ?_
  refine o_sipush (v := (255 : Int32)) X0 d2_19 rfl 22 rfl ?_
  refine o_iand X0 d2_22 23 rfl ?_
  refine o_i2l X0 d2_23 24 rfl ?_
  refine o_lor X0 d2_24 25 rfl ?_
  refine o_lstoreN X0 d2_25 #[.val (.ref xa), .val (.int (0 : Int32)), .val (.int (7 : Int32)), .val (.long (((((((((((((((0 : Int64) <<< (Int32.toInt64 (8 : Int32) &&& 63)) ||| (Int32.toInt64 (y0 &&& (255 : Int32)))) <<< (Int32.toInt64 (8 : Int32) &&& 63)) ||| (Int32.toInt64 (y1 &&& (255 : Int32)))) <<< (Int32.toInt64 (8 : Int32) &&& 63)) ||| (Int32.toInt64 (y2 &&& (255 : Int32)))) <<< (Int32.toInt64 (8 : Int32) &&& 63)) ||| (Int32.toInt64 (y3 &&& (255 : Int32)))) <<< (Int32.toInt64 (8 : Int32) &&& 63)) ||| (Int32.toInt64 (y4 &&& (255 : Int32)))) <<< (Int32.toInt64 (8 : Int32) &&& 63)) ||| (Int32.toInt64 (y5 &&& (255 : Int32)))) <<< (Int32.toInt64 (8 : Int32) &&& 63)) ||| (Int32.toInt64 (y6 &&& (255 : Int32))))), .second, .val (.int (6 : Int32))] rfl 26 rfl ?_
  refine o_iinc (v := (6 : Int32)) (w := (7 : Int32)) X0 d2_26 rfl rfl #[.val (.ref xa), .val (.int (0 : Int32)), .val (.int (7 : Int32)), .val (.long (((((((((((((((0 : Int64) <<< (Int32.toInt64 (8 : Int32) &&& 63)) ||| (Int32.toInt64 (y0 &&& (255 : Int32)))) <<< (Int32.toInt64 (8 : Int32) &&& 63)) ||| (Int32.toInt64 (y1 &&& (255 : Int32)))) <<< (Int32.toInt64 (8 : Int32) &&& 63)) ||| (Int32.toInt64 (y2 &&& (255 : Int32)))) <<< (Int32.toInt64 (8 : Int32) &&& 63)) ||| (Int32.toInt64 (y3 &&& (255 : Int32)))) <<< (Int32.toInt64 (8 : Int32) &&& 63)) ||| (Int32.toInt64 (y4 &&& (255 : Int32)))) <<< (Int32.toInt64 (8 : Int32) &&& 63)) ||| (Int32.toInt64 (y5 &&& (255 : Int32)))) <<< (Int32.toInt64 (8 : Int32) &&& 63)) ||| (Int32.toInt64 (y6 &&& (255 : Int32))))), .second, .val (.int (7 : Int32))] rfl 29 rfl ?_
  refine o_goto X0 d2_29 5 (by decide) (by decide) ?_
  refine o_iload X0 d2_5 rfl 7 rfl ?_
  refine o_iloadN X0 d2_7 rfl 8 rfl ?_
  refine o_icmpGe X0 d2_8 32 11 (by decide) (by decide) rfl ?_ (fun q => by exfalso; exact absurd q (by decide))
  intro hc8_7
  refine o_lloadN X0 d2_32 rfl 33 rfl ?_
  exact o_retJ X0 d2_33 (by decide) (by decide) (hQ _ _ ⟨rfl, rfl⟩)
set_option maxRecDepth 65536 in
set_option maxHeartbeats 40000000 in
theorem c_pack_0_8 (l : Launch) (Z : State) (a0 : Array Value) (hw : ∀ d ∈ tables_1, d.before a0 Z = true) (ws : List Jvm.Cond) (n0 : Nat) (h0 : Heap) (hn0 : n0 ≤ h0.size) (xa : Addr) (y0 y1 y2 y3 y4 y5 y6 y7 y8 y9 : Int32) (L' : List (Addr × (Cell → Prop))) (H0 : OL n0 h0 ((xa, OA Z .byte [y0, y1, y2, y3, y4, y5, y6, y7, y8, y9]) :: L')) :
    OC l Z (⟨"com/example/vestbook/vestbook/member/MemberIds", "packed", "([BII)J"⟩ : MethodName) prog_68_method_8_code 6 (some .long) ws ({ frames := 0, cells := 0, slots := 0, locals := 0 } : Room) n0 #[(.ref xa), (.int (0 : Int32)), (.int (8 : Int32))] h0 (fun r h => r = some (.long (((((((((((((((((0 : Int64) <<< (Int32.toInt64 (8 : Int32) &&& 63)) ||| (Int32.toInt64 (y0 &&& (255 : Int32)))) <<< (Int32.toInt64 (8 : Int32) &&& 63)) ||| (Int32.toInt64 (y1 &&& (255 : Int32)))) <<< (Int32.toInt64 (8 : Int32) &&& 63)) ||| (Int32.toInt64 (y2 &&& (255 : Int32)))) <<< (Int32.toInt64 (8 : Int32) &&& 63)) ||| (Int32.toInt64 (y3 &&& (255 : Int32)))) <<< (Int32.toInt64 (8 : Int32) &&& 63)) ||| (Int32.toInt64 (y4 &&& (255 : Int32)))) <<< (Int32.toInt64 (8 : Int32) &&& 63)) ||| (Int32.toInt64 (y5 &&& (255 : Int32)))) <<< (Int32.toInt64 (8 : Int32) &&& 63)) ||| (Int32.toInt64 (y6 &&& (255 : Int32)))) <<< (Int32.toInt64 (8 : Int32) &&& 63)) ||| (Int32.toInt64 (y7 &&& (255 : Int32))))) ∧ h0 = h) := by
  refine OC.of pn_1 hn0 #[.val (.ref xa), .val (.int (0 : Int32)), .val (.int (8 : Int32)), .unset, .unset, .unset] (fun m => by first | (simp [entryFrame, mkF, argsToLocals, Value.category, maxLocals]; done) | rfl) ?_
  intro p e s m below meth cd0 T0 X0 Q' hQ
  refine o_lconst (v := (0 : Int64)) X0 d2_0 rfl 1 rfl ?_
  refine o_lstoreN X0 d2_1 #[.val (.ref xa), .val (.int (0 : Int32)), .val (.int (8 : Int32)), .val (.long (0 : Int64)), .second, .unset] rfl 2 rfl ?_
  refine o_iloadN X0 d2_2 rfl 3 rfl ?_
  refine o_istore X0 d2_3 #[.val (.ref xa), .val (.int (0 : Int32)), .val (.int (8 : Int32)), .val (.long (0 : Int64)), .second, .val (.int (0 : Int32))] rfl 5 rfl ?_
  refine o_iload X0 d2_5 rfl 7 rfl ?_
  refine o_iloadN X0 d2_7 rfl 8 rfl ?_
  refine o_icmpGe X0 d2_8 32 11 (by decide) (by decide) rfl (fun q => by exfalso; exact absurd q (by decide)) ?_
  intro hc8
  refine o_lloadN X0 d2_11 rfl 12 rfl ?_
  refine o_bipush (v := (8 : Int32)) X0 d2_12 rfl 14 rfl ?_
  refine o_lshl X0 d2_14 15 rfl ?_
  refine o_aloadN X0 d2_15 rfl rfl 16 rfl ?_
  refine o_iload X0 d2_16 rfl 18 rfl ?_
  refine o_baloadB X0 H0 0 rfl d2_18 0 rfl y0 rfl 19 rfl ?_
  refine o_sipush (v := (255 : Int32)) X0 d2_19 rfl 22 rfl ?_
  refine o_iand X0 d2_22 23 rfl ?_
  refine o_i2l X0 d2_23 24 rfl ?_
  refine o_lor X0 d2_24 25 rfl ?_
  refine o_lstoreN X0 d2_25 #[.val (.ref xa), .val (.int (0 : Int32)), .val (.int (8 : Int32)), .val (.long (((0 : Int64) <<< (Int32.toInt64 (8 : Int32) &&& 63)) ||| (Int32.toInt64 (y0 &&& (255 : Int32))))), .second, .val (.int (0 : Int32))] rfl 26 rfl ?_
  refine o_iinc (v := (0 : Int32)) (w := (1 : Int32)) X0 d2_26 rfl rfl #[.val (.ref xa), .val (.int (0 : Int32)), .val (.int (8 : Int32)), .val (.long (((0 : Int64) <<< (Int32.toInt64 (8 : Int32) &&& 63)) ||| (Int32.toInt64 (y0 &&& (255 : Int32))))), .second, .val (.int (1 : Int32))] rfl 29 rfl ?_
  refine o_goto X0 d2_29 5 (by decide) (by decide) ?_
  refine o_iload X0 d2_5 rfl 7 rfl ?_
  refine o_iloadN X0 d2_7 rfl 8 rfl ?_
  refine o_icmpGe X0 d2_8 32 11 (by decide) (by decide) rfl (fun q => by exfalso; exact absurd q (by decide)) ?_
  intro hc8_1
  refine o_lloadN X0 d2_11 rfl 12 rfl ?_
  refine o_bipush (v := (8 : Int32)) X0 d2_12 rfl 14 rfl ?_
  refine o_lshl X0 d2_14 15 rfl ?_
  refine o_aloadN X0 d2_15 rfl rfl 16 rfl ?_
  refine o_iload X0 d2_16 rfl 18 rfl ?_
  refine o_baloadB X0 H0 0 rfl d2_18 1 rfl y1 rfl 19 rfl ?_
  refine o_sipush (v := (255 : Int32)) X0 d2_19 rfl 22 rfl ?_
  refine o_iand X0 d2_22 23 rfl ?_
  refine o_i2l X0 d2_23 24 rfl ?_
  refine o_lor X0 d2_24 25 rfl ?_
  refine o_lstoreN X0 d2_25 #[.val (.ref xa), .val (.int (0 : Int32)), .val (.int (8 : Int32)), .val (.long (((((0 : Int64) <<< (Int32.toInt64 (8 : Int32) &&& 63)) ||| (Int32.toInt64 (y0 &&& (255 : Int32)))) <<< (Int32.toInt64 (8 : Int32) &&& 63)) ||| (Int32.toInt64 (y1 &&& (255 : Int32))))), .second, .val (.int (1 : Int32))] rfl 26 rfl ?_
  refine o_iinc (v := (1 : Int32)) (w := (2 : Int32)) X0 d2_26 rfl rfl #[.val (.ref xa), .val (.int (0 : Int32)), .val (.int (8 : Int32)), .val (.long (((((0 : Int64) <<< (Int32.toInt64 (8 : Int32) &&& 63)) ||| (Int32.toInt64 (y0 &&& (255 : Int32)))) <<< (Int32.toInt64 (8 : Int32) &&& 63)) ||| (Int32.toInt64 (y1 &&& (255 : Int32))))), .second, .val (.int (2 : Int32))] rfl 29 rfl ?_
  refine o_goto X0 d2_29 5 (by decide) (by decide) ?_
  refine o_iload X0 d2_5 rfl 7 rfl ?_
  refine o_iloadN X0 d2_7 rfl 8 rfl ?_
  refine o_icmpGe X0 d2_8 32 11 (by decide) (by decide) rfl (fun q => by exfalso; exact absurd q (by decide)) ?_
  intro hc8_2
  refine o_lloadN X0 d2_11 rfl 12 rfl ?_
  refine o_bipush (v := (8 : Int32)) X0 d2_12 rfl 14 rfl ?_
  refine o_lshl X0 d2_14 15 rfl ?_
  refine o_aloadN X0 d2_15 rfl rfl 16 rfl ?_
  refine o_iload X0 d2_16 rfl 18 rfl ?_
  refine o_baloadB X0 H0 0 rfl d2_18 2 rfl y2 rfl 19 rfl ?_
  refine o_sipush (v := (255 : Int32)) X0 d2_19 rfl 22 rfl ?_
  refine o_iand X0 d2_22 23 rfl ?_
  refine o_i2l X0 d2_23 24 rfl ?_
  refine o_lor X0 d2_24 25 rfl ?_
  refine o_lstoreN X0 d2_25 #[.val (.ref xa), .val (.int (0 : Int32)), .val (.int (8 : Int32)), .val (.long (((((((0 : Int64) <<< (Int32.toInt64 (8 : Int32) &&& 63)) ||| (Int32.toInt64 (y0 &&& (255 : Int32)))) <<< (Int32.toInt64 (8 : Int32) &&& 63)) ||| (Int32.toInt64 (y1 &&& (255 : Int32)))) <<< (Int32.toInt64 (8 : Int32) &&& 63)) ||| (Int32.toInt64 (y2 &&& (255 : Int32))))), .second, .val (.int (2 : Int32))] rfl 26 rfl ?_
  refine o_iinc (v := (2 : Int32)) (w := (3 : Int32)) X0 d2_26 rfl rfl #[.val (.ref xa), .val (.int (0 : Int32)), .val (.int (8 : Int32)), .val (.long (((((((0 : Int64) <<< (Int32.toInt64 (8 : Int32) &&& 63)) ||| (Int32.toInt64 (y0 &&& (255 : Int32)))) <<< (Int32.toInt64 (8 : Int32) &&& 63)) ||| (Int32.toInt64 (y1 &&& (255 : Int32)))) <<< (Int32.toInt64 (8 : Int32) &&& 63)) ||| (Int32.toInt64 (y2 &&& (255 : Int32))))), .second, .val (.int (3 : Int32))] rfl 29 rfl ?_
  refine o_goto X0 d2_29 5 (by decide) (by decide) ?_
  refine o_iload X0 d2_5 rfl 7 rfl ?_
  refine o_iloadN X0 d2_7 rfl 8 rfl ?_
  refine o_icmpGe X0 d2_8 32 11 (by decide) (by decide) rfl (fun q => by exfalso; exact absurd q (by decide)) ?_
  intro hc8_3
  refine o_lloadN X0 d2_11 rfl 12 rfl ?_
  refine o_bipush (v := (8 : Int32)) X0 d2_12 rfl 14 rfl ?_
  refine o_lshl X0 d2_14 15 rfl ?_
  refine o_aloadN X0 d2_15 rfl rfl 16 rfl ?_
  refine o_iload X0 d2_16 rfl 18 rfl ?_
  refine o_baloadB X0 H0 0 rfl d2_18 3 rfl y3 rfl 19 rfl ?_
  refine o_sipush (v := (255 : Int32)) X0 d2_19 rfl 22 rfl ?_
  refine o_iand X0 d2_22 23 rfl ?_
  refine o_i2l X0 d2_23 24 rfl ?_
  refine o_lor X0 d2_24 25 rfl ?_
  refine o_lstoreN X0 d2_25 #[.val (.ref xa), .val (.int (0 : Int32)), .val (.int (8 : Int32)), .val (.long (((((((((0 : Int64) <<< (Int32.toInt64 (8 : Int32) &&& 63)) ||| (Int32.toInt64 (y0 &&& (255 : Int32)))) <<< (Int32.toInt64 (8 : Int32) &&& 63)) ||| (Int32.toInt64 (y1 &&& (255 : Int32)))) <<< (Int32.toInt64 (8 : Int32) &&& 63)) ||| (Int32.toInt64 (y2 &&& (255 : Int32)))) <<< (Int32.toInt64 (8 : Int32) &&& 63)) ||| (Int32.toInt64 (y3 &&& (255 : Int32))))), .second, .val (.int (3 : Int32))] rfl 26 rfl ?_
  refine o_iinc (v := (3 : Int32)) (w := (4 : Int32)) X0 d2_26 rfl rfl #[.val (.ref xa), .val (.int (0 : Int32)), .val (.int (8 : Int32)), .val (.long (((((((((0 : Int64) <<< (Int32.toInt64 (8 : Int32) &&& 63)) ||| (Int32.toInt64 (y0 &&& (255 : Int32)))) <<< (Int32.toInt64 (8 : Int32) &&& 63)) ||| (Int32.toInt64 (y1 &&& (255 : Int32)))) <<< (Int32.toInt64 (8 : Int32) &&& 63)) ||| (Int32.toInt64 (y2 &&& (255 : Int32)))) <<< (Int32.toInt64 (8 : Int32) &&& 63)) ||| (Int32.toInt64 (y3 &&& (255 : Int32))))), .second, .val (.int (4 : Int32))] rfl 29 rfl ?_
  refine o_goto X0 d2_29 5 (by decide) (by decide) ?_
  refine o_iload X0 d2_5 rfl 7 rfl ?_
  refine o_iloadN X0 d2_7 rfl 8 rfl ?_
  refine o_icmpGe X0 d2_8 32 11 (by decide) (by decide) rfl (fun q => by exfalso; exact absurd q (by decide)) ?_
  intro hc8_4
  refine o_lloadN X0 d2_11 rfl 12 rfl ?_
  refine o_bipush (v := (8 : Int32)) X0 d2_12 rfl 14 rfl ?_
  refine o_lshl X0 d2_14 15 rfl ?_
  refine o_aloadN X0 d2_15 rfl rfl 16 rfl ?_
  refine o_iload X0 d2_16 rfl 18 rfl ?_
  refine o_baloadB X0 H0 0 rfl d2_18 4 rfl y4 rfl 19 rfl ?_
  refine o_sipush (v := (255 : Int32)) X0 d2_19 rfl 22 rfl ?_
  refine o_iand X0 d2_22 23 rfl ?_
  refine o_i2l X0 d2_23 24 rfl ?_
  refine o_lor X0 d2_24 25 rfl ?_
  refine o_lstoreN X0 d2_25 #[.val (.ref xa), .val (.int (0 : Int32)), .val (.int (8 : Int32)), .val (.long (((((((((((0 : Int64) <<< (Int32.toInt64 (8 : Int32) &&& 63)) ||| (Int32.toInt64 (y0 &&& (255 : Int32)))) <<< (Int32.toInt64 (8 : Int32) &&& 63)) ||| (Int32.toInt64 (y1 &&& (255 : Int32)))) <<< (Int32.toInt64 (8 : Int32) &&& 63)) ||| (Int32.toInt64 (y2 &&& (255 : Int32)))) <<< (Int32.toInt64 (8 : Int32) &&& 63)) ||| (Int32.toInt64 (y3 &&& (255 : Int32)))) <<< (Int32.toInt64 (8 : Int32) &&& 63)) ||| (Int32.toInt64 (y4 &&& (255 : Int32))))), .second, .val (.int (4 : Int32))] rfl 26 rfl ?_
  refine o_iinc (v := (4 : Int32)) (w := (5 : Int32)) X0 d2_26 rfl rfl #[.val (.ref xa), .val (.int (0 : Int32)), .val (.int (8 : Int32)), .val (.long (((((((((((0 : Int64) <<< (Int32.toInt64 (8 : Int32) &&& 63)) ||| (Int32.toInt64 (y0 &&& (255 : Int32)))) <<< (Int32.toInt64 (8 : Int32) &&& 63)) ||| (Int32.toInt64 (y1 &&& (255 : Int32)))) <<< (Int32.toInt64 (8 : Int32) &&& 63)) ||| (Int32.toInt64 (y2 &&& (255 : Int32)))) <<< (Int32.toInt64 (8 : Int32) &&& 63)) ||| (Int32.toInt64 (y3 &&& (255 : Int32)))) <<< (Int32.toInt64 (8 : Int32) &&& 63)) ||| (Int32.toInt64 (y4 &&& (255 : Int32))))), .second, .val (.int (5 : Int32))] rfl 29 rfl ?_
  refine o_goto X0 d2_29 5 (by decide) (by decide) ?_
  refine o_iload X0 d2_5 rfl 7 rfl ?_
  refine o_iloadN X0 d2_7 rfl 8 rfl ?_
  refine o_icmpGe X0 d2_8 32 11 (by decide) (by decide) rfl (fun q => by exfalso; exact absurd q (by decide)) ?_
  intro hc8_5
  refine o_lloadN X0 d2_11 rfl 12 rfl ?_
  refine o_bipush (v := (8 : Int32)) X0 d2_12 rfl 14 rfl ?_
  refine o_lshl X0 d2_14 15 rfl ?_
  refine o_aloadN X0 d2_15 rfl rfl 16 rfl ?_
  refine o_iload X0 d2_16 rfl 18 rfl ?_
  refine o_baloadB X0 H0 0 rfl d2_18 5 rfl y5 rfl 19 rfl ?_
  refine o_sipush (v := (255 : Int32)) X0 d2_19 rfl 22 rfl ?_
  refine o_iand X0 d2_22 23 rfl ?_
  refine o_i2l X0 d2_23 24 rfl ?_
  refine o_lor X0 d2_24 25 rfl ?_
  refine o_lstoreN X0 d2_25 #[.val (.ref xa), .val (.int (0 : Int32)), .val (.int (8 : Int32)), .val (.long (((((((((((((0 : Int64) <<< (Int32.toInt64 (8 : Int32) &&& 63)) ||| (Int32.toInt64 (y0 &&& (255 : Int32)))) <<< (Int32.toInt64 (8 : Int32) &&& 63)) ||| (Int32.toInt64 (y1 &&& (255 : Int32)))) <<< (Int32.toInt64 (8 : Int32) &&& 63)) ||| (Int32.toInt64 (y2 &&& (255 : Int32)))) <<< (Int32.toInt64 (8 : Int32) &&& 63)) ||| (Int32.toInt64 (y3 &&& (255 : Int32)))) <<< (Int32.toInt64 (8 : Int32) &&& 63)) ||| (Int32.toInt64 (y4 &&& (255 : Int32)))) <<< (Int32.toInt64 (8 : Int32) &&& 63)) ||| (Int32.toInt64 (y5 &&& (255 : Int32))))), .second, .val (.int (5 : Int32))] rfl 26 rfl ?_
  refine o_iinc (v := (5 : Int32)) (w := (6 : Int32)) X0 d2_26 rfl rfl #[.val (.ref xa), .val (.int (0 : Int32)), .val (.int (8 : Int32)), .val (.long (((((((((((((0 : Int64) <<< (Int32.toInt64 (8 : Int32) &&& 63)) ||| (Int32.toInt64 (y0 &&& (255 : Int32)))) <<< (Int32.toInt64 (8 : Int32) &&& 63)) ||| (Int32.toInt64 (y1 &&& (255 : Int32)))) <<< (Int32.toInt64 (8 : Int32) &&& 63)) ||| (Int32.toInt64 (y2 &&& (255 : Int32)))) <<< (Int32.toInt64 (8 : Int32) &&& 63)) ||| (Int32.toInt64 (y3 &&& (255 : Int32)))) <<< (Int32.toInt64 (8 : Int32) &&& 63)) ||| (Int32.toInt64 (y4 &&& (255 : Int32)))) <<< (Int32.toInt64 (8 : Int32) &&& 63)) ||| (Int32.toInt64 (y5 &&& (255 : Int32))))), .second, .val (.int (6 : Int32))] rfl 29 rfl ?_
  refine o_goto X0 d2_29 5 (by decide) (by decide) ?_
  refine o_iload X0 d2_5 rfl 7 rfl ?_
  refine o_iloadN X0 d2_7 rfl 8 rfl ?_
  refine o_icmpGe X0 d2_8 32 11 (by decide) (by decide) rfl (fun q => by exfalso; exact absurd q (by decide)) ?_
  intro hc8_6
  refine o_lloadN X0 d2_11 rfl 12 rfl ?_
  refine o_bipush (v := (8 : Int32)) X0 d2_12 rfl 14 rfl ?_
  refine o_lshl X0 d2_14 15 rfl ?_
  refine o_aloadN X0 d2_15 rfl rfl 16 rfl ?_
  refine o_iload X0 d2_16 rfl 18 rfl ?_
  refine o_baloadB X0 H0 0 rfl d2_18 6 rfl y6 rfl 19 rfl ?_
  refine o_sipush (v := (255 : Int32)) X0 d2_19 rfl 22 rfl ?_
  refine o_iand X0 d2_22 23 rfl ?_
  refine o_i2l X0 d2_23 24 rfl ?_
  refine o_lor X0 d2_24 25 rfl ?_
  refine o_lstoreN X0 d2_25 #[.val (.ref xa), .val (.int (0 : Int32)), .val (.int (8 : Int32)), .val (.long (((((((((((((((0 : Int64) <<< (Int32.toInt64 (8 : Int32) &&& 63)) ||| (Int32.toInt64 (y0 &&& (255 : Int32)))) <<< (Int32.toInt64 (8 : Int32) &&& 63)) ||| (Int32.toInt64 (y1 &&& (255 : Int32)))) <<< (Int32.toInt64 (8 : Int32) &&& 63)) ||| (Int32.toInt64 (y2 &&& (255 : Int32)))) <<< (Int32.toInt64 (8 : Int32) &&& 63)) ||| (Int32.toInt64 (y3 &&& (255 : Int32)))) <<< (Int32.toInt64 (8 : Int32) &&& 63)) ||| (Int32.toInt64 (y4 &&& (255 : Int32)))) <<< (Int32.toInt64 (8 : Int32) &&& 63)) ||| (Int32.toInt64 (y5 &&& (255 : Int32)))) <<< (Int32.toInt64 (8 : Int32) &&& 63)) ||| (Int32.toInt64 (y6 &&& (255 : Int32))))), .second, .val (.int (6 : Int32))] rfl 26 rfl ?_
  refine o_iinc (v := (6 : Int32)) (w := (7 : Int32)) X0 d2_26 rfl rfl #[.val (.ref xa), .val (.int (0 : Int32)), .val (.int (8 : Int32)), .val (.long (((((((((((((((0 : Int64) <<< (Int32.toInt64 (8 : Int32) &&& 63)) ||| (Int32.toInt64 (y0 &&& (255 : Int32)))) <<< (Int32.toInt64 (8 : Int32) &&& 63)) ||| (Int32.toInt64 (y1 &&& (255 : Int32)))) <<< (Int32.toInt64 (8 : Int32) &&& 63)) ||| (Int32.toInt64 (y2 &&& (255 : Int32)))) <<< (Int32.toInt64 (8 : Int32) &&& 63)) ||| (Int32.toInt64 (y3 &&& (255 : Int32)))) <<< (Int32.toInt64 (8 : Int32) &&& 63)) ||| (Int32.toInt64 (y4 &&& (255 : Int32)))) <<< (Int32.toInt64 (8 : Int32) &&& 63)) ||| (Int32.toInt64 (y5 &&& (255 : Int32)))) <<< (Int32.toInt64 (8 : Int32) &&& 63)) ||| (Int32.toInt64 (y6 &&& (255 : Int32))))), .second, .val (.int (7 : Int32))] rfl 29 rfl ?_
  refine o_goto X0 d2_29 5 (by decide) (by decide) ?_
  refine o_iload X0 d2_5 rfl 7 rfl ?_
  refine o_iloadN X0 d2_7 rfl 8 rfl ?_
  refine o_icmpGe X0 d2_8 32 11 (by decide) (by decide) rfl (fun q => by exfalso; exact absurd q (by decide)) ?_
  intro hc8_7
  refine o_lloadN X0 d2_11 rfl 12 rfl ?_
  refine o_bipush (v := (8 : Int32)) X0 d2_12 rfl 14 rfl ?_
  refine o_lshl X0 d2_14 15 rfl ?_
  refine o_aloadN X0 d2_15 rfl rfl 16 rfl ?_
  refine o_iload X0 d2_16 rfl 18 rfl ?_
  refine o_baloadB X0 H0 0 rfl d2_18 7 rfl y7 rfl 19 rfl ?_
  refine o_sipush (v := (255 : Int32)) X0 d2_19 rfl 22 rfl ?_
  refine o_iand X0 d2_22 23 rfl ?_
  refine o_i2l X0 d2_23 24 rfl ?_
  refine o_lor X0 d2_24 25 rfl ?_
  refine o_lstoreN X0 d2_25 #[.val (.ref xa), .val (.int (0 : Int32)), .val (.int (8 : Int32)), .val (.long (((((((((((((((((0 : Int64) <<< (Int32.toInt64 (8 : Int32) &&& 63)) ||| (Int32.toInt64 (y0 &&& (255 : Int32)))) <<< (Int32.toInt64 (8 : Int32) &&& 63)) ||| (Int32.toInt64 (y1 &&& (255 : Int32)))) <<< (Int32.toInt64 (8 : Int32) &&& 63)) ||| (Int32.toInt64 (y2 &&& (255 : Int32)))) <<< (Int32.toInt64 (8 : Int32) &&& 63)) ||| (Int32.toInt64 (y3 &&& (255 : Int32)))) <<< (Int32.toInt64 (8 : Int32) &&& 63)) ||| (Int32.toInt64 (y4 &&& (255 : Int32)))) <<< (Int32.toInt64 (8 : Int32) &&& 63)) ||| (Int32.toInt64 (y5 &&& (255 : Int32)))) <<< (Int32.toInt64 (8 : Int32) &&& 63)) ||| (Int32.toInt64 (y6 &&& (255 : Int32)))) <<< (Int32.toInt64 (8 : Int32) &&& 63)) ||| (Int32.toInt64 (y7 &&& (255 : Int32))))), .second, .val (.int (7 : Int32))] rfl 26 rfl ?_
  refine o_iinc (v := (7 : Int32)) (w := (8 : Int32)) X0 d2_26 rfl rfl #[.val (.ref xa), .val (.int (0 : Int32)), .val (.int (8 : Int32)), .val (.long (((((((((((((((((0 : Int64) <<< (Int32.toInt64 (8 : Int32) &&& 63)) ||| (Int32.toInt64 (y0 &&& (255 : Int32)))) <<< (Int32.toInt64 (8 : Int32) &&& 63)) ||| (Int32.toInt64 (y1 &&& (255 : Int32)))) <<< (Int32.toInt64 (8 : Int32) &&& 63)) ||| (Int32.toInt64 (y2 &&& (255 : Int32)))) <<< (Int32.toInt64 (8 : Int32) &&& 63)) ||| (Int32.toInt64 (y3 &&& (255 : Int32)))) <<< (Int32.toInt64 (8 : Int32) &&& 63)) ||| (Int32.toInt64 (y4 &&& (255 : Int32)))) <<< (Int32.toInt64 (8 : Int32) &&& 63)) ||| (Int32.toInt64 (y5 &&& (255 : Int32)))) <<< (Int32.toInt64 (8 : Int32) &&& 63)) ||| (Int32.toInt64 (y6 &&& (255 : Int32)))) <<< (Int32.toInt64 (8 : Int32) &&& 63)) ||| (Int32.toInt64 (y7 &&& (255 : Int32))))), .second, .val (.int (8 : Int32))] rfl 29 rfl ?_
  refine o_goto X0 d2_29 5 (by decide) (by decide) ?_
  refine o_iload X0 d2_5 rfl 7 rfl ?_
  refine o_iloadN X0 d2_7 rfl 8 rfl ?_
  refine o_icmpGe X0 d2_8 32 11 (by decide) (by decide) rfl ?_ (fun q => by exfalso; exact absurd q (by decide))
  intro hc8_8
  refine o_lloadN X0 d2_32 rfl 33 rfl ?_
  exact o_retJ X0 d2_33 (by decide) (by decide) (hQ _ _ ⟨rfl, rfl⟩)
set_option maxRecDepth 65536 in
set_option maxHeartbeats 40000000 in
theorem c_pack_1_0 (l : Launch) (Z : State) (a0 : Array Value) (hw : ∀ d ∈ tables_1, d.before a0 Z = true) (ws : List Jvm.Cond) (n0 : Nat) (h0 : Heap) (hn0 : n0 ≤ h0.size) (xa : Addr) (y0 y1 y2 y3 y4 y5 y6 y7 y8 y9 : Int32) (L' : List (Addr × (Cell → Prop))) (H0 : OL n0 h0 ((xa, OA Z .byte [y0, y1, y2, y3, y4, y5, y6, y7, y8, y9]) :: L')) :
    OC l Z (⟨"com/example/vestbook/vestbook/member/MemberIds", "packed", "([BII)J"⟩ : MethodName) prog_68_method_8_code 6 (some .long) ws ({ frames := 0, cells := 0, slots := 0, locals := 0 } : Room) n0 #[(.ref xa), (.int (1 : Int32)), (.int (1 : Int32))] h0 (fun r h => r = some (.long (0 : Int64)) ∧ h0 = h) := by
  refine OC.of pn_1 hn0 #[.val (.ref xa), .val (.int (1 : Int32)), .val (.int (1 : Int32)), .unset, .unset, .unset] (fun m => by first | (simp [entryFrame, mkF, argsToLocals, Value.category, maxLocals]; done) | rfl) ?_
  intro p e s m below meth cd0 T0 X0 Q' hQ
  refine o_lconst (v := (0 : Int64)) X0 d2_0 rfl 1 rfl ?_
  refine o_lstoreN X0 d2_1 #[.val (.ref xa), .val (.int (1 : Int32)), .val (.int (1 : Int32)), .val (.long (0 : Int64)), .second, .unset] rfl 2 rfl ?_
  refine o_iloadN X0 d2_2 rfl 3 rfl ?_
  refine o_istore X0 d2_3 #[.val (.ref xa), .val (.int (1 : Int32)), .val (.int (1 : Int32)), .val (.long (0 : Int64)), .second, .val (.int (1 : Int32))] rfl 5 rfl ?_
  refine o_iload X0 d2_5 rfl 7 rfl ?_
  refine o_iloadN X0 d2_7 rfl 8 rfl ?_
  refine o_icmpGe X0 d2_8 32 11 (by decide) (by decide) rfl ?_ (fun q => by exfalso; exact absurd q (by decide))
  intro hc8
  refine o_lloadN X0 d2_32 rfl 33 rfl ?_
  exact o_retJ X0 d2_33 (by decide) (by decide) (hQ _ _ ⟨rfl, rfl⟩)
set_option maxRecDepth 65536 in
set_option maxHeartbeats 40000000 in
theorem c_pack_1_1 (l : Launch) (Z : State) (a0 : Array Value) (hw : ∀ d ∈ tables_1, d.before a0 Z = true) (ws : List Jvm.Cond) (n0 : Nat) (h0 : Heap) (hn0 : n0 ≤ h0.size) (xa : Addr) (y0 y1 y2 y3 y4 y5 y6 y7 y8 y9 : Int32) (L' : List (Addr × (Cell → Prop))) (H0 : OL n0 h0 ((xa, OA Z .byte [y0, y1, y2, y3, y4, y5, y6, y7, y8, y9]) :: L')) :
    OC l Z (⟨"com/example/vestbook/vestbook/member/MemberIds", "packed", "([BII)J"⟩ : MethodName) prog_68_method_8_code 6 (some .long) ws ({ frames := 0, cells := 0, slots := 0, locals := 0 } : Room) n0 #[(.ref xa), (.int (1 : Int32)), (.int (2 : Int32))] h0 (fun r h => r = some (.long (((0 : Int64) <<< (Int32.toInt64 (8 : Int32) &&& 63)) ||| (Int32.toInt64 (y1 &&& (255 : Int32))))) ∧ h0 = h) := by
  refine OC.of pn_1 hn0 #[.val (.ref xa), .val (.int (1 : Int32)), .val (.int (2 : Int32)), .unset, .unset, .unset] (fun m => by first | (simp [entryFrame, mkF, argsToLocals, Value.category, maxLocals]; done) | rfl) ?_
  intro p e s m below meth cd0 T0 X0 Q' hQ
  refine o_lconst (v := (0 : Int64)) X0 d2_0 rfl 1 rfl ?_
  refine o_lstoreN X0 d2_1 #[.val (.ref xa), .val (.int (1 : Int32)), .val (.int (2 : Int32)), .val (.long (0 : Int64)), .second, .unset] rfl 2 rfl ?_
  refine o_iloadN X0 d2_2 rfl 3 rfl ?_
  refine o_istore X0 d2_3 #[.val (.ref xa), .val (.int (1 : Int32)), .val (.int (2 : Int32)), .val (.long (0 : Int64)), .second, .val (.int (1 : Int32))] rfl 5 rfl ?_
  refine o_iload X0 d2_5 rfl 7 rfl ?_
  refine o_iloadN X0 d2_7 rfl 8 rfl ?_
  refine o_icmpGe X0 d2_8 32 11 (by decide) (by decide) rfl (fun q => by exfalso; exact absurd q (by decide)) ?_
  intro hc8
  refine o_lloadN X0 d2_11 rfl 12 rfl ?_
  refine o_bipush (v := (8 : Int32)) X0 d2_12 rfl 14 rfl ?_
  refine o_lshl X0 d2_14 15 rfl ?_
  refine o_aloadN X0 d2_15 rfl rfl 16 rfl ?_
  refine o_iload X0 d2_16 rfl 18 rfl ?_
  refine o_baloadB X0 H0 0 rfl d2_18 1 rfl y1 rfl 19 rfl ?_
  refine o_sipush (v := (255 : Int32)) X0 d2_19 rfl 22 rfl ?_
  refine o_iand X0 d2_22 23 rfl ?_
  refine o_i2l X0 d2_23 24 rfl ?_
  refine o_lor X0 d2_24 25 rfl ?_
  refine o_lstoreN X0 d2_25 #[.val (.ref xa), .val (.int (1 : Int32)), .val (.int (2 : Int32)), .val (.long (((0 : Int64) <<< (Int32.toInt64 (8 : Int32) &&& 63)) ||| (Int32.toInt64 (y1 &&& (255 : Int32))))), .second, .val (.int (1 : Int32))] rfl 26 rfl ?_
  refine o_iinc (v := (1 : Int32)) (w := (2 : Int32)) X0 d2_26 rfl rfl #[.val (.ref xa), .val (.int (1 : Int32)), .val (.int (2 : Int32)), .val (.long (((0 : Int64) <<< (Int32.toInt64 (8 : Int32) &&& 63)) ||| (Int32.toInt64 (y1 &&& (255 : Int32))))), .second, .val (.int (2 : Int32))] rfl 29 rfl ?_
  refine o_goto X0 d2_29 5 (by decide) (by decide) ?_
  refine o_iload X0 d2_5 rfl 7 rfl ?_
  refine o_iloadN X0 d2_7 rfl 8 rfl ?_
  refine o_icmpGe X0 d2_8 32 11 (by decide) (by decide) rfl ?_ (fun q => by exfalso; exact absurd q (by decide))
  intro hc8_1
  refine o_lloadN X0 d2_32 rfl 33 rfl ?_
  exact o_retJ X0 d2_33 (by decide) (by decide) (hQ _ _ ⟨rfl, rfl⟩)
set_option maxRecDepth 65536 in
set_option maxHeartbeats 40000000 in
theorem c_pack_1_2 (l : Launch) (Z : State) (a0 : Array Value) (hw : ∀ d ∈ tables_1, d.before a0 Z = true) (ws : List Jvm.Cond) (n0 : Nat) (h0 : Heap) (hn0 : n0 ≤ h0.size) (xa : Addr) (y0 y1 y2 y3 y4 y5 y6 y7 y8 y9 : Int32) (L' : List (Addr × (Cell → Prop))) (H0 : OL n0 h0 ((xa, OA Z .byte [y0, y1, y2, y3, y4, y5, y6, y7, y8, y9]) :: L')) :
    OC l Z (⟨"com/example/vestbook/vestbook/member/MemberIds", "packed", "([BII)J"⟩ : MethodName) prog_68_method_8_code 6 (some .long) ws ({ frames := 0, cells := 0, slots := 0, locals := 0 } : Room) n0 #[(.ref xa), (.int (1 : Int32)), (.int (3 : Int32))] h0 (fun r h => r = some (.long (((((0 : Int64) <<< (Int32.toInt64 (8 : Int32) &&& 63)) ||| (Int32.toInt64 (y1 &&& (255 : Int32)))) <<< (Int32.toInt64 (8 : Int32) &&& 63)) ||| (Int32.toInt64 (y2 &&& (255 : Int32))))) ∧ h0 = h) := by
  refine OC.of pn_1 hn0 #[.val (.ref xa), .val (.int (1 : Int32)), .val (.int (3 : Int32)), .unset, .unset, .unset] (fun m => by first | (simp [entryFrame, mkF, argsToLocals, Value.category, maxLocals]; done) | rfl) ?_
  intro p e s m below meth cd0 T0 X0 Q' hQ
  refine o_lconst (v := (0 : Int64)) X0 d2_0 rfl 1 rfl ?_
  refine o_lstoreN X0 d2_1 #[.val (.ref xa), .val (.int (1 : Int32)), .val (.int (3 : Int32)), .val (.long (0 : Int64)), .second, .unset] rfl 2 rfl ?_
  refine o_iloadN X0 d2_2 rfl 3 rfl ?_
  refine o_istore X0 d2_3 #[.val (.ref xa), .val (.int (1 : Int32)), .val (.int (3 : Int32)), .val (.long (0 : Int64)), .second, .val (.int (1 : Int32))] rfl 5 rfl ?_
  refine o_iload X0 d2_5 rfl 7 rfl ?_
  refine o_iloadN X0 d2_7 rfl 8 rfl ?_
  refine o_icmpGe X0 d2_8 32 11 (by decide) (by decide) rfl (fun q => by exfalso; exact absurd q (by decide)) ?_
  intro hc8
  refine o_lloadN X0 d2_11 rfl 12 rfl ?_
  refine o_bipush (v := (8 : Int32)) X0 d2_12 rfl 14 rfl ?_
  refine o_lshl X0 d2_14 15 rfl ?_
  refine o_aloadN X0 d2_15 rfl rfl 16 rfl ?_
  refine o_iload X0 d2_16 rfl 18 rfl ?_
  refine o_baloadB X0 H0 0 rfl d2_18 1 rfl y1 rfl 19 rfl ?_
  refine o_sipush (v := (255 : Int32)) X0 d2_19 rfl 22 rfl ?_
  refine o_iand X0 d2_22 23 rfl ?_
  refine o_i2l X0 d2_23 24 rfl ?_
  refine o_lor X0 d2_24 25 rfl ?_
  refine o_lstoreN X0 d2_25 #[.val (.ref xa), .val (.int (1 : Int32)), .val (.int (3 : Int32)), .val (.long (((0 : Int64) <<< (Int32.toInt64 (8 : Int32) &&& 63)) ||| (Int32.toInt64 (y1 &&& (255 : Int32))))), .second, .val (.int (1 : Int32))] rfl 26 rfl ?_
  refine o_iinc (v := (1 : Int32)) (w := (2 : Int32)) X0 d2_26 rfl rfl #[.val (.ref xa), .val (.int (1 : Int32)), .val (.int (3 : Int32)), .val (.long (((0 : Int64) <<< (Int32.toInt64 (8 : Int32) &&& 63)) ||| (Int32.toInt64 (y1 &&& (255 : Int32))))), .second, .val (.int (2 : Int32))] rfl 29 rfl ?_
  refine o_goto X0 d2_29 5 (by decide) (by decide) ?_
  refine o_iload X0 d2_5 rfl 7 rfl ?_
  refine o_iloadN X0 d2_7 rfl 8 rfl ?_
  refine o_icmpGe X0 d2_8 32 11 (by decide) (by decide) rfl (fun q => by exfalso; exact absurd q (by decide)) ?_
  intro hc8_1
  refine o_lloadN X0 d2_11 rfl 12 rfl ?_
  refine o_bipush (v := (8 : Int32)) X0 d2_12 rfl 14 rfl ?_
  refine o_lshl X0 d2_14 15 rfl ?_
  refine o_aloadN X0 d2_15 rfl rfl 16 rfl ?_
  refine o_iload X0 d2_16 rfl 18 rfl ?_
  refine o_baloadB X0 H0 0 rfl d2_18 2 rfl y2 rfl 19 rfl ?_
  refine o_sipush (v := (255 : Int32)) X0 d2_19 rfl 22 rfl ?_
  refine o_iand X0 d2_22 23 rfl ?_
  refine o_i2l X0 d2_23 24 rfl ?_
  refine o_lor X0 d2_24 25 rfl ?_
  refine o_lstoreN X0 d2_25 #[.val (.ref xa), .val (.int (1 : Int32)), .val (.int (3 : Int32)), .val (.long (((((0 : Int64) <<< (Int32.toInt64 (8 : Int32) &&& 63)) ||| (Int32.toInt64 (y1 &&& (255 : Int32)))) <<< (Int32.toInt64 (8 : Int32) &&& 63)) ||| (Int32.toInt64 (y2 &&& (255 : Int32))))), .second, .val (.int (2 : Int32))] rfl 26 rfl ?_
  refine o_iinc (v := (2 : Int32)) (w := (3 : Int32)) X0 d2_26 rfl rfl #[.val (.ref xa), .val (.int (1 : Int32)), .val (.int (3 : Int32)), .val (.long (((((0 : Int64) <<< (Int32.toInt64 (8 : Int32) &&& 63)) ||| (Int32.toInt64 (y1 &&& (255 : Int32)))) <<< (Int32.toInt64 (8 : Int32) &&& 63)) ||| (Int32.toInt64 (y2 &&& (255 : Int32))))), .second, .val (.int (3 : Int32))] rfl 29 rfl ?_
  refine o_goto X0 d2_29 5 (by decide) (by decide) ?_
  refine o_iload X0 d2_5 rfl 7 rfl ?_
  refine o_iloadN X0 d2_7 rfl 8 rfl ?_
  refine o_icmpGe X0 d2_8 32 11 (by decide) (by decide) rfl ?_ (fun q => by exfalso; exact absurd q (by decide))
  intro hc8_2
  refine o_lloadN X0 d2_32 rfl 33 rfl ?_
  exact o_retJ X0 d2_33 (by decide) (by decide) (hQ _ _ ⟨rfl, rfl⟩)
set_option maxRecDepth 65536 in
set_option maxHeartbeats 40000000 in
theorem c_pack_1_3 (l : Launch) (Z : State) (a0 : Array Value) (hw : ∀ d ∈ tables_1, d.before a0 Z = true) (ws : List Jvm.Cond) (n0 : Nat) (h0 : Heap) (hn0 : n0 ≤ h0.size) (xa : Addr) (y0 y1 y2 y3 y4 y5 y6 y7 y8 y9 : Int32) (L' : List (Addr × (Cell → Prop))) (H0 : OL n0 h0 ((xa, OA Z .byte [y0, y1, y2, y3, y4, y5, y6, y7, y8, y9]) :: L')) :
    OC l Z (⟨"com/example/vestbook/vestbook/member/MemberIds", "packed", "([BII)J"⟩ : MethodName) prog_68_method_8_code 6 (some .long) ws ({ frames := 0, cells := 0, slots := 0, locals := 0 } : Room) n0 #[(.ref xa), (.int (1 : Int32)), (.int (4 : Int32))] h0 (fun r h => r = some (.long (((((((0 : Int64) <<< (Int32.toInt64 (8 : Int32) &&& 63)) ||| (Int32.toInt64 (y1 &&& (255 : Int32)))) <<< (Int32.toInt64 (8 : Int32) &&& 63)) ||| (Int32.toInt64 (y2 &&& (255 : Int32)))) <<< (Int32.toInt64 (8 : Int32) &&& 63)) ||| (Int32.toInt64 (y3 &&& (255 : Int32))))) ∧ h0 = h) := by
  refine OC.of pn_1 hn0 #[.val (.ref xa), .val (.int (1 : Int32)), .val (.int (4 : Int32)), .unset, .unset, .unset] (fun m => by first | (simp [entryFrame, mkF, argsToLocals, Value.category, maxLocals]; done) | rfl) ?_
  intro p e s m below meth cd0 T0 X0 Q' hQ
  refine o_lconst (v := (0 : Int64)) X0 d2_0 rfl 1 rfl ?_
  refine o_lstoreN X0 d2_1 #[.val (.ref xa), .val (.int (1 : Int32)), .val (.int (4 : Int32)), .val (.long (0 : Int64)), .second, .unset] rfl 2 rfl ?_
  refine o_iloadN X0 d2_2 rfl 3 rfl ?_
  refine o_istore X0 d2_3 #[.val (.ref xa), .val (.int (1 : Int32)), .val (.int (4 : Int32)), .val (.long (0 : Int64)), .second, .val (.int (1 : Int32))] rfl 5 rfl ?_
  refine o_iload X0 d2_5 rfl 7 rfl ?_
  refine o_iloadN X0 d2_7 rfl 8 rfl ?_
  refine o_icmpGe X0 d2_8 32 11 (by decide) (by decide) rfl (fun q => by exfalso; exact absurd q (by decide)) ?_
  intro hc8
  refine o_lloadN X0 d2_11 rfl 12 rfl ?_
  refine o_bipush (v := (8 : Int32)) X0 d2_12 rfl 14 rfl ?_
  refine o_lshl X0 d2_14 15 rfl ?_
  refine o_aloadN X0 d2_15 rfl rfl 16 rfl ?_
  refine o_iload X0 d2_16 rfl 18 rfl ?_
  refine o_baloadB X0 H0 0 rfl d2_18 1 rfl y1 rfl 19 rfl ?_
  refine o_sipush (v := (255 : Int32)) X0 d2_19 rfl 22 rfl ?_
  refine o_iand X0 d2_22 23 rfl ?_
  refine o_i2l X0 d2_23 24 rfl ?_
  refine o_lor X0 d2_24 25 rfl ?_
  refine o_lstoreN X0 d2_25 #[.val (.ref xa), .val (.int (1 : Int32)), .val (.int (4 : Int32)), .val (.long (((0 : Int64) <<< (Int32.toInt64 (8 : Int32) &&& 63)) ||| (Int32.toInt64 (y1 &&& (255 : Int32))))), .second, .val (.int (1 : Int32))] rfl 26 rfl ?_
  refine o_iinc (v := (1 : Int32)) (w := (2 : Int32)) X0 d2_26 rfl rfl #[.val (.ref xa), .val (.int (1 : Int32)), .val (.int (4 : Int32)), .val (.long (((0 : Int64) <<< (Int32.toInt64 (8 : Int32) &&& 63)) ||| (Int32.toInt64 (y1 &&& (255 : Int32))))), .second, .val (.int (2 : Int32))] rfl 29 rfl ?_
  refine o_goto X0 d2_29 5 (by decide) (by decide) ?_
  refine o_iload X0 d2_5 rfl 7 rfl ?_
  refine o_iloadN X0 d2_7 rfl 8 rfl ?_
  refine o_icmpGe X0 d2_8 32 11 (by decide) (by decide) rfl (fun q => by exfalso; exact absurd q (by decide)) ?_
  intro hc8_1
  refine o_lloadN X0 d2_11 rfl 12 rfl ?_
  refine o_bipush (v := (8 : Int32)) X0 d2_12 rfl 14 rfl ?_
  refine o_lshl X0 d2_14 15 rfl ?_
  refine o_aloadN X0 d2_15 rfl rfl 16 rfl ?_
  refine o_iload X0 d2_16 rfl 18 rfl ?_
  refine o_baloadB X0 H0 0 rfl d2_18 2 rfl y2 rfl 19 rfl ?_
  refine o_sipush (v := (255 : Int32)) X0 d2_19 rfl 22 rfl ?_
  refine o_iand X0 d2_22 23 rfl ?_
  refine o_i2l X0 d2_23 24 rfl ?_
  refine o_lor X0 d2_24 25 rfl ?_
  refine o_lstoreN X0 d2_25 #[.val (.ref xa), .val (.int (1 : Int32)), .val (.int (4 : Int32)), .val (.long (((((0 : Int64) <<< (Int32.toInt64 (8 : Int32) &&& 63)) ||| (Int32.toInt64 (y1 &&& (255 : Int32)))) <<< (Int32.toInt64 (8 : Int32) &&& 63)) ||| (Int32.toInt64 (y2 &&& (255 : Int32))))), .second, .val (.int (2 : Int32))] rfl 26 rfl ?_
  refine o_iinc (v := (2 : Int32)) (w := (3 : Int32)) X0 d2_26 rfl rfl #[.val (.ref xa), .val (.int (1 : Int32)), .val (.int (4 : Int32)), .val (.long (((((0 : Int64) <<< (Int32.toInt64 (8 : Int32) &&& 63)) ||| (Int32.toInt64 (y1 &&& (255 : Int32)))) <<< (Int32.toInt64 (8 : Int32) &&& 63)) ||| (Int32.toInt64 (y2 &&& (255 : Int32))))), .second, .val (.int (3 : Int32))] rfl 29 rfl ?_
  refine o_goto X0 d2_29 5 (by decide) (by decide) ?_
  refine o_iload X0 d2_5 rfl 7 rfl ?_
  refine o_iloadN X0 d2_7 rfl 8 rfl ?_
  refine o_icmpGe X0 d2_8 32 11 (by decide) (by decide) rfl (fun q => by exfalso; exact absurd q (by decide)) ?_
  intro hc8_2
  refine o_lloadN X0 d2_11 rfl 12 rfl ?_
  refine o_bipush (v := (8 : Int32)) X0 d2_12 rfl 14 rfl ?_
  refine o_lshl X0 d2_14 15 rfl ?_
  refine o_aloadN X0 d2_15 rfl rfl 16 rfl ?_
  refine o_iload X0 d2_16 rfl 18 rfl ?_
  refine o_baloadB X0 H0 0 rfl d2_18 3 rfl y3 rfl 19 rfl ?_
  refine o_sipush (v := (255 : Int32)) X0 d2_19 rfl 22 rfl ?_
  refine o_iand X0 d2_22 23 rfl ?_
  refine o_i2l X0 d2_23 24 rfl ?_
  refine o_lor X0 d2_24 25 rfl ?_
  refine o_lstoreN X0 d2_25 #[.val (.ref xa), .val (.int (1 : Int32)), .val (.int (4 : Int32)), .val (.long (((((((0 : Int64) <<< (Int32.toInt64 (8 : Int32) &&& 63)) ||| (Int32.toInt64 (y1 &&& (255 : Int32)))) <<< (Int32.toInt64 (8 : Int32) &&& 63)) ||| (Int32.toInt64 (y2 &&& (255 : Int32)))) <<< (Int32.toInt64 (8 : Int32) &&& 63)) ||| (Int32.toInt64 (y3 &&& (255 : Int32))))), .second, .val (.int (3 : Int32))] rfl 26 rfl ?_
  refine o_iinc (v := (3 : Int32)) (w := (4 : Int32)) X0 d2_26 rfl rfl #[.val (.ref xa), .val (.int (1 : Int32)), .val (.int (4 : Int32)), .val (.long (((((((0 : Int64) <<< (Int32.toInt64 (8 : Int32) &&& 63)) ||| (Int32.toInt64 (y1 &&& (255 : Int32)))) <<< (Int32.toInt64 (8 : Int32) &&& 63)) ||| (Int32.toInt64 (y2 &&& (255 : Int32)))) <<< (Int32.toInt64 (8 : Int32) &&& 63)) ||| (Int32.toInt64 (y3 &&& (255 : Int32))))), .second, .val (.int (4 : Int32))] rfl 29 rfl ?_
  refine o_goto X0 d2_29 5 (by decide) (by decide) ?_
  refine o_iload X0 d2_5 rfl 7 rfl ?_
  refine o_iloadN X0 d2_7 rfl 8 rfl ?_
  refine o_icmpGe X0 d2_8 32 11 (by decide) (by decide) rfl ?_ (fun q => by exfalso; exact absurd q (by decide))
  intro hc8_3
  refine o_lloadN X0 d2_32 rfl 33 rfl ?_
  exact o_retJ X0 d2_33 (by decide) (by decide) (hQ _ _ ⟨rfl, rfl⟩)
set_option maxRecDepth 65536 in
set_option maxHeartbeats 40000000 in
theorem c_pack_1_4 (l : Launch) (Z : State) (a0 : Array Value) (hw : ∀ d ∈ tables_1, d.before a0 Z = true) (ws : List Jvm.Cond) (n0 : Nat) (h0 : Heap) (hn0 : n0 ≤ h0.size) (xa : Addr) (y0 y1 y2 y3 y4 y5 y6 y7 y8 y9 : Int32) (L' : List (Addr × (Cell → Prop))) (H0 : OL n0 h0 ((xa, OA Z .byte [y0, y1, y2, y3, y4, y5, y6, y7, y8, y9]) :: L')) :
    OC l Z (⟨"com/example/vestbook/vestbook/member/MemberIds", "packed", "([BII)J"⟩ : MethodName) prog_68_method_8_code 6 (some .long) ws ({ frames := 0, cells := 0, slots := 0, locals := 0 } : Room) n0 #[(.ref xa), (.int (1 : Int32)), (.int (5 : Int32))] h0 (fun r h => r = some (.long (((((((((0 : Int64) <<< (Int32.toInt64 (8 : Int32) &&& 63)) ||| (Int32.toInt64 (y1 &&& (255 : Int32)))) <<< (Int32.toInt64 (8 : Int32) &&& 63)) ||| (Int32.toInt64 (y2 &&& (255 : Int32)))) <<< (Int32.toInt64 (8 : Int32) &&& 63)) ||| (Int32.toInt64 (y3 &&& (255 : Int32)))) <<< (Int32.toInt64 (8 : Int32) &&& 63)) ||| (Int32.toInt64 (y4 &&& (255 : Int32))))) ∧ h0 = h) := by
  refine OC.of pn_1 hn0 #[.val (.ref xa), .val (.int (1 : Int32)), .val (.int (5 : Int32)), .unset, .unset, .unset] (fun m => by first | (simp [entryFrame, mkF, argsToLocals, Value.category, maxLocals]; done) | rfl) ?_
  intro p e s m below meth cd0 T0 X0 Q' hQ
  refine o_lconst (v := (0 : Int64)) X0 d2_0 rfl 1 rfl ?_
  refine o_lstoreN X0 d2_1 #[.val (.ref xa), .val (.int (1 : Int32)), .val (.int (5 : Int32)), .val (.long (0 : Int64)), .second, .unset] rfl 2 rfl ?_
  refine o_iloadN X0 d2_2 rfl 3 rfl ?_
  refine o_istore X0 d2_3 #[.val (.ref xa), .val (.int (1 : Int32)), .val (.int (5 : Int32)), .val (.long (0 : Int64)), .second, .val (.int (1 : Int32))] rfl 5 rfl ?_
  refine o_iload X0 d2_5 rfl 7 rfl ?_
  refine o_iloadN X0 d2_7 rfl 8 rfl ?_
  refine o_icmpGe X0 d2_8 32 11 (by decide) (by decide) rfl (fun q => by exfalso; exact absurd q (by decide)) ?_
  intro hc8
  refine o_lloadN X0 d2_11 rfl 12 rfl ?_
  refine o_bipush (v := (8 : Int32)) X0 d2_12 rfl 14 rfl ?_
  refine o_lshl X0 d2_14 15 rfl ?_
  refine o_aloadN X0 d2_15 rfl rfl 16 rfl ?_
  refine o_iload X0 d2_16 rfl 18 rfl ?_
  refine o_baloadB X0 H0 0 rfl d2_18 1 rfl y1 rfl 19 rfl ?_
  refine o_sipush (v := (255 : Int32)) X0 d2_19 rfl 22 rfl ?_
  refine o_iand X0 d2_22 23 rfl ?_
  refine o_i2l X0 d2_23 24 rfl ?_
  refine o_lor X0 d2_24 25 rfl ?_
  refine o_lstoreN X0 d2_25 #[.val (.ref xa), .val (.int (1 : Int32)), .val (.int (5 : Int32)), .val (.long (((0 : Int64) <<< (Int32.toInt64 (8 : Int32) &&& 63)) ||| (Int32.toInt64 (y1 &&& (255 : Int32))))), .second, .val (.int (1 : Int32))] rfl 26 rfl ?_
  refine o_iinc (v := (1 : Int32)) (w := (2 : Int32)) X0 d2_26 rfl rfl #[.val (.ref xa), .val (.int (1 : Int32)), .val (.int (5 : Int32)), .val (.long (((0 : Int64) <<< (Int32.toInt64 (8 : Int32) &&& 63)) ||| (Int32.toInt64 (y1 &&& (255 : Int32))))), .second, .val (.int (2 : Int32))] rfl 29 rfl ?_
  refine o_goto X0 d2_29 5 (by decide) (by decide) ?_
  refine o_iload X0 d2_5 rfl 7 rfl ?_
  refine o_iloadN X0 d2_7 rfl 8 rfl ?_
  refine o_icmpGe X0 d2_8 32 11 (by decide) (by decide) rfl (fun q => by exfalso; exact absurd q (by decide)) ?_
  intro hc8_1
  refine o_lloadN X0 d2_11 rfl 12 rfl ?_
  refine o_bipush (v := (8 : Int32)) X0 d2_12 rfl 14 rfl ?_
  refine o_lshl X0 d2_14 15 rfl ?_
  refine o_aloadN X0 d2_15 rfl rfl 16 rfl ?_
  refine o_iload X0 d2_16 rfl 18 rfl ?_
  refine o_baloadB X0 H0 0 rfl d2_18 2 rfl y2 rfl 19 rfl ?_
  refine o_sipush (v := (255 : Int32)) X0 d2_19 rfl 22 rfl ?_
  refine o_iand X0 d2_22 23 rfl ?_
  refine o_i2l X0 d2_23 24 rfl ?_
  refine o_lor X0 d2_24 25 rfl ?_
  refine o_lstoreN X0 d2_25 #[.val (.ref xa), .val (.int (1 : Int32)), .val (.int (5 : Int32)), .val (.long (((((0 : Int64) <<< (Int32.toInt64 (8 : Int32) &&& 63)) ||| (Int32.toInt64 (y1 &&& (255 : Int32)))) <<< (Int32.toInt64 (8 : Int32) &&& 63)) ||| (Int32.toInt64 (y2 &&& (255 : Int32))))), .second, .val (.int (2 : Int32))] rfl 26 rfl ?_
  refine o_iinc (v := (2 : Int32)) (w := (3 : Int32)) X0 d2_26 rfl rfl #[.val (.ref xa), .val (.int (1 : Int32)), .val (.int (5 : Int32)), .val (.long (((((0 : Int64) <<< (Int32.toInt64 (8 : Int32) &&& 63)) ||| (Int32.toInt64 (y1 &&& (255 : Int32)))) <<< (Int32.toInt64 (8 : Int32) &&& 63)) ||| (Int32.toInt64 (y2 &&& (255 : Int32))))), .second, .val (.int (3 : Int32))] rfl 29 rfl ?_
  refine o_goto X0 d2_29 5 (by decide) (by decide) ?_
  refine o_iload X0 d2_5 rfl 7 rfl ?_
  refine o_iloadN X0 d2_7 rfl 8 rfl ?_
  refine o_icmpGe X0 d2_8 32 11 (by decide) (by decide) rfl (fun q => by exfalso; exact absurd q (by decide)) ?_
  intro hc8_2
  refine o_lloadN X0 d2_11 rfl 12 rfl ?_
  refine o_bipush (v := (8 : Int32)) X0 d2_12 rfl 14 rfl ?_
  refine o_lshl X0 d2_14 15 rfl ?_
  refine o_aloadN X0 d2_15 rfl rfl 16 rfl ?_
  refine o_iload X0 d2_16 rfl 18 rfl ?_
  refine o_baloadB X0 H0 0 rfl d2_18 3 rfl y3 rfl 19 rfl ?_
  refine o_sipush (v := (255 : Int32)) X0 d2_19 rfl 22 rfl ?_
  refine o_iand X0 d2_22 23 rfl ?_
  refine o_i2l X0 d2_23 24 rfl ?_
  refine o_lor X0 d2_24 25 rfl ?_
  refine o_lstoreN X0 d2_25 #[.val (.ref xa), .val (.int (1 : Int32)), .val (.int (5 : Int32)), .val (.long (((((((0 : Int64) <<< (Int32.toInt64 (8 : Int32) &&& 63)) ||| (Int32.toInt64 (y1 &&& (255 : Int32)))) <<< (Int32.toInt64 (8 : Int32) &&& 63)) ||| (Int32.toInt64 (y2 &&& (255 : Int32)))) <<< (Int32.toInt64 (8 : Int32) &&& 63)) ||| (Int32.toInt64 (y3 &&& (255 : Int32))))), .second, .val (.int (3 : Int32))] rfl 26 rfl ?_
  refine o_iinc (v := (3 : Int32)) (w := (4 : Int32)) X0 d2_26 rfl rfl #[.val (.ref xa), .val (.int (1 : Int32)), .val (.int (5 : Int32)), .val (.long (((((((0 : Int64) <<< (Int32.toInt64 (8 : Int32) &&& 63)) ||| (Int32.toInt64 (y1 &&& (255 : Int32)))) <<< (Int32.toInt64 (8 : Int32) &&& 63)) ||| (Int32.toInt64 (y2 &&& (255 : Int32)))) <<< (Int32.toInt64 (8 : Int32) &&& 63)) ||| (Int32.toInt64 (y3 &&& (255 : Int32))))), .second, .val (.int (4 : Int32))] rfl 29 rfl ?_
  refine o_goto X0 d2_29 5 (by decide) (by decide) ?_
  refine o_iload X0 d2_5 rfl 7 rfl ?_
  refine o_iloadN X0 d2_7 rfl 8 rfl ?_
  refine o_icmpGe X0 d2_8 32 11 (by decide) (by decide) rfl (fun q => by exfalso; exact absurd q (by decide)) ?_
  intro hc8_3
  refine o_lloadN X0 d2_11 rfl 12 rfl ?_
  refine o_bipush (v := (8 : Int32)) X0 d2_12 rfl 14 rfl ?_
  refine o_lshl X0 d2_14 15 rfl ?_
  refine o_aloadN X0 d2_15 rfl rfl 16 rfl ?_
  refine o_iload X0 d2_16 rfl 18 rfl ?_
  refine o_baloadB X0 H0 0 rfl d2_18 4 rfl y4 rfl 19 rfl ?_
  refine o_sipush (v := (255 : Int32)) X0 d2_19 rfl 22 rfl ?_
  refine o_iand X0 d2_22 23 rfl ?_
  refine o_i2l X0 d2_23 24 rfl ?_
  refine o_lor X0 d2_24 25 rfl ?_
  refine o_lstoreN X0 d2_25 #[.val (.ref xa), .val (.int (1 : Int32)), .val (.int (5 : Int32)), .val (.long (((((((((0 : Int64) <<< (Int32.toInt64 (8 : Int32) &&& 63)) ||| (Int32.toInt64 (y1 &&& (255 : Int32)))) <<< (Int32.toInt64 (8 : Int32) &&& 63)) ||| (Int32.toInt64 (y2 &&& (255 : Int32)))) <<< (Int32.toInt64 (8 : Int32) &&& 63)) ||| (Int32.toInt64 (y3 &&& (255 : Int32)))) <<< (Int32.toInt64 (8 : Int32) &&& 63)) ||| (Int32.toInt64 (y4 &&& (255 : Int32))))), .second, .val (.int (4 : Int32))] rfl 26 rfl ?_
  refine o_iinc (v := (4 : Int32)) (w := (5 : Int32)) X0 d2_26 rfl rfl #[.val (.ref xa), .val (.int (1 : Int32)), .val (.int (5 : Int32)), .val (.long (((((((((0 : Int64) <<< (Int32.toInt64 (8 : Int32) &&& 63)) ||| (Int32.toInt64 (y1 &&& (255 : Int32)))) <<< (Int32.toInt64 (8 : Int32) &&& 63)) ||| (Int32.toInt64 (y2 &&& (255 : Int32)))) <<< (Int32.toInt64 (8 : Int32) &&& 63)) ||| (Int32.toInt64 (y3 &&& (255 : Int32)))) <<< (Int32.toInt64 (8 : Int32) &&& 63)) ||| (Int32.toInt64 (y4 &&& (255 : Int32))))), .second, .val (.int (5 : Int32))] rfl 29 rfl ?_
  refine o_goto X0 d2_29 5 (by decide) (by decide) ?_
  refine o_iload X0 d2_5 rfl 7 rfl ?_
  refine o_iloadN X0 d2_7 rfl 8 rfl ?_
  refine o_icmpGe X0 d2_8 32 11 (by decide) (by decide) rfl ?_ (fun q => by exfalso; exact absurd q (by decide))
  intro hc8_4
  refine o_lloadN X0 d2_32 rfl 33 rfl ?_
  exact o_retJ X0 d2_33 (by decide) (by decide) (hQ _ _ ⟨rfl, rfl⟩)
set_option maxRecDepth 65536 in
set_option maxHeartbeats 40000000 in
theorem c_pack_1_5 (l : Launch) (Z : State) (a0 : Array Value) (hw : ∀ d ∈ tables_1, d.before a0 Z = true) (ws : List Jvm.Cond) (n0 : Nat) (h0 : Heap) (hn0 : n0 ≤ h0.size) (xa : Addr) (y0 y1 y2 y3 y4 y5 y6 y7 y8 y9 : Int32) (L' : List (Addr × (Cell → Prop))) (H0 : OL n0 h0 ((xa, OA Z .byte [y0, y1, y2, y3, y4, y5, y6, y7, y8, y9]) :: L')) :
    OC l Z (⟨"com/example/vestbook/vestbook/member/MemberIds", "packed", "([BII)J"⟩ : MethodName) prog_68_method_8_code 6 (some .long) ws ({ frames := 0, cells := 0, slots := 0, locals := 0 } : Room) n0 #[(.ref xa), (.int (1 : Int32)), (.int (6 : Int32))] h0 (fun r h => r = some (.long (((((((((((0 : Int64) <<< (Int32.toInt64 (8 : Int32) &&& 63)) ||| (Int32.toInt64 (y1 &&& (255 : Int32)))) <<< (Int32.toInt64 (8 : Int32) &&& 63)) ||| (Int32.toInt64 (y2 &&& (255 : Int32)))) <<< (Int32.toInt64 (8 : Int32) &&& 63)) ||| (Int32.toInt64 (y3 &&& (255 : Int32)))) <<< (Int32.toInt64 (8 : Int32) &&& 63)) ||| (Int32.toInt64 (y4 &&& (255 : Int32)))) <<< (Int32.toInt64 (8 : Int32) &&& 63)) ||| (Int32.toInt64 (y5 &&& (255 : Int32))))) ∧ h0 = h) := by
  refine OC.of pn_1 hn0 #[.val (.ref xa), .val (.int (1 : Int32)), .val (.int (6 : Int32)), .unset, .unset, .unset] (fun m => by first | (simp [entryFrame, mkF, argsToLocals, Value.category, maxLocals]; done) | rfl) ?_
  intro p e s m below meth cd0 T0 X0 Q' hQ
  refine o_lconst (v := (0 : Int64)) X0 d2_0 rfl 1 rfl ?_
  refine o_lstoreN X0 d2_1 #[.val (.ref xa), .val (.int (1 : Int32)), .val (.int (6 : Int32)), .val (.long (0 : Int64)), .second, .unset] rfl 2 rfl ?_
  refine o_iloadN X0 d2_2 rfl 3 rfl ?_
  refine o_istore X0 d2_3 #[.val (.ref xa), .val (.int (1 : Int32)), .val (.int (6 : Int32)), .val (.long (0 : Int64)), .second, .val (.int (1 : Int32))] rfl 5 rfl ?_
  refine o_iload X0 d2_5 rfl 7 rfl ?_
  refine o_iloadN X0 d2_7 rfl 8 rfl ?_
  refine o_icmpGe X0 d2_8 32 11 (by decide) (by decide) rfl (fun q => by exfalso; exact absurd q (by decide)) ?_
  intro hc8
  refine o_lloadN X0 d2_11 rfl 12 rfl ?_
  refine o_bipush (v := (8 : Int32)) X0 d2_12 rfl 14 rfl ?_
  refine o_lshl X0 d2_14 15 rfl ?_
  refine o_aloadN X0 d2_15 rfl rfl 16 rfl ?_
  refine o_iload X0 d2_16 rfl 18 rfl ?_
  refine o_baloadB X0 H0 0 rfl d2_18 1 rfl y1 rfl 19 rfl ?_
  refine o_sipush (v := (255 : Int32)) X0 d2_19 rfl 22 rfl ?_
  refine o_iand X0 d2_22 23 rfl ?_
  refine o_i2l X0 d2_23 24 rfl ?_
  refine o_lor X0 d2_24 25 rfl ?_
  refine o_lstoreN X0 d2_25 #[.val (.ref xa), .val (.int (1 : Int32)), .val (.int (6 : Int32)), .val (.long (((0 : Int64) <<< (Int32.toInt64 (8 : Int32) &&& 63)) ||| (Int32.toInt64 (y1 &&& (255 : Int32))))), .second, .val (.int (1 : Int32))] rfl 26 rfl ?_
  refine o_iinc (v := (1 : Int32)) (w := (2 : Int32)) X0 d2_26 rfl rfl #[.val (.ref xa), .val (.int (1 : Int32)), .val (.int (6 : Int32)), .val (.long (((0 : Int64) <<< (Int32.toInt64 (8 : Int32) &&& 63)) ||| (Int32.toInt64 (y1 &&& (255 : Int32))))), .second, .val (.int (2 : Int32))] rfl 29 rfl ?_
  refine o_goto X0 d2_29 5 (by decide) (by decide) ?_
  refine o_iload X0 d2_5 rfl 7 rfl ?_
  refine o_iloadN X0 d2_7 rfl 8 rfl ?_
  refine o_icmpGe X0 d2_8 32 11 (by decide) (by decide) rfl (fun q => by exfalso; exact absurd q (by decide)) ?_
  intro hc8_1
  refine o_lloadN X0 d2_11 rfl 12 rfl ?_
  refine o_bipush (v := (8 : Int32)) X0 d2_12 rfl 14 rfl ?_
  refine o_lshl X0 d2_14 15 rfl ?_
  refine o_aloadN X0 d2_15 rfl rfl 16 rfl ?_
  refine o_iload X0 d2_16 rfl 18 rfl ?_
  refine o_baloadB X0 H0 0 rfl d2_18 2 rfl y2 rfl 19 rfl ?_
  refine o_sipush (v := (255 : Int32)) X0 d2_19 rfl 22 rfl ?_
  refine o_iand X0 d2_22 23 rfl ?_
  refine o_i2l X0 d2_23 24 rfl ?_
  refine o_lor X0 d2_24 25 rfl ?_
  refine o_lstoreN X0 d2_25 #[.val (.ref xa), .val (.int (1 : Int32)), .val (.int (6 : Int32)), .val (.long (((((0 : Int64) <<< (Int32.toInt64 (8 : Int32) &&& 63)) ||| (Int32.toInt64 (y1 &&& (255 : Int32)))) <<< (Int32.toInt64 (8 : Int32) &&& 63)) ||| (Int32.toInt64 (y2 &&& (255 : Int32))))), .second, .val (.int (2 : Int32))] rfl 26 rfl ?_
  refine o_iinc (v := (2 : Int32)) (w := (3 : Int32)) X0 d2_26 rfl rfl #[.val (.ref xa), .val (.int (1 : Int32)), .val (.int (6 : Int32)), .val (.long (((((0 : Int64) <<< (Int32.toInt64 (8 : Int32) &&& 63)) ||| (Int32.toInt64 (y1 &&& (255 : Int32)))) <<< (Int32.toInt64 (8 : Int32) &&& 63)) ||| (Int32.toInt64 (y2 &&& (255 : Int32))))), .second, .val (.int (3 : Int32))] rfl 29 rfl ?_
  refine o_goto X0 d2_29 5 (by decide) (by decide) ?_
  refine o_iload X0 d2_5 rfl 7 rfl ?_
  refine o_iloadN X0 d2_7 rfl 8 rfl ?_
  refine o_icmpGe X0 d2_8 32 11 (by decide) (by decide) rfl (fun q => by exfalso; exact absurd q (by decide)) ?_
  intro hc8_2
  refine o_lloadN X0 d2_11 rfl 12 rfl ?_
  refine o_bipush (v := (8 : Int32)) X0 d2_12 rfl 14 rfl ?_
  refine o_lshl X0 d2_14 15 rfl ?_
  refine o_aloadN X0 d2_15 rfl rfl 16 rfl ?_
  refine o_iload X0 d2_16 rfl 18 rfl ?_
  refine o_baloadB X0 H0 0 rfl d2_18 3 rfl y3 rfl 19 rfl ?_
  refine o_sipush (v := (255 : Int32)) X0 d2_19 rfl 22 rfl ?_
  refine o_iand X0 d2_22 23 rfl ?_
  refine o_i2l X0 d2_23 24 rfl ?_
  refine o_lor X0 d2_24 25 rfl ?_
  refine o_lstoreN X0 d2_25 #[.val (.ref xa), .val (.int (1 : Int32)), .val (.int (6 : Int32)), .val (.long (((((((0 : Int64) <<< (Int32.toInt64 (8 : Int32) &&& 63)) ||| (Int32.toInt64 (y1 &&& (255 : Int32)))) <<< (Int32.toInt64 (8 : Int32) &&& 63)) ||| (Int32.toInt64 (y2 &&& (255 : Int32)))) <<< (Int32.toInt64 (8 : Int32) &&& 63)) ||| (Int32.toInt64 (y3 &&& (255 : Int32))))), .second, .val (.int (3 : Int32))] rfl 26 rfl ?_
  refine o_iinc (v := (3 : Int32)) (w := (4 : Int32)) X0 d2_26 rfl rfl #[.val (.ref xa), .val (.int (1 : Int32)), .val (.int (6 : Int32)), .val (.long (((((((0 : Int64) <<< (Int32.toInt64 (8 : Int32) &&& 63)) ||| (Int32.toInt64 (y1 &&& (255 : Int32)))) <<< (Int32.toInt64 (8 : Int32) &&& 63)) ||| (Int32.toInt64 (y2 &&& (255 : Int32)))) <<< (Int32.toInt64 (8 : Int32) &&& 63)) ||| (Int32.toInt64 (y3 &&& (255 : Int32))))), .second, .val (.int (4 : Int32))] rfl 29 rfl ?_
  refine o_goto X0 d2_29 5 (by decide) (by decide) ?_
  refine o_iload X0 d2_5 rfl 7 rfl ?_
  refine o_iloadN X0 d2_7 rfl 8 rfl ?_
  refine o_icmpGe X0 d2_8 32 11 (by decide) (by decide) rfl (fun q => by exfalso; exact absurd q (by decide)) ?_
  intro hc8_3
  refine o_lloadN X0 d2_11 rfl 12 rfl ?_
  refine o_bipush (v := (8 : Int32)) X0 d2_12 rfl 14 rfl ?_
  refine o_lshl X0 d2_14 15 rfl ?_
  refine o_aloadN X0 d2_15 rfl rfl 16 rfl ?_
  refine o_iload X0 d2_16 rfl 18 rfl ?_
  refine o_baloadB X0 H0 0 rfl d2_18 4 rfl y4 rfl 19 rfl ?_
  refine o_sipush (v := (255 : Int32)) X0 d2_19 rfl 22 rfl ?_
  refine o_iand X0 d2_22 23 rfl ?_
  refine o_i2l X0 d2_23 24 rfl ?_
  refine o_lor X0 d2_24 25 rfl ?_
  refine o_lstoreN X0 d2_25 #[.val (.ref xa), .val (.int (1 : Int32)), .val (.int (6 : Int32)), .val (.long (((((((((0 : Int64) <<< (Int32.toInt64 (8 : Int32) &&& 63)) ||| (Int32.toInt64 (y1 &&& (255 : Int32)))) <<< (Int32.toInt64 (8 : Int32) &&& 63)) ||| (Int32.toInt64 (y2 &&& (255 : Int32)))) <<< (Int32.toInt64 (8 : Int32) &&& 63)) ||| (Int32.toInt64 (y3 &&& (255 : Int32)))) <<< (Int32.toInt64 (8 : Int32) &&& 63)) ||| (Int32.toInt64 (y4 &&& (255 : Int32))))), .second, .val (.int (4 : Int32))] rfl 26 rfl ?_
  refine o_iinc (v := (4 : Int32)) (w := (5 : Int32)) X0 d2_26 rfl rfl #[.val (.ref xa), .val (.int (1 : Int32)), .val (.int (6 : Int32)), .val (.long (((((((((0 : Int64) <<< (Int32.toInt64 (8 : Int32) &&& 63)) ||| (Int32.toInt64 (y1 &&& (255 : Int32)))) <<< (Int32.toInt64 (8 : Int32) &&& 63)) ||| (Int32.toInt64 (y2 &&& (255 : Int32)))) <<< (Int32.toInt64 (8 : Int32) &&& 63)) ||| (Int32.toInt64 (y3 &&& (255 : Int32)))) <<< (Int32.toInt64 (8 : Int32) &&& 63)) ||| (Int32.toInt64 (y4 &&& (255 : Int32))))), .second, .val (.int (5 : Int32))] rfl 29 rfl ?_
  refine o_goto X0 d2_29 5 (by decide) (by decide) ?_
  refine o_iload X0 d2_5 rfl 7 rfl ?_
  refine o_iloadN X0 d2_7 rfl 8 rfl ?_
  refine o_icmpGe X0 d2_8 32 11 (by decide) (by decide) rfl (fun q => by exfalso; exact absurd q (by decide)) ?_
  intro hc8_4
  refine o_lloadN X0 d2_11 rfl 12 rfl ?_
  refine o_bipush (v := (8 : Int32)) X0 d2_12 rfl 14 rfl ?_
  refine o_lshl X0 d2_14 15 rfl ?_
  refine o_aloadN X0 d2_15 rfl rfl 16 rfl ?_
  refine o_iload X0 d2_16 rfl 18 rfl ?_
  refine o_baloadB X0 H0 0 rfl d2_18 5 rfl y5 rfl 19 rfl ?_
  refine o_sipush (v := (255 : Int32)) X0 d2_19 rfl 22 rfl ?_
  refine o_iand X0 d2_22 23 rfl ?_
  refine o_i2l X0 d2_23 24 rfl ?_
  refine o_lor X0 d2_24 25 rfl ?_
  refine o_lstoreN X0 d2_25 #[.val (.ref xa), .val (.int (1 : Int32)), .val (.int (6 : Int32)), .val (.long (((((((((((0 : Int64) <<< (Int32.toInt64 (8 : Int32) &&& 63)) ||| (Int32.toInt64 (y1 &&& (255 : Int32)))) <<< (Int32.toInt64 (8 : Int32) &&& 63)) ||| (Int32.toInt64 (y2 &&& (255 : Int32)))) <<< (Int32.toInt64 (8 : Int32) &&& 63)) ||| (Int32.toInt64 (y3 &&& (255 : Int32)))) <<< (Int32.toInt64 (8 : Int32) &&& 63)) ||| (Int32.toInt64 (y4 &&& (255 : Int32)))) <<< (Int32.toInt64 (8 : Int32) &&& 63)) ||| (Int32.toInt64 (y5 &&& (255 : Int32))))), .second, .val (.int (5 : Int32))] rfl 26 rfl ?_
  refine o_iinc (v := (5 : Int32)) (w := (6 : Int32)) X0 d2_26 rfl rfl #[.val (.ref xa), .val (.int (1 : Int32)), .val (.int (6 : Int32)), .val (.long (((((((((((0 : Int64) <<< (Int32.toInt64 (8 : Int32) &&& 63)) ||| (Int32.toInt64 (y1 &&& (255 : Int32)))) <<< (Int32.toInt64 (8 : Int32) &&& 63)) ||| (Int32.toInt64 (y2 &&& (255 : Int32)))) <<< (Int32.toInt64 (8 : Int32) &&& 63)) ||| (Int32.toInt64 (y3 &&& (255 : Int32)))) <<< (Int32.toInt64 (8 : Int32) &&& 63)) ||| (Int32.toInt64 (y4 &&& (255 : Int32)))) <<< (Int32.toInt64 (8 : Int32) &&& 63)) ||| (Int32.toInt64 (y5 &&& (255 : Int32))))), .second, .val (.int (6 : Int32))] rfl 29 rfl ?_
  refine o_goto X0 d2_29 5 (by decide) (by decide) ?_
  refine o_iload X0 d2_5 rfl 7 rfl ?_
  refine o_iloadN X0 d2_7 rfl 8 rfl ?_
  refine o_icmpGe X0 d2_8 32 11 (by decide) (by decide) rfl ?_ (fun q => by exfalso; exact absurd q (by decide))
  intro hc8_5
  refine o_lloadN X0 d2_32 rfl 33 rfl ?_
  exact o_retJ X0 d2_33 (by decide) (by decide) (hQ _ _ ⟨rfl, rfl⟩)
set_option maxRecDepth 65536 in
set_option maxHeartbeats 40000000 in
theorem c_pack_1_6 (l : Launch) (Z : State) (a0 : Array Value) (hw : ∀ d ∈ tables_1, d.before a0 Z = true) (ws : List Jvm.Cond) (n0 : Nat) (h0 : Heap) (hn0 : n0 ≤ h0.size) (xa : Addr) (y0 y1 y2 y3 y4 y5 y6 y7 y8 y9 : Int32) (L' : List (Addr × (Cell → Prop))) (H0 : OL n0 h0 ((xa, OA Z .byte [y0, y1, y2, y3, y4, y5, y6, y7, y8, y9]) :: L')) :
    OC l Z (⟨"com/example/vestbook/vestbook/member/MemberIds", "packed", "([BII)J"⟩ : MethodName) prog_68_method_8_code 6 (some .long) ws ({ frames := 0, cells := 0, slots := 0, locals := 0 } : Room) n0 #[(.ref xa), (.int (1 : Int32)), (.int (7 : Int32))] h0 (fun r h => r = some (.long (((((((((((((0 : Int64) <<< (Int32.toInt64 (8 : Int32) &&& 63)) ||| (Int32.toInt64 (y1 &&& (255 : Int32)))) <<< (Int32.toInt64 (8 : Int32) &&& 63)) ||| (Int32.toInt64 (y2 &&& (255 : Int32)))) <<< (Int32.toInt64 (8 : Int32) &&& 63)) ||| (Int32.toInt64 (y3 &&& (255 : Int32)))) <<< (Int32.toInt64 (8 : Int32) &&& 63)) ||| (Int32.toInt64 (y4 &&& (255 : Int32)))) <<< (Int32.toInt64 (8 : Int32) &&& 63)) ||| (Int32.toInt64 (y5 &&& (255 : Int32)))) <<< (Int32.toInt64 (8 : Int32) &&& 63)) ||| (Int32.toInt64 (y6 &&& (255 : Int32))))) ∧ h0 = h) := by
  refine OC.of pn_1 hn0 #[.val (.ref xa), .val (.int (1 : Int32)), .val (.int (7 : Int32)), .unset, .unset, .unset] (fun m => by first | (simp [entryFrame, mkF, argsToLocals, Value.category, maxLocals]; done) | rfl) ?_
  intro p e s m below meth cd0 T0 X0 Q' hQ
  refine o_lconst (v := (0 : Int64)) X0 d2_0 rfl 1 rfl ?_
  refine o_lstoreN X0 d2_1 #[.val (.ref xa), .val (.int (1 : Int32)), .val (.int (7 : Int32)), .val (.long (0 : Int64)), .second, .unset] rfl 2 rfl ?_
  refine o_iloadN X0 d2_2 rfl 3 rfl ?_
  refine o_istore X0 d2_3 #[.val (.ref xa), .val (.int (1 : Int32)), .val (.int (7 : Int32)), .val (.long (0 : Int64)), .second, .val (.int (1 : Int32))] rfl 5 rfl ?_
  refine o_iload X0 d2_5 rfl 7 rfl ?_
  refine o_iloadN X0 d2_7 rfl 8 rfl ?_
  refine o_icmpGe X0 d2_8 32 11 (by decide) (by decide) rfl (fun q => by exfalso; exact absurd q (by decide)) ?_
  intro hc8
  refine o_lloadN X0 d2_11 rfl 12 rfl ?_
  refine o_bipush (v := (8 : Int32)) X0 d2_12 rfl 14 rfl ?_
  refine o_lshl X0 d2_14 15 rfl ?_
  refine o_aloadN X0 d2_15 rfl rfl 16 rfl ?_
  refine o_iload X0 d2_16 rfl 18 rfl ?_
  refine o_baloadB X0 H0 0 rfl d2_18 1 rfl y1 rfl 19 rfl ?_
  refine o_sipush (v := (255 : Int32)) X0 d2_19 rfl 22 rfl ?_
  refine o_iand X0 d2_22 23 rfl ?_
  refine o_i2l X0 d2_23 24 rfl ?_
  refine o_lor X0 d2_24 25 rfl ?_
  refine o_lstoreN X0 d2_25 #[.val (.ref xa), .val (.int (1 : Int32)), .val (.int (7 : Int32)), .val (.long (((0 : Int64) <<< (Int32.toInt64 (8 : Int32) &&& 63)) ||| (Int32.toInt64 (y1 &&& (255 : Int32))))), .second, .val (.int (1 : Int32))] rfl 26 rfl ?_
  refine o_iinc (v := (1 : Int32)) (w := (2 : Int32)) X0 d2_26 rfl rfl #[.val (.ref xa), .val (.int (1 : Int32)), .val (.int (7 : Int32)), .val (.long (((0 : Int64) <<< (Int32.toInt64 (8 : Int32) &&& 63)) ||| (Int32.toInt64 (y1 &&& (255 : Int32))))), .second, .val (.int (2 : Int32))] rfl 29 rfl ?_
  refine o_goto X0 d2_29 5 (by decide) (by decide) ?_
  refine o_iload X0 d2_5 rfl 7 rfl ?_
  refine o_iloadN X0 d2_7 rfl 8 rfl ?_
  refine o_icmpGe X0 d2_8 32 11 (by decide) (by decide) rfl (fun q => by exfalso; exact absurd q (by decide)) ?_
  intro hc8_1
  refine o_lloadN X0 d2_11 rfl 12 rfl ?_
  refine o_bipush (v := (8 : Int32)) X0 d2_12 rfl 14 rfl ?_
  refine o_lshl X0 d2_14 15 rfl ?_
  refine o_aloadN X0 d2_15 rfl rfl 16 rfl ?_
  refine o_iload X0 d2_16 rfl 18 rfl ?_
  refine o_baloadB X0 H0 0 rfl d2_18 2 rfl y2 rfl 19 rfl ?_
  refine o_sipush (v := (255 : Int32)) X0 d2_19 rfl 22 rfl ?_
  refine o_iand X0 d2_22 23 rfl ?_
  refine o_i2l X0 d2_23 24 rfl ?_
  refine o_lor X0 d2_24 25 rfl ?_
  refine o_lstoreN X0 d2_25 #[.val (.ref xa), .val (.int (1 : Int32)), .val (.int (7 : Int32)), .val (.long (((((0 : Int64) <<< (Int32.toInt64 (8 : Int32) &&& 63)) ||| (Int32.toInt64 (y1 &&& (255 : Int32)))) <<< (Int32.toInt64 (8 : Int32) &&& 63)) ||| (Int32.toInt64 (y2 &&& (255 : Int32))))), .second, .val (.int (2 : Int32))] rfl 26 rfl ?_
  refine o_iinc (v := (2 : Int32)) (w := (3 : Int32)) X0 d2_26 rfl rfl #[.val (.ref xa), .val (.int (1 : Int32)), .val (.int (7 : Int32)), .val (.long (((((0 : Int64) <<< (Int32.toInt64 (8 : Int32) &&& 63)) ||| (Int32.toInt64 (y1 &&& (255 : Int32)))) <<< (Int32.toInt64 (8 : Int32) &&& 63)) ||| (Int32.toInt64 (y2 &&& (255 : Int32))))), .second, .val (.int (3 : Int32))] rfl 29 rfl ?_
  refine o_goto X0 d2_29 5 (by decide) (by decide) ?_
  refine o_iload X0 d2_5 rfl 7 rfl ?_
  refine o_iloadN X0 d2_7 rfl 8 rfl ?_
  refine o_icmpGe X0 d2_8 32 11 (by decide) (by decide) rfl (fun q => by exfalso; exact absurd q (by decide)) ?_
  intro hc8_2
  refine o_lloadN X0 d2_11 rfl 12 rfl ?_
  refine o_bipush (v := (8 : Int32)) X0 d2_12 rfl 14 rfl ?_
  refine o_lshl X0 d2_14 15 rfl ?_
  refine o_aloadN X0 d2_15 rfl rfl 16 rfl ?_
  refine o_iload X0 d2_16 rfl 18 rfl ?_
  refine o_baloadB X0 H0 0 rfl d2_18 3 rfl y3 rfl 19 rfl ?_
  refine o_sipush (v := (255 : Int32)) X0 d2_19 rfl 22 rfl ?_
  refine o_iand X0 d2_22 23 rfl ?_
  refine o_i2l X0 d2_23 24 rfl ?_
  refine o_lor X0 d2_24 25 rfl ?_
  refine o_lstoreN X0 d2_25 #[.val (.ref xa), .val (.int (1 : Int32)), .val (.int (7 : Int32)), .val (.long (((((((0 : Int64) <<< (Int32.toInt64 (8 : Int32) &&& 63)) ||| (Int32.toInt64 (y1 &&& (255 : Int32)))) <<< (Int32.toInt64 (8 : Int32) &&& 63)) ||| (Int32.toInt64 (y2 &&& (255 : Int32)))) <<< (Int32.toInt64 (8 : Int32) &&& 63)) ||| (Int32.toInt64 (y3 &&& (255 : Int32))))), .second, .val (.int (3 : Int32))] rfl 26 rfl ?_
  refine o_iinc (v := (3 : Int32)) (w := (4 : Int32)) X0 d2_26 rfl rfl #[.val (.ref xa), .val (.int (1 : Int32)), .val (.int (7 : Int32)), .val (.long (((((((0 : Int64) <<< (Int32.toInt64 (8 : Int32) &&& 63)) ||| (Int32.toInt64 (y1 &&& (255 : Int32)))) <<< (Int32.toInt64 (8 : Int32) &&& 63)) ||| (Int32.toInt64 (y2 &&& (255 : Int32)))) <<< (Int32.toInt64 (8 : Int32) &&& 63)) ||| (Int32.toInt64 (y3 &&& (255 : Int32))))), .second, .val (.int (4 : Int32))] rfl 29 rfl ?_
  refine o_goto X0 d2_29 5 (by decide) (by decide) ?_
  refine o_iload X0 d2_5 rfl 7 rfl ?_
  refine o_iloadN X0 d2_7 rfl 8 rfl ?_
  refine o_icmpGe X0 d2_8 32 11 (by decide) (by decide) rfl (fun q => by exfalso; exact absurd q (by decide)) ?_
  intro hc8_3
  refine o_lloadN X0 d2_11 rfl 12 rfl ?_
  refine o_bipush (v := (8 : Int32)) X0 d2_12 rfl 14 rfl ?_
  refine o_lshl X0 d2_14 15 rfl ?_
  refine o_aloadN X0 d2_15 rfl rfl 16 rfl ?_
  refine o_iload X0 d2_16 rfl 18 rfl ?_
  refine o_baloadB X0 H0 0 rfl d2_18 4 rfl y4 rfl 19 rfl ?_
  refine o_sipush (v := (255 : Int32)) X0 d2_19 rfl 22 rfl ?_
  refine o_iand X0 d2_22 23 rfl ?_
  refine o_i2l X0 d2_23 24 rfl ?_
  refine o_lor X0 d2_24 25 rfl ?_
  refine o_lstoreN X0 d2_25 #[.val (.ref xa), .val (.int (1 : Int32)), .val (.int (7 : Int32)), .val (.long (((((((((0 : Int64) <<< (Int32.toInt64 (8 : Int32) &&& 63)) ||| (Int32.toInt64 (y1 &&& (255 : Int32)))) <<< (Int32.toInt64 (8 : Int32) &&& 63)) ||| (Int32.toInt64 (y2 &&& (255 : Int32)))) <<< (Int32.toInt64 (8 : Int32) &&& 63)) ||| (Int32.toInt64 (y3 &&& (255 : Int32)))) <<< (Int32.toInt64 (8 : Int32) &&& 63)) ||| (Int32.toInt64 (y4 &&& (255 : Int32))))), .second, .val (.int (4 : Int32))] rfl 26 rfl ?_
  refine o_iinc (v := (4 : Int32)) (w := (5 : Int32)) X0 d2_26 rfl rfl #[.val (.ref xa), .val (.int (1 : Int32)), .val (.int (7 : Int32)), .val (.long (((((((((0 : Int64) <<< (Int32.toInt64 (8 : Int32) &&& 63)) ||| (Int32.toInt64 (y1 &&& (255 : Int32)))) <<< (Int32.toInt64 (8 : Int32) &&& 63)) ||| (Int32.toInt64 (y2 &&& (255 : Int32)))) <<< (Int32.toInt64 (8 : Int32) &&& 63)) ||| (Int32.toInt64 (y3 &&& (255 : Int32)))) <<< (Int32.toInt64 (8 : Int32) &&& 63)) ||| (Int32.toInt64 (y4 &&& (255 : Int32))))), .second, .val (.int (5 : Int32))] rfl 29 rfl ?_
  refine o_goto X0 d2_29 5 (by decide) (by decide) ?_
  refine o_iload X0 d2_5 rfl 7 rfl ?_
  refine o_iloadN X0 d2_7 rfl 8 rfl ?_
  refine o_icmpGe X0 d2_8 32 11 (by decide) (by decide) rfl (fun q => by exfalso; exact absurd q (by decide)) ?_
  intro hc8_4
  refine o_lloadN X0 d2_11 rfl 12 rfl ?_
  refine o_bipush (v := (8 : Int32)) X0 d2_12 rfl 14 rfl ?_
  refine o_lshl X0 d2_14 15 rfl ?_
  refine o_aloadN X0 d2_15 rfl rfl 16 rfl ?_
  refine o_iload X0 d2_16 rfl 18 rfl ?_
  refine o_baloadB X0 H0 0 rfl d2_18 5 rfl y5 rfl 19 rfl ?_
  refine o_sipush (v := (255 : Int32)) X0 d2_19 rfl 22 rfl ?_
  refine o_iand X0 d2_22 23 rfl ?_
  refine o_i2l X0 d2_23 24 rfl ?_
  refine o_lor X0 d2_24 25 rfl ?_
  refine o_lstoreN X0 d2_25 #[.val (.ref xa), .val (.int (1 : Int32)), .val (.int (7 : Int32)), .val (.long (((((((((((0 : Int64) <<< (Int32.toInt64 (8 : Int32) &&& 63)) ||| (Int32.toInt64 (y1 &&& (255 : Int32)))) <<< (Int32.toInt64 (8 : Int32) &&& 63)) ||| (Int32.toInt64 (y2 &&& (255 : Int32)))) <<< (Int32.toInt64 (8 : Int32) &&& 63)) ||| (Int32.toInt64 (y3 &&& (255 : Int32)))) <<< (Int32.toInt64 (8 : Int32) &&& 63)) ||| (Int32.toInt64 (y4 &&& (255 : Int32)))) <<< (Int32.toInt64 (8 : Int32) &&& 63)) ||| (Int32.toInt64 (y5 &&& (255 : Int32))))), .second, .val (.int (5 : Int32))] rfl 26 rfl ?_
  refine o_iinc (v := (5 : Int32)) (w := (6 : Int32)) X0 d2_26 rfl rfl #[.val (.ref xa), .val (.int (1 : Int32)), .val (.int (7 : Int32)), .val (.long (((((((((((0 : Int64) <<< (Int32.toInt64 (8 : Int32) &&& 63)) ||| (Int32.toInt64 (y1 &&& (255 : Int32)))) <<< (Int32.toInt64 (8 : Int32) &&& 63)) ||| (Int32.toInt64 (y2 &&& (255 : Int32)))) <<< (Int32.toInt64 (8 : Int32) &&& 63)) ||| (Int32.toInt64 (y3 &&& (255 : Int32)))) <<< (Int32.toInt64 (8 : Int32) &&& 63)) ||| (Int32.toInt64 (y4 &&& (255 : Int32)))) <<< (Int32.toInt64 (8 : Int32) &&& 63)) ||| (Int32.toInt64 (y5 &&& (255 : Int32))))), .second, .val (.int (6 : Int32))] rfl 29 rfl ?_
  refine o_goto X0 d2_29 5 (by decide) (by decide) ?_
  refine o_iload X0 d2_5 rfl 7 rfl ?_
  refine o_iloadN X0 d2_7 rfl 8 rfl ?_
  refine o_icmpGe X0 d2_8 32 11 (by decide) (by decide) rfl (fun q => by exfalso; exact absurd q (by decide)) ?_
  intro hc8_5
  refine o_lloadN X0 d2_11 rfl 12 rfl ?_
  refine o_bipush (v := (8 : Int32)) X0 d2_12 rfl 14 rfl ?_
  refine o_lshl X0 d2_14 15 rfl ?_
  refine o_aloadN X0 d2_15 rfl rfl 16 rfl ?_
  refine o_iload X0 d2_16 rfl 18 rfl ?_
  refine o_baloadB X0 H0 0 rfl d2_18 6 rfl y6 rfl 19 rfl ?_
  refine o_sipush (v := (255 : Int32)) X0 d2_19 rfl 22 rfl ?_
  refine o_iand X0 d2_22 23 rfl ?_
  refine o_i2l X0 d2_23 24 rfl ?_
  refine o_lor X0 d2_24 25 rfl ?_
  refine o_lstoreN X0 d2_25 #[.val (.ref xa), .val (.int (1 : Int32)), .val (.int (7 : Int32)), .val (.long (((((((((((((0 : Int64) <<< (Int32.toInt64 (8 : Int32) &&& 63)) ||| (Int32.toInt64 (y1 &&& (255 : Int32)))) <<< (Int32.toInt64 (8 : Int32) &&& 63)) ||| (Int32.toInt64 (y2 &&& (255 : Int32)))) <<< (Int32.toInt64 (8 : Int32) &&& 63)) ||| (Int32.toInt64 (y3 &&& (255 : Int32)))) <<< (Int32.toInt64 (8 : Int32) &&& 63)) ||| (Int32.toInt64 (y4 &&& (255 : Int32)))) <<< (Int32.toInt64 (8 : Int32) &&& 63)) ||| (Int32.toInt64 (y5 &&& (255 : Int32)))) <<< (Int32.toInt64 (8 : Int32) &&& 63)) ||| (Int32.toInt64 (y6 &&& (255 : Int32))))), .second, .val (.int (6 : Int32))] rfl 26 rfl ?_
  refine o_iinc (v := (6 : Int32)) (w := (7 : Int32)) X0 d2_26 rfl rfl #[.val (.ref xa), .val (.int (1 : Int32)), .val (.int (7 : Int32)), .val (.long (((((((((((((0 : Int64) <<< (Int32.toInt64 (8 : Int32) &&& 63)) ||| (Int32.toInt64 (y1 &&& (255 : Int32)))) <<< (Int32.toInt64 (8 : Int32) &&& 63)) ||| (Int32.toInt64 (y2 &&& (255 : Int32)))) <<< (Int32.toInt64 (8 : Int32) &&& 63)) ||| (Int32.toInt64 (y3 &&& (255 : Int32)))) <<< (Int32.toInt64 (8 : Int32) &&& 63)) ||| (Int32.toInt64 (y4 &&& (255 : Int32)))) <<< (Int32.toInt64 (8 : Int32) &&& 63)) ||| (Int32.toInt64 (y5 &&& (255 : Int32)))) <<< (Int32.toInt64 (8 : Int32) &&& 63)) ||| (Int32.toInt64 (y6 &&& (255 : Int32))))), .second, .val (.int (7 : Int32))] rfl 29 rfl ?_
  refine o_goto X0 d2_29 5 (by decide) (by decide) ?_
  refine o_iload X0 d2_5 rfl 7 rfl ?_
  refine o_iloadN X0 d2_7 rfl 8 rfl ?_
  refine o_icmpGe X0 d2_8 32 11 (by decide) (by decide) rfl ?_ (fun q => by exfalso; exact absurd q (by decide))
  intro hc8_6
  refine o_lloadN X0 d2_32 rfl 33 rfl ?_
  exact o_retJ X0 d2_33 (by decide) (by decide) (hQ _ _ ⟨rfl, rfl⟩)
set_option maxRecDepth 65536 in
set_option maxHeartbeats 40000000 in
theorem c_pack_1_7 (l : Launch) (Z : State) (a0 : Array Value) (hw : ∀ d ∈ tables_1, d.before a0 Z = true) (ws : List Jvm.Cond) (n0 : Nat) (h0 : Heap) (hn0 : n0 ≤ h0.size) (xa : Addr) (y0 y1 y2 y3 y4 y5 y6 y7 y8 y9 : Int32) (L' : List (Addr × (Cell → Prop))) (H0 : OL n0 h0 ((xa, OA Z .byte [y0, y1, y2, y3, y4, y5, y6, y7, y8, y9]) :: L')) :
    OC l Z (⟨"com/example/vestbook/vestbook/member/MemberIds", "packed", "([BII)J"⟩ : MethodName) prog_68_method_8_code 6 (some .long) ws ({ frames := 0, cells := 0, slots := 0, locals := 0 } : Room) n0 #[(.ref xa), (.int (1 : Int32)), (.int (8 : Int32))] h0 (fun r h => r = some (.long (((((((((((((((0 : Int64) <<< (Int32.toInt64 (8 : Int32) &&& 63)) ||| (Int32.toInt64 (y1 &&& (255 : Int32)))) <<< (Int32.toInt64 (8 : Int32) &&& 63)) ||| (Int32.toInt64 (y2 &&& (255 : Int32)))) <<< (Int32.toInt64 (8 : Int32) &&& 63)) ||| (Int32.toInt64 (y3 &&& (255 : Int32)))) <<< (Int32.toInt64 (8 : Int32) &&& 63)) ||| (Int32.toInt64 (y4 &&& (255 : Int32)))) <<< (Int32.toInt64 (8 : Int32) &&& 63)) ||| (Int32.toInt64 (y5 &&& (255 : Int32)))) <<< (Int32.toInt64 (8 : Int32) &&& 63)) ||| (Int32.toInt64 (y6 &&& (255 : Int32)))) <<< (Int32.toInt64 (8 : Int32) &&& 63)) ||| (Int32.toInt64 (y7 &&& (255 : Int32))))) ∧ h0 = h) := by
  refine OC.of pn_1 hn0 #[.val (.ref xa), .val (.int (1 : Int32)), .val (.int (8 : Int32)), .unset, .unset, .unset] (fun m => by first | (simp [entryFrame, mkF, argsToLocals, Value.category, maxLocals]; done) | rfl) ?_
  intro p e s m below meth cd0 T0 X0 Q' hQ
  refine o_lconst (v := (0 : Int64)) X0 d2_0 rfl 1 rfl ?_
  refine o_lstoreN X0 d2_1 #[.val (.ref xa), .val (.int (1 : Int32)), .val (.int (8 : Int32)), .val (.long (0 : Int64)), .second, .unset] rfl 2 rfl ?_
  refine o_iloadN X0 d2_2 rfl 3 rfl ?_
  refine o_istore X0 d2_3 #[.val (.ref xa), .val (.int (1 : Int32)), .val (.int (8 : Int32)), .val (.long (0 : Int64)), .second, .val (.int (1 : Int32))] rfl 5 rfl ?_
  refine o_iload X0 d2_5 rfl 7 rfl ?_
  refine o_iloadN X0 d2_7 rfl 8 rfl ?_
  refine o_icmpGe X0 d2_8 32 11 (by decide) (by decide) rfl (fun q => by exfalso; exact absurd q (by decide)) ?_
  intro hc8
  refine o_lloadN X0 d2_11 rfl 12 rfl ?_
  refine o_bipush (v := (8 : Int32)) X0 d2_12 rfl 14 rfl ?_
  refine o_lshl X0 d2_14 15 rfl ?_
  refine o_aloadN X0 d2_15 rfl rfl 16 rfl ?_
  refine o_iload X0 d2_16 rfl 18 rfl ?_
  refine o_baloadB X0 H0 0 rfl d2_18 1 rfl y1 rfl 19 rfl ?_
  refine o_sipush (v := (255 : Int32)) X0 d2_19 rfl 22 rfl ?_
  refine o_iand X0 d2_22 23 rfl ?_
  refine o_i2l X0 d2_23 24 rfl ?_
  refine o_lor X0 d2_24 25 rfl ?_
  refine o_lstoreN X0 d2_25 #[.val (.ref xa), .val (.int (1 : Int32)), .val (.int (8 : Int32)), .val (.long (((0 : Int64) <<< (Int32.toInt64 (8 : Int32) &&& 63)) ||| (Int32.toInt64 (y1 &&& (255 : Int32))))), .second, .val (.int (1 : Int32))] rfl 26 rfl ?_
  refine o_iinc (v := (1 : Int32)) (w := (2 : Int32)) X0 d2_26 rfl rfl #[.val (.ref xa), .val (.int (1 : Int32)), .val (.int (8 : Int32)), .val (.long (((0 : Int64) <<< (Int32.toInt64 (8 : Int32) &&& 63)) ||| (Int32.toInt64 (y1 &&& (255 : Int32))))), .second, .val (.int (2 : Int32))] rfl 29 rfl ?_
  refine o_goto X0 d2_29 5 (by decide) (by decide) ?_
  refine o_iload X0 d2_5 rfl 7 rfl ?_
  refine o_iloadN X0 d2_7 rfl 8 rfl ?_
  refine o_icmpGe X0 d2_8 32 11 (by decide) (by decide) rfl (fun q => by exfalso; exact absurd q (by decide)) ?_
  intro hc8_1
  refine o_lloadN X0 d2_11 rfl 12 rfl ?_
  refine o_bipush (v := (8 : Int32)) X0 d2_12 rfl 14 rfl ?_
  refine o_lshl X0 d2_14 15 rfl ?_
  refine o_aloadN X0 d2_15 rfl rfl 16 rfl ?_
  refine o_iload X0 d2_16 rfl 18 rfl ?_
  refine o_baloadB X0 H0 0 rfl d2_18 2 rfl y2 rfl 19 rfl ?_
  refine o_sipush (v := (255 : Int32)) X0 d2_19 rfl 22 rfl ?_
  refine o_iand X0 d2_22 23 rfl ?_
  refine o_i2l X0 d2_23 24 rfl ?_
  refine o_lor X0 d2_24 25 rfl ?_
  refine o_lstoreN X0 d2_25 #[.val (.ref xa), .val (.int (1 : Int32)), .val (.int (8 : Int32)), .val (.long (((((0 : Int64) <<< (Int32.toInt64 (8 : Int32) &&& 63)) ||| (Int32.toInt64 (y1 &&& (255 : Int32)))) <<< (Int32.toInt64 (8 : Int32) &&& 63)) ||| (Int32.toInt64 (y2 &&& (255 : Int32))))), .second, .val (.int (2 : Int32))] rfl 26 rfl ?_
  refine o_iinc (v := (2 : Int32)) (w := (3 : Int32)) X0 d2_26 rfl rfl #[.val (.ref xa), .val (.int (1 : Int32)), .val (.int (8 : Int32)), .val (.long (((((0 : Int64) <<< (Int32.toInt64 (8 : Int32) &&& 63)) ||| (Int32.toInt64 (y1 &&& (255 : Int32)))) <<< (Int32.toInt64 (8 : Int32) &&& 63)) ||| (Int32.toInt64 (y2 &&& (255 : Int32))))), .second, .val (.int (3 : Int32))] rfl 29 rfl ?_
  refine o_goto X0 d2_29 5 (by decide) (by decide) ?_
  refine o_iload X0 d2_5 rfl 7 rfl ?_
  refine o_iloadN X0 d2_7 rfl 8 rfl ?_
  refine o_icmpGe X0 d2_8 32 11 (by decide) (by decide) rfl (fun q => by exfalso; exact absurd q (by decide)) ?_
  intro hc8_2
  refine o_lloadN X0 d2_11 rfl 12 rfl ?_
  refine o_bipush (v := (8 : Int32)) X0 d2_12 rfl 14 rfl ?_
  refine o_lshl X0 d2_14 15 rfl ?_
  refine o_aloadN X0 d2_15 rfl rfl 16 rfl ?_
  refine o_iload X0 d2_16 rfl 18 rfl ?_
  refine o_baloadB X0 H0 0 rfl d2_18 3 rfl y3 rfl 19 rfl ?_
  refine o_sipush (v := (255 : Int32)) X0 d2_19 rfl 22 rfl ?_
  refine o_iand X0 d2_22 23 rfl ?_
  refine o_i2l X0 d2_23 24 rfl ?_
  refine o_lor X0 d2_24 25 rfl ?_
  refine o_lstoreN X0 d2_25 #[.val (.ref xa), .val (.int (1 : Int32)), .val (.int (8 : Int32)), .val (.long (((((((0 : Int64) <<< (Int32.toInt64 (8 : Int32) &&& 63)) ||| (Int32.toInt64 (y1 &&& (255 : Int32)))) <<< (Int32.toInt64 (8 : Int32) &&& 63)) ||| (Int32.toInt64 (y2 &&& (255 : Int32)))) <<< (Int32.toInt64 (8 : Int32) &&& 63)) ||| (Int32.toInt64 (y3 &&& (255 : Int32))))), .second, .val (.int (3 : Int32))] rfl 26 rfl ?_
  refine o_iinc (v := (3 : Int32)) (w := (4 : Int32)) X0 d2_26 rfl rfl #[.val (.ref xa), .val (.int (1 : Int32)), .val (.int (8 : Int32)), .val (.long (((((((0 : Int64) <<< (Int32.toInt64 (8 : Int32) &&& 63)) ||| (Int32.toInt64 (y1 &&& (255 : Int32)))) <<< (Int32.toInt64 (8 : Int32) &&& 63)) ||| (Int32.toInt64 (y2 &&& (255 : Int32)))) <<< (Int32.toInt64 (8 : Int32) &&& 63)) ||| (Int32.toInt64 (y3 &&& (255 : Int32))))), .second, .val (.int (4 : Int32))] rfl 29 rfl ?_
  refine o_goto X0 d2_29 5 (by decide) (by decide) ?_
  refine o_iload X0 d2_5 rfl 7 rfl ?_
  refine o_iloadN X0 d2_7 rfl 8 rfl ?_
  refine o_icmpGe X0 d2_8 32 11 (by decide) (by decide) rfl (fun q => by exfalso; exact absurd q (by decide)) ?_
  intro hc8_3
  refine o_lloadN X0 d2_11 rfl 12 rfl ?_
  refine o_bipush (v := (8 : Int32)) X0 d2_12 rfl 14 rfl ?_
  refine o_lshl X0 d2_14 15 rfl ?_
  refine o_aloadN X0 d2_15 rfl rfl 16 rfl ?_
  refine o_iload X0 d2_16 rfl 18 rfl ?_
  refine o_baloadB X0 H0 0 rfl d2_18 4 rfl y4 rfl 19 rfl ?_
  refine o_sipush (v := (255 : Int32)) X0 d2_19 rfl 22 rfl ?_
  refine o_iand X0 d2_22 23 rfl ?_
  refine o_i2l X0 d2_23 24 rfl ?_
  refine o_lor X0 d2_24 25 rfl ?_
  refine o_lstoreN X0 d2_25 #[.val (.ref xa), .val (.int (1 : Int32)), .val (.int (8 : Int32)), .val (.long (((((((((0 : Int64) <<< (Int32.toInt64 (8 : Int32) &&& 63)) ||| (Int32.toInt64 (y1 &&& (255 : Int32)))) <<< (Int32.toInt64 (8 : Int32) &&& 63)) ||| (Int32.toInt64 (y2 &&& (255 : Int32)))) <<< (Int32.toInt64 (8 : Int32) &&& 63)) ||| (Int32.toInt64 (y3 &&& (255 : Int32)))) <<< (Int32.toInt64 (8 : Int32) &&& 63)) ||| (Int32.toInt64 (y4 &&& (255 : Int32))))), .second, .val (.int (4 : Int32))] rfl 26 rfl ?_
  refine o_iinc (v := (4 : Int32)) (w := (5 : Int32)) X0 d2_26 rfl rfl #[.val (.ref xa), .val (.int (1 : Int32)), .val (.int (8 : Int32)), .val (.long (((((((((0 : Int64) <<< (Int32.toInt64 (8 : Int32) &&& 63)) ||| (Int32.toInt64 (y1 &&& (255 : Int32)))) <<< (Int32.toInt64 (8 : Int32) &&& 63)) ||| (Int32.toInt64 (y2 &&& (255 : Int32)))) <<< (Int32.toInt64 (8 : Int32) &&& 63)) ||| (Int32.toInt64 (y3 &&& (255 : Int32)))) <<< (Int32.toInt64 (8 : Int32) &&& 63)) ||| (Int32.toInt64 (y4 &&& (255 : Int32))))), .second, .val (.int (5 : Int32))] rfl 29 rfl ?_
  refine o_goto X0 d2_29 5 (by decide) (by decide) ?_
  refine o_iload X0 d2_5 rfl 7 rfl ?_
  refine o_iloadN X0 d2_7 rfl 8 rfl ?_
  refine o_icmpGe X0 d2_8 32 11 (by decide) (by decide) rfl (fun q => by exfalso; exact absurd q (by decide)) ?_
  intro hc8_4
  refine o_lloadN X0 d2_11 rfl 12 rfl ?_
  refine o_bipush (v := (8 : Int32)) X0 d2_12 rfl 14 rfl ?_
  refine o_lshl X0 d2_14 15 rfl ?_
  refine o_aloadN X0 d2_15 rfl rfl 16 rfl ?_
  refine o_iload X0 d2_16 rfl 18 rfl ?_
  refine o_baloadB X0 H0 0 rfl d2_18 5 rfl y5 rfl 19 rfl ?_
  refine o_sipush (v := (255 : Int32)) X0 d2_19 rfl 22 rfl ?_
  refine o_iand X0 d2_22 23 rfl ?_
  refine o_i2l X0 d2_23 24 rfl ?_
  refine o_lor X0 d2_24 25 rfl ?_
  refine o_lstoreN X0 d2_25 #[.val (.ref xa), .val (.int (1 : Int32)), .val (.int (8 : Int32)), .val (.long (((((((((((0 : Int64) <<< (Int32.toInt64 (8 : Int32) &&& 63)) ||| (Int32.toInt64 (y1 &&& (255 : Int32)))) <<< (Int32.toInt64 (8 : Int32) &&& 63)) ||| (Int32.toInt64 (y2 &&& (255 : Int32)))) <<< (Int32.toInt64 (8 : Int32) &&& 63)) ||| (Int32.toInt64 (y3 &&& (255 : Int32)))) <<< (Int32.toInt64 (8 : Int32) &&& 63)) ||| (Int32.toInt64 (y4 &&& (255 : Int32)))) <<< (Int32.toInt64 (8 : Int32) &&& 63)) ||| (Int32.toInt64 (y5 &&& (255 : Int32))))), .second, .val (.int (5 : Int32))] rfl 26 rfl ?_
  refine o_iinc (v := (5 : Int32)) (w := (6 : Int32)) X0 d2_26 rfl rfl #[.val (.ref xa), .val (.int (1 : Int32)), .val (.int (8 : Int32)), .val (.long (((((((((((0 : Int64) <<< (Int32.toInt64 (8 : Int32) &&& 63)) ||| (Int32.toInt64 (y1 &&& (255 : Int32)))) <<< (Int32.toInt64 (8 : Int32) &&& 63)) ||| (Int32.toInt64 (y2 &&& (255 : Int32)))) <<< (Int32.toInt64 (8 : Int32) &&& 63)) ||| (Int32.toInt64 (y3 &&& (255 : Int32)))) <<< (Int32.toInt64 (8 : Int32) &&& 63)) ||| (Int32.toInt64 (y4 &&& (255 : Int32)))) <<< (Int32.toInt64 (8 : Int32) &&& 63)) ||| (Int32.toInt64 (y5 &&& (255 : Int32))))), .second, .val (.int (6 : Int32))] rfl 29 rfl ?_
  refine o_goto X0 d2_29 5 (by decide) (by decide) ?_
  refine o_iload X0 d2_5 rfl 7 rfl ?_
  refine o_iloadN X0 d2_7 rfl 8 rfl ?_
  refine o_icmpGe X0 d2_8 32 11 (by decide) (by decide) rfl (fun q => by exfalso; exact absurd q (by decide)) ?_
  intro hc8_5
  refine o_lloadN X0 d2_11 rfl 12 rfl ?_
  refine o_bipush (v := (8 : Int32)) X0 d2_12 rfl 14 rfl ?_
  refine o_lshl X0 d2_14 15 rfl ?_
  refine o_aloadN X0 d2_15 rfl rfl 16 rfl ?_
  refine o_iload X0 d2_16 rfl 18 rfl ?_
  refine o_baloadB X0 H0 0 rfl d2_18 6 rfl y6 rfl 19 rfl ?_
  refine o_sipush (v := (255 : Int32)) X0 d2_19 rfl 22 rfl ?_
  refine o_iand X0 d2_22 23 rfl ?_
  refine o_i2l X0 d2_23 24 rfl ?_
  refine o_lor X0 d2_24 25 rfl ?_
  refine o_lstoreN X0 d2_25 #[.val (.ref xa), .val (.int (1 : Int32)), .val (.int (8 : Int32)), .val (.long (((((((((((((0 : Int64) <<< (Int32.toInt64 (8 : Int32) &&& 63)) ||| (Int32.toInt64 (y1 &&& (255 : Int32)))) <<< (Int32.toInt64 (8 : Int32) &&& 63)) ||| (Int32.toInt64 (y2 &&& (255 : Int32)))) <<< (Int32.toInt64 (8 : Int32) &&& 63)) ||| (Int32.toInt64 (y3 &&& (255 : Int32)))) <<< (Int32.toInt64 (8 : Int32) &&& 63)) ||| (Int32.toInt64 (y4 &&& (255 : Int32)))) <<< (Int32.toInt64 (8 : Int32) &&& 63)) ||| (Int32.toInt64 (y5 &&& (255 : Int32)))) <<< (Int32.toInt64 (8 : Int32) &&& 63)) ||| (Int32.toInt64 (y6 &&& (255 : Int32))))), .second, .val (.int (6 : Int32))] rfl 26 rfl ?_
  refine o_iinc (v := (6 : Int32)) (w := (7 : Int32)) X0 d2_26 rfl rfl #[.val (.ref xa), .val (.int (1 : Int32)), .val (.int (8 : Int32)), .val (.long (((((((((((((0 : Int64) <<< (Int32.toInt64 (8 : Int32) &&& 63)) ||| (Int32.toInt64 (y1 &&& (255 : Int32)))) <<< (Int32.toInt64 (8 : Int32) &&& 63)) ||| (Int32.toInt64 (y2 &&& (255 : Int32)))) <<< (Int32.toInt64 (8 : Int32) &&& 63)) ||| (Int32.toInt64 (y3 &&& (255 : Int32)))) <<< (Int32.toInt64 (8 : Int32) &&& 63)) ||| (Int32.toInt64 (y4 &&& (255 : Int32)))) <<< (Int32.toInt64 (8 : Int32) &&& 63)) ||| (Int32.toInt64 (y5 &&& (255 : Int32)))) <<< (Int32.toInt64 (8 : Int32) &&& 63)) ||| (Int32.toInt64 (y6 &&& (255 : Int32))))), .second, .val (.int (7 : Int32))] rfl 29 rfl ?_
  refine o_goto X0 d2_29 5 (by decide) (by decide) ?_
  refine o_iload X0 d2_5 rfl 7 rfl ?_
  refine o_iloadN X0 d2_7 rfl 8 rfl ?_
  refine o_icmpGe X0 d2_8 32 11 (by decide) (by decide) rfl (fun q => by exfalso; exact absurd q (by decide)) ?_
  intro hc8_6
  refine o_lloadN X0 d2_11 rfl 12 rfl ?_
  refine o_bipush (v := (8 : Int32)) X0 d2_12 rfl 14 rfl ?_
  refine o_lshl X0 d2_14 15 rfl ?_
  refine o_aloadN X0 d2_15 rfl rfl 16 rfl ?_
  refine o_iload X0 d2_16 rfl 18 rfl ?_
  refine o_baloadB X0 H0 0 rfl d2_18 7 rfl y7 rfl 19 rfl ?_
  refine o_sipush (v := (255 : Int32)) X0 d2_19 rfl 22 rfl ?_
  refine o_iand X0 d2_22 23 rfl ?_
  refine o_i2l X0 d2_23 24 rfl ?_
  refine o_lor X0 d2_24 25 rfl ?_
  refine o_lstoreN X0 d2_25 #[.val (.ref xa), .val (.int (1 : Int32)), .val (.int (8 : Int32)), .val (.long (((((((((((((((0 : Int64) <<< (Int32.toInt64 (8 : Int32) &&& 63)) ||| (Int32.toInt64 (y1 &&& (255 : Int32)))) <<< (Int32.toInt64 (8 : Int32) &&& 63)) ||| (Int32.toInt64 (y2 &&& (255 : Int32)))) <<< (Int32.toInt64 (8 : Int32) &&& 63)) ||| (Int32.toInt64 (y3 &&& (255 : Int32)))) <<< (Int32.toInt64 (8 : Int32) &&& 63)) ||| (Int32.toInt64 (y4 &&& (255 : Int32)))) <<< (Int32.toInt64 (8 : Int32) &&& 63)) ||| (Int32.toInt64 (y5 &&& (255 : Int32)))) <<< (Int32.toInt64 (8 : Int32) &&& 63)) ||| (Int32.toInt64 (y6 &&& (255 : Int32)))) <<< (Int32.toInt64 (8 : Int32) &&& 63)) ||| (Int32.toInt64 (y7 &&& (255 : Int32))))), .second, .val (.int (7 : Int32))] rfl 26 rfl ?_
  refine o_iinc (v := (7 : Int32)) (w := (8 : Int32)) X0 d2_26 rfl rfl #[.val (.ref xa), .val (.int (1 : Int32)), .val (.int (8 : Int32)), .val (.long (((((((((((((((0 : Int64) <<< (Int32.toInt64 (8 : Int32) &&& 63)) ||| (Int32.toInt64 (y1 &&& (255 : Int32)))) <<< (Int32.toInt64 (8 : Int32) &&& 63)) ||| (Int32.toInt64 (y2 &&& (255 : Int32)))) <<< (Int32.toInt64 (8 : Int32) &&& 63)) ||| (Int32.toInt64 (y3 &&& (255 : Int32)))) <<< (Int32.toInt64 (8 : Int32) &&& 63)) ||| (Int32.toInt64 (y4 &&& (255 : Int32)))) <<< (Int32.toInt64 (8 : Int32) &&& 63)) ||| (Int32.toInt64 (y5 &&& (255 : Int32)))) <<< (Int32.toInt64 (8 : Int32) &&& 63)) ||| (Int32.toInt64 (y6 &&& (255 : Int32)))) <<< (Int32.toInt64 (8 : Int32) &&& 63)) ||| (Int32.toInt64 (y7 &&& (255 : Int32))))), .second, .val (.int (8 : Int32))] rfl 29 rfl ?_
  refine o_goto X0 d2_29 5 (by decide) (by decide) ?_
  refine o_iload X0 d2_5 rfl 7 rfl ?_
  refine o_iloadN X0 d2_7 rfl 8 rfl ?_
  refine o_icmpGe X0 d2_8 32 11 (by decide) (by decide) rfl ?_ (fun q => by exfalso; exact absurd q (by decide))
  intro hc8_7
  refine o_lloadN X0 d2_32 rfl 33 rfl ?_
  exact o_retJ X0 d2_33 (by decide) (by decide) (hQ _ _ ⟨rfl, rfl⟩)
set_option maxRecDepth 65536 in
set_option maxHeartbeats 40000000 in
theorem c_pack_1_8 (l : Launch) (Z : State) (a0 : Array Value) (hw : ∀ d ∈ tables_1, d.before a0 Z = true) (ws : List Jvm.Cond) (n0 : Nat) (h0 : Heap) (hn0 : n0 ≤ h0.size) (xa : Addr) (y0 y1 y2 y3 y4 y5 y6 y7 y8 y9 : Int32) (L' : List (Addr × (Cell → Prop))) (H0 : OL n0 h0 ((xa, OA Z .byte [y0, y1, y2, y3, y4, y5, y6, y7, y8, y9]) :: L')) :
    OC l Z (⟨"com/example/vestbook/vestbook/member/MemberIds", "packed", "([BII)J"⟩ : MethodName) prog_68_method_8_code 6 (some .long) ws ({ frames := 0, cells := 0, slots := 0, locals := 0 } : Room) n0 #[(.ref xa), (.int (1 : Int32)), (.int (9 : Int32))] h0 (fun r h => r = some (.long (((((((((((((((((0 : Int64) <<< (Int32.toInt64 (8 : Int32) &&& 63)) ||| (Int32.toInt64 (y1 &&& (255 : Int32)))) <<< (Int32.toInt64 (8 : Int32) &&& 63)) ||| (Int32.toInt64 (y2 &&& (255 : Int32)))) <<< (Int32.toInt64 (8 : Int32) &&& 63)) ||| (Int32.toInt64 (y3 &&& (255 : Int32)))) <<< (Int32.toInt64 (8 : Int32) &&& 63)) ||| (Int32.toInt64 (y4 &&& (255 : Int32)))) <<< (Int32.toInt64 (8 : Int32) &&& 63)) ||| (Int32.toInt64 (y5 &&& (255 : Int32)))) <<< (Int32.toInt64 (8 : Int32) &&& 63)) ||| (Int32.toInt64 (y6 &&& (255 : Int32)))) <<< (Int32.toInt64 (8 : Int32) &&& 63)) ||| (Int32.toInt64 (y7 &&& (255 : Int32)))) <<< (Int32.toInt64 (8 : Int32) &&& 63)) ||| (Int32.toInt64 (y8 &&& (255 : Int32))))) ∧ h0 = h) := by
  refine OC.of pn_1 hn0 #[.val (.ref xa), .val (.int (1 : Int32)), .val (.int (9 : Int32)), .unset, .unset, .unset] (fun m => by first | (simp [entryFrame, mkF, argsToLocals, Value.category, maxLocals]; done) | rfl) ?_
  intro p e s m below meth cd0 T0 X0 Q' hQ
  refine o_lconst (v := (0 : Int64)) X0 d2_0 rfl 1 rfl ?_
  refine o_lstoreN X0 d2_1 #[.val (.ref xa), .val (.int (1 : Int32)), .val (.int (9 : Int32)), .val (.long (0 : Int64)), .second, .unset] rfl 2 rfl ?_
  refine o_iloadN X0 d2_2 rfl 3 rfl ?_
  refine o_istore X0 d2_3 #[.val (.ref xa), .val (.int (1 : Int32)), .val (.int (9 : Int32)), .val (.long (0 : Int64)), .second, .val (.int (1 : Int32))] rfl 5 rfl ?_
  refine o_iload X0 d2_5 rfl 7 rfl ?_
  refine o_iloadN X0 d2_7 rfl 8 rfl ?_
  refine o_icmpGe X0 d2_8 32 11 (by decide) (by decide) rfl (fun q => by exfalso; exact absurd q (by decide)) ?_
  intro hc8
  refine o_lloadN X0 d2_11 rfl 12 rfl ?_
  refine o_bipush (v := (8 : Int32)) X0 d2_12 rfl 14 rfl ?_
  refine o_lshl X0 d2_14 15 rfl ?_
  refine o_aloadN X0 d2_15 rfl rfl 16 rfl ?_
  refine o_iload X0 d2_16 rfl 18 rfl ?_
  refine o_baloadB X0 H0 0 rfl d2_18 1 rfl y1 rfl 19 rfl ?_
  refine o_sipush (v := (255 : Int32)) X0 d2_19 rfl 22 rfl ?_
  refine o_iand X0 d2_22 23 rfl ?_
  refine o_i2l X0 d2_23 24 rfl ?_
  refine o_lor X0 d2_24 25 rfl ?_
  refine o_lstoreN X0 d2_25 #[.val (.ref xa), .val (.int (1 : Int32)), .val (.int (9 : Int32)), .val (.long (((0 : Int64) <<< (Int32.toInt64 (8 : Int32) &&& 63)) ||| (Int32.toInt64 (y1 &&& (255 : Int32))))), .second, .val (.int (1 : Int32))] rfl 26 rfl ?_
  refine o_iinc (v := (1 : Int32)) (w := (2 : Int32)) X0 d2_26 rfl rfl #[.val (.ref xa), .val (.int (1 : Int32)), .val (.int (9 : Int32)), .val (.long (((0 : Int64) <<< (Int32.toInt64 (8 : Int32) &&& 63)) ||| (Int32.toInt64 (y1 &&& (255 : Int32))))), .second, .val (.int (2 : Int32))] rfl 29 rfl ?_
  refine o_goto X0 d2_29 5 (by decide) (by decide) ?_
  refine o_iload X0 d2_5 rfl 7 rfl ?_
  refine o_iloadN X0 d2_7 rfl 8 rfl ?_
  refine o_icmpGe X0 d2_8 32 11 (by decide) (by decide) rfl (fun q => by exfalso; exact absurd q (by decide)) ?_
  intro hc8_1
  refine o_lloadN X0 d2_11 rfl 12 rfl ?_
  refine o_bipush (v := (8 : Int32)) X0 d2_12 rfl 14 rfl ?_
  refine o_lshl X0 d2_14 15 rfl ?_
  refine o_aloadN X0 d2_15 rfl rfl 16 rfl ?_
  refine o_iload X0 d2_16 rfl 18 rfl ?_
  refine o_baloadB X0 H0 0 rfl d2_18 2 rfl y2 rfl 19 rfl ?_
  refine o_sipush (v := (255 : Int32)) X0 d2_19 rfl 22 rfl ?_
  refine o_iand X0 d2_22 23 rfl ?_
  refine o_i2l X0 d2_23 24 rfl ?_
  refine o_lor X0 d2_24 25 rfl ?_
  refine o_lstoreN X0 d2_25 #[.val (.ref xa), .val (.int (1 : Int32)), .val (.int (9 : Int32)), .val (.long (((((0 : Int64) <<< (Int32.toInt64 (8 : Int32) &&& 63)) ||| (Int32.toInt64 (y1 &&& (255 : Int32)))) <<< (Int32.toInt64 (8 : Int32) &&& 63)) ||| (Int32.toInt64 (y2 &&& (255 : Int32))))), .second, .val (.int (2 : Int32))] rfl 26 rfl ?_
  refine o_iinc (v := (2 : Int32)) (w := (3 : Int32)) X0 d2_26 rfl rfl #[.val (.ref xa), .val (.int (1 : Int32)), .val (.int (9 : Int32)), .val (.long (((((0 : Int64) <<< (Int32.toInt64 (8 : Int32) &&& 63)) ||| (Int32.toInt64 (y1 &&& (255 : Int32)))) <<< (Int32.toInt64 (8 : Int32) &&& 63)) ||| (Int32.toInt64 (y2 &&& (255 : Int32))))), .second, .val (.int (3 : Int32))] rfl 29 rfl ?_
  refine o_goto X0 d2_29 5 (by decide) (by decide) ?_
  refine o_iload X0 d2_5 rfl 7 rfl ?_
  refine o_iloadN X0 d2_7 rfl 8 rfl ?_
  refine o_icmpGe X0 d2_8 32 11 (by decide) (by decide) rfl (fun q => by exfalso; exact absurd q (by decide)) ?_
  intro hc8_2
  refine o_lloadN X0 d2_11 rfl 12 rfl ?_
  refine o_bipush (v := (8 : Int32)) X0 d2_12 rfl 14 rfl ?_
  refine o_lshl X0 d2_14 15 rfl ?_
  refine o_aloadN X0 d2_15 rfl rfl 16 rfl ?_
  refine o_iload X0 d2_16 rfl 18 rfl ?_
  refine o_baloadB X0 H0 0 rfl d2_18 3 rfl y3 rfl 19 rfl ?_
  refine o_sipush (v := (255 : Int32)) X0 d2_19 rfl 22 rfl ?_
  refine o_iand X0 d2_22 23 rfl ?_
  refine o_i2l X0 d2_23 24 rfl ?_
  refine o_lor X0 d2_24 25 rfl ?_
  refine o_lstoreN X0 d2_25 #[.val (.ref xa), .val (.int (1 : Int32)), .val (.int (9 : Int32)), .val (.long (((((((0 : Int64) <<< (Int32.toInt64 (8 : Int32) &&& 63)) ||| (Int32.toInt64 (y1 &&& (255 : Int32)))) <<< (Int32.toInt64 (8 : Int32) &&& 63)) ||| (Int32.toInt64 (y2 &&& (255 : Int32)))) <<< (Int32.toInt64 (8 : Int32) &&& 63)) ||| (Int32.toInt64 (y3 &&& (255 : Int32))))), .second, .val (.int (3 : Int32))] rfl 26 rfl ?_
  refine o_iinc (v := (3 : Int32)) (w := (4 : Int32)) X0 d2_26 rfl rfl #[.val (.ref xa), .val (.int (1 : Int32)), .val (.int (9 : Int32)), .val (.long (((((((0 : Int64) <<< (Int32.toInt64 (8 : Int32) &&& 63)) ||| (Int32.toInt64 (y1 &&& (255 : Int32)))) <<< (Int32.toInt64 (8 : Int32) &&& 63)) ||| (Int32.toInt64 (y2 &&& (255 : Int32)))) <<< (Int32.toInt64 (8 : Int32) &&& 63)) ||| (Int32.toInt64 (y3 &&& (255 : Int32))))), .second, .val (.int (4 : Int32))] rfl 29 rfl ?_
  refine o_goto X0 d2_29 5 (by decide) (by decide) ?_
  refine o_iload X0 d2_5 rfl 7 rfl ?_
  refine o_iloadN X0 d2_7 rfl 8 rfl ?_
  refine o_icmpGe X0 d2_8 32 11 (by decide) (by decide) rfl (fun q => by exfalso; exact absurd q (by decide)) ?_
  intro hc8_3
  refine o_lloadN X0 d2_11 rfl 12 rfl ?_
  refine o_bipush (v := (8 : Int32)) X0 d2_12 rfl 14 rfl ?_
  refine o_lshl X0 d2_14 15 rfl ?_
  refine o_aloadN X0 d2_15 rfl rfl 16 rfl ?_
  refine o_iload X0 d2_16 rfl 18 rfl ?_
  refine o_baloadB X0 H0 0 rfl d2_18 4 rfl y4 rfl 19 rfl ?_
  refine o_sipush (v := (255 : Int32)) X0 d2_19 rfl 22 rfl ?_
  refine o_iand X0 d2_22 23 rfl ?_
  refine o_i2l X0 d2_23 24 rfl ?_
  refine o_lor X0 d2_24 25 rfl ?_
  refine o_lstoreN X0 d2_25 #[.val (.ref xa), .val (.int (1 : Int32)), .val (.int (9 : Int32)), .val (.long (((((((((0 : Int64) <<< (Int32.toInt64 (8 : Int32) &&& 63)) ||| (Int32.toInt64 (y1 &&& (255 : Int32)))) <<< (Int32.toInt64 (8 : Int32) &&& 63)) ||| (Int32.toInt64 (y2 &&& (255 : Int32)))) <<< (Int32.toInt64 (8 : Int32) &&& 63)) ||| (Int32.toInt64 (y3 &&& (255 : Int32)))) <<< (Int32.toInt64 (8 : Int32) &&& 63)) ||| (Int32.toInt64 (y4 &&& (255 : Int32))))), .second, .val (.int (4 : Int32))] rfl 26 rfl ?_
  refine o_iinc (v := (4 : Int32)) (w := (5 : Int32)) X0 d2_26 rfl rfl #[.val (.ref xa), .val (.int (1 : Int32)), .val (.int (9 : Int32)), .val (.long (((((((((0 : Int64) <<< (Int32.toInt64 (8 : Int32) &&& 63)) ||| (Int32.toInt64 (y1 &&& (255 : Int32)))) <<< (Int32.toInt64 (8 : Int32) &&& 63)) ||| (Int32.toInt64 (y2 &&& (255 : Int32)))) <<< (Int32.toInt64 (8 : Int32) &&& 63)) ||| (Int32.toInt64 (y3 &&& (255 : Int32)))) <<< (Int32.toInt64 (8 : Int32) &&& 63)) ||| (Int32.toInt64 (y4 &&& (255 : Int32))))), .second, .val (.int (5 : Int32))] rfl 29 rfl ?_
  refine o_goto X0 d2_29 5 (by decide) (by decide) ?_
  refine o_iload X0 d2_5 rfl 7 rfl ?_
  refine o_iloadN X0 d2_7 rfl 8 rfl ?_
  refine o_icmpGe X0 d2_8 32 11 (by decide) (by decide) rfl (fun q => by exfalso; exact absurd q (by decide)) ?_
  intro hc8_4
  refine o_lloadN X0 d2_11 rfl 12 rfl ?_
  refine o_bipush (v := (8 : Int32)) X0 d2_12 rfl 14 rfl ?_
  refine o_lshl X0 d2_14 15 rfl ?_
  refine o_aloadN X0 d2_15 rfl rfl 16 rfl ?_
  refine o_iload X0 d2_16 rfl 18 rfl ?_
  refine o_baloadB X0 H0 0 rfl d2_18 5 rfl y5 rfl 19 rfl ?_
  refine o_sipush (v := (255 : Int32)) X0 d2_19 rfl 22 rfl ?_
  refine o_iand X0 d2_22 23 rfl ?_
  refine o_i2l X0 d2_23 24 rfl ?_
  refine o_lor X0 d2_24 25 rfl ?_
  refine o_lstoreN X0 d2_25 #[.val (.ref xa), .val (.int (1 : Int32)), .val (.int (9 : Int32)), .val (.long (((((((((((0 : Int64) <<< (Int32.toInt64 (8 : Int32) &&& 63)) ||| (Int32.toInt64 (y1 &&& (255 : Int32)))) <<< (Int32.toInt64 (8 : Int32) &&& 63)) ||| (Int32.toInt64 (y2 &&& (255 : Int32)))) <<< (Int32.toInt64 (8 : Int32) &&& 63)) ||| (Int32.toInt64 (y3 &&& (255 : Int32)))) <<< (Int32.toInt64 (8 : Int32) &&& 63)) ||| (Int32.toInt64 (y4 &&& (255 : Int32)))) <<< (Int32.toInt64 (8 : Int32) &&& 63)) ||| (Int32.toInt64 (y5 &&& (255 : Int32))))), .second, .val (.int (5 : Int32))] rfl 26 rfl ?_
  refine o_iinc (v := (5 : Int32)) (w := (6 : Int32)) X0 d2_26 rfl rfl #[.val (.ref xa), .val (.int (1 : Int32)), .val (.int (9 : Int32)), .val (.long (((((((((((0 : Int64) <<< (Int32.toInt64 (8 : Int32) &&& 63)) ||| (Int32.toInt64 (y1 &&& (255 : Int32)))) <<< (Int32.toInt64 (8 : Int32) &&& 63)) ||| (Int32.toInt64 (y2 &&& (255 : Int32)))) <<< (Int32.toInt64 (8 : Int32) &&& 63)) ||| (Int32.toInt64 (y3 &&& (255 : Int32)))) <<< (Int32.toInt64 (8 : Int32) &&& 63)) ||| (Int32.toInt64 (y4 &&& (255 : Int32)))) <<< (Int32.toInt64 (8 : Int32) &&& 63)) ||| (Int32.toInt64 (y5 &&& (255 : Int32))))), .second, .val (.int (6 : Int32))] rfl 29 rfl ?_
  refine o_goto X0 d2_29 5 (by decide) (by decide) ?_
  refine o_iload X0 d2_5 rfl 7 rfl ?_
  refine o_iloadN X0 d2_7 rfl 8 rfl ?_
  refine o_icmpGe X0 d2_8 32 11 (by decide) (by decide) rfl (fun q => by exfalso; exact absurd q (by decide)) ?_
  intro hc8_5
  refine o_lloadN X0 d2_11 rfl 12 rfl ?_
  refine o_bipush (v := (8 : Int32)) X0 d2_12 rfl 14 rfl ?_
  refine o_lshl X0 d2_14 15 rfl ?_
  refine o_aloadN X0 d2_15 rfl rfl 16 rfl ?_
  refine o_iload X0 d2_16 rfl 18 rfl ?_
  refine o_baloadB X0 H0 0 rfl d2_18 6 rfl y6 rfl 19 rfl ?_
  refine o_sipush (v := (255 : Int32)) X0 d2_19 rfl 22 rfl ?_
  refine o_iand X0 d2_22 23 rfl ?_
  refine o_i2l X0 d2_23 24 rfl ?_
  refine o_lor X0 d2_24 25 rfl ?_
  refine o_lstoreN X0 d2_25 #[.val (.ref xa), .val (.int (1 : Int32)), .val (.int (9 : Int32)), .val (.long (((((((((((((0 : Int64) <<< (Int32.toInt64 (8 : Int32) &&& 63)) ||| (Int32.toInt64 (y1 &&& (255 : Int32)))) <<< (Int32.toInt64 (8 : Int32) &&& 63)) ||| (Int32.toInt64 (y2 &&& (255 : Int32)))) <<< (Int32.toInt64 (8 : Int32) &&& 63)) ||| (Int32.toInt64 (y3 &&& (255 : Int32)))) <<< (Int32.toInt64 (8 : Int32) &&& 63)) ||| (Int32.toInt64 (y4 &&& (255 : Int32)))) <<< (Int32.toInt64 (8 : Int32) &&& 63)) ||| (Int32.toInt64 (y5 &&& (255 : Int32)))) <<< (Int32.toInt64 (8 : Int32) &&& 63)) ||| (Int32.toInt64 (y6 &&& (255 : Int32))))), .second, .val (.int (6 : Int32))] rfl 26 rfl ?_
  refine o_iinc (v := (6 : Int32)) (w := (7 : Int32)) X0 d2_26 rfl rfl #[.val (.ref xa), .val (.int (1 : Int32)), .val (.int (9 : Int32)), .val (.long (((((((((((((0 : Int64) <<< (Int32.toInt64 (8 : Int32) &&& 63)) ||| (Int32.toInt64 (y1 &&& (255 : Int32)))) <<< (Int32.toInt64 (8 : Int32) &&& 63)) ||| (Int32.toInt64 (y2 &&& (255 : Int32)))) <<< (Int32.toInt64 (8 : Int32) &&& 63)) ||| (Int32.toInt64 (y3 &&& (255 : Int32)))) <<< (Int32.toInt64 (8 : Int32) &&& 63)) ||| (Int32.toInt64 (y4 &&& (255 : Int32)))) <<< (Int32.toInt64 (8 : Int32) &&& 63)) ||| (Int32.toInt64 (y5 &&& (255 : Int32)))) <<< (Int32.toInt64 (8 : Int32) &&& 63)) ||| (Int32.toInt64 (y6 &&& (255 : Int32))))), .second, .val (.int (7 : Int32))] rfl 29 rfl ?_
  refine o_goto X0 d2_29 5 (by decide) (by decide) ?_
  refine o_iload X0 d2_5 rfl 7 rfl ?_
  refine o_iloadN X0 d2_7 rfl 8 rfl ?_
  refine o_icmpGe X0 d2_8 32 11 (by decide) (by decide) rfl (fun q => by exfalso; exact absurd q (by decide)) ?_
  intro hc8_6
  refine o_lloadN X0 d2_11 rfl 12 rfl ?_
  refine o_bipush (v := (8 : Int32)) X0 d2_12 rfl 14 rfl ?_
  refine o_lshl X0 d2_14 15 rfl ?_
  refine o_aloadN X0 d2_15 rfl rfl 16 rfl ?_
  refine o_iload X0 d2_16 rfl 18 rfl ?_
  refine o_baloadB X0 H0 0 rfl d2_18 7 rfl y7 rfl 19 rfl ?_
  refine o_sipush (v := (255 : Int32)) X0 d2_19 rfl 22 rfl ?_
  refine o_iand X0 d2_22 23 rfl ?_
  refine o_i2l X0 d2_23 24 rfl ?_
  refine o_lor X0 d2_24 25 rfl ?_
  refine o_lstoreN X0 d2_25 #[.val (.ref xa), .val (.int (1 : Int32)), .val (.int (9 : Int32)), .val (.long (((((((((((((((0 : Int64) <<< (Int32.toInt64 (8 : Int32) &&& 63)) ||| (Int32.toInt64 (y1 &&& (255 : Int32)))) <<< (Int32.toInt64 (8 : Int32) &&& 63)) ||| (Int32.toInt64 (y2 &&& (255 : Int32)))) <<< (Int32.toInt64 (8 : Int32) &&& 63)) ||| (Int32.toInt64 (y3 &&& (255 : Int32)))) <<< (Int32.toInt64 (8 : Int32) &&& 63)) ||| (Int32.toInt64 (y4 &&& (255 : Int32)))) <<< (Int32.toInt64 (8 : Int32) &&& 63)) ||| (Int32.toInt64 (y5 &&& (255 : Int32)))) <<< (Int32.toInt64 (8 : Int32) &&& 63)) ||| (Int32.toInt64 (y6 &&& (255 : Int32)))) <<< (Int32.toInt64 (8 : Int32) &&& 63)) ||| (Int32.toInt64 (y7 &&& (255 : Int32))))), .second, .val (.int (7 : Int32))] rfl 26 rfl ?_
  refine o_iinc (v := (7 : Int32)) (w := (8 : Int32)) X0 d2_26 rfl rfl #[.val (.ref xa), .val (.int (1 : Int32)), .val (.int (9 : Int32)), .val (.long (((((((((((((((0 : Int64) <<< (Int32.toInt64 (8 : Int32) &&& 63)) ||| (Int32.toInt64 (y1 &&& (255 : Int32)))) <<< (Int32.toInt64 (8 : Int32) &&& 63)) ||| (Int32.toInt64 (y2 &&& (255 : Int32)))) <<< (Int32.toInt64 (8 : Int32) &&& 63)) ||| (Int32.toInt64 (y3 &&& (255 : Int32)))) <<< (Int32.toInt64 (8 : Int32) &&& 63)) ||| (Int32.toInt64 (y4 &&& (255 : Int32)))) <<< (Int32.toInt64 (8 : Int32) &&& 63)) ||| (Int32.toInt64 (y5 &&& (255 : Int32)))) <<< (Int32.toInt64 (8 : Int32) &&& 63)) ||| (Int32.toInt64 (y6 &&& (255 : Int32)))) <<< (Int32.toInt64 (8 : Int32) &&& 63)) ||| (Int32.toInt64 (y7 &&& (255 : Int32))))), .second, .val (.int (8 : Int32))] rfl 29 rfl ?_
  refine o_goto X0 d2_29 5 (by decide) (by decide) ?_
  refine o_iload X0 d2_5 rfl 7 rfl ?_
  refine o_iloadN X0 d2_7 rfl 8 rfl ?_
  refine o_icmpGe X0 d2_8 32 11 (by decide) (by decide) rfl (fun q => by exfalso; exact absurd q (by decide)) ?_
  intro hc8_7
  refine o_lloadN X0 d2_11 rfl 12 rfl ?_
  refine o_bipush (v := (8 : Int32)) X0 d2_12 rfl 14 rfl ?_
  refine o_lshl X0 d2_14 15 rfl ?_
  refine o_aloadN X0 d2_15 rfl rfl 16 rfl ?_
  refine o_iload X0 d2_16 rfl 18 rfl ?_
  refine o_baloadB X0 H0 0 rfl d2_18 8 rfl y8 rfl 19 rfl ?_
  refine o_sipush (v := (255 : Int32)) X0 d2_19 rfl 22 rfl ?_
  refine o_iand X0 d2_22 23 rfl ?_
  refine o_i2l X0 d2_23 24 rfl ?_
  refine o_lor X0 d2_24 25 rfl ?_
  refine o_lstoreN X0 d2_25 #[.val (.ref xa), .val (.int (1 : Int32)), .val (.int (9 : Int32)), .val (.long (((((((((((((((((0 : Int64) <<< (Int32.toInt64 (8 : Int32) &&& 63)) ||| (Int32.toInt64 (y1 &&& (255 : Int32)))) <<< (Int32.toInt64 (8 : Int32) &&& 63)) ||| (Int32.toInt64 (y2 &&& (255 : Int32)))) <<< (Int32.toInt64 (8 : Int32) &&& 63)) ||| (Int32.toInt64 (y3 &&& (255 : Int32)))) <<< (Int32.toInt64 (8 : Int32) &&& 63)) ||| (Int32.toInt64 (y4 &&& (255 : Int32)))) <<< (Int32.toInt64 (8 : Int32) &&& 63)) ||| (Int32.toInt64 (y5 &&& (255 : Int32)))) <<< (Int32.toInt64 (8 : Int32) &&& 63)) ||| (Int32.toInt64 (y6 &&& (255 : Int32)))) <<< (Int32.toInt64 (8 : Int32) &&& 63)) ||| (Int32.toInt64 (y7 &&& (255 : Int32)))) <<< (Int32.toInt64 (8 : Int32) &&& 63)) ||| (Int32.toInt64 (y8 &&& (255 : Int32))))), .second, .val (.int (8 : Int32))] rfl 26 rfl ?_
  refine o_iinc (v := (8 : Int32)) (w := (9 : Int32)) X0 d2_26 rfl rfl #[.val (.ref xa), .val (.int (1 : Int32)), .val (.int (9 : Int32)), .val (.long (((((((((((((((((0 : Int64) <<< (Int32.toInt64 (8 : Int32) &&& 63)) ||| (Int32.toInt64 (y1 &&& (255 : Int32)))) <<< (Int32.toInt64 (8 : Int32) &&& 63)) ||| (Int32.toInt64 (y2 &&& (255 : Int32)))) <<< (Int32.toInt64 (8 : Int32) &&& 63)) ||| (Int32.toInt64 (y3 &&& (255 : Int32)))) <<< (Int32.toInt64 (8 : Int32) &&& 63)) ||| (Int32.toInt64 (y4 &&& (255 : Int32)))) <<< (Int32.toInt64 (8 : Int32) &&& 63)) ||| (Int32.toInt64 (y5 &&& (255 : Int32)))) <<< (Int32.toInt64 (8 : Int32) &&& 63)) ||| (Int32.toInt64 (y6 &&& (255 : Int32)))) <<< (Int32.toInt64 (8 : Int32) &&& 63)) ||| (Int32.toInt64 (y7 &&& (255 : Int32)))) <<< (Int32.toInt64 (8 : Int32) &&& 63)) ||| (Int32.toInt64 (y8 &&& (255 : Int32))))), .second, .val (.int (9 : Int32))] rfl 29 rfl ?_
  refine o_goto X0 d2_29 5 (by decide) (by decide) ?_
  refine o_iload X0 d2_5 rfl 7 rfl ?_
  refine o_iloadN X0 d2_7 rfl 8 rfl ?_
  refine o_icmpGe X0 d2_8 32 11 (by decide) (by decide) rfl ?_ (fun q => by exfalso; exact absurd q (by decide))
  intro hc8_8
  refine o_lloadN X0 d2_32 rfl 33 rfl ?_
  exact o_retJ X0 d2_33 (by decide) (by decide) (hQ _ _ ⟨rfl, rfl⟩)
set_option maxRecDepth 65536 in
set_option maxHeartbeats 40000000 in
theorem c_pack_2_0 (l : Launch) (Z : State) (a0 : Array Value) (hw : ∀ d ∈ tables_1, d.before a0 Z = true) (ws : List Jvm.Cond) (n0 : Nat) (h0 : Heap) (hn0 : n0 ≤ h0.size) (xa : Addr) (y0 y1 y2 y3 y4 y5 y6 y7 y8 y9 : Int32) (L' : List (Addr × (Cell → Prop))) (H0 : OL n0 h0 ((xa, OA Z .byte [y0, y1, y2, y3, y4, y5, y6, y7, y8, y9]) :: L')) :
    OC l Z (⟨"com/example/vestbook/vestbook/member/MemberIds", "packed", "([BII)J"⟩ : MethodName) prog_68_method_8_code 6 (some .long) ws ({ frames := 0, cells := 0, slots := 0, locals := 0 } : Room) n0 #[(.ref xa), (.int (2 : Int32)), (.int (2 : Int32))] h0 (fun r h => r = some (.long (0 : Int64)) ∧ h0 = h) := by
  refine OC.of pn_1 hn0 #[.val (.ref xa), .val (.int (2 : Int32)), .val (.int (2 : Int32)), .unset, .unset, .unset] (fun m => by first | (simp [entryFrame, mkF, argsToLocals, Value.category, maxLocals]; done) | rfl) ?_
  intro p e s m below meth cd0 T0 X0 Q' hQ
  refine o_lconst (v := (0 : Int64)) X0 d2_0 rfl 1 rfl ?_
  refine o_lstoreN X0 d2_1 #[.val (.ref xa), .val (.int (2 : Int32)), .val (.int (2 : Int32)), .val (.long (0 : Int64)), .second, .unset] rfl 2 rfl ?_
  refine o_iloadN X0 d2_2 rfl 3 rfl ?_
  refine o_istore X0 d2_3 #[.val (.ref xa), .val (.int (2 : Int32)), .val (.int (2 : Int32)), .val (.long (0 : Int64)), .second, .val (.int (2 : Int32))] rfl 5 rfl ?_
  refine o_iload X0 d2_5 rfl 7 rfl ?_
  refine o_iloadN X0 d2_7 rfl 8 rfl ?_
  refine o_icmpGe X0 d2_8 32 11 (by decide) (by decide) rfl ?_ (fun q => by exfalso; exact absurd q (by decide))
  intro hc8
  refine o_lloadN X0 d2_32 rfl 33 rfl ?_
  exact o_retJ X0 d2_33 (by decide) (by decide) (hQ _ _ ⟨rfl, rfl⟩)
set_option maxRecDepth 65536 in
set_option maxHeartbeats 40000000 in
theorem c_pack_2_1 (l : Launch) (Z : State) (a0 : Array Value) (hw : ∀ d ∈ tables_1, d.before a0 Z = true) (ws : List Jvm.Cond) (n0 : Nat) (h0 : Heap) (hn0 : n0 ≤ h0.size) (xa : Addr) (y0 y1 y2 y3 y4 y5 y6 y7 y8 y9 : Int32) (L' : List (Addr × (Cell → Prop))) (H0 : OL n0 h0 ((xa, OA Z .byte [y0, y1, y2, y3, y4, y5, y6, y7, y8, y9]) :: L')) :
    OC l Z (⟨"com/example/vestbook/vestbook/member/MemberIds", "packed", "([BII)J"⟩ : MethodName) prog_68_method_8_code 6 (some .long) ws ({ frames := 0, cells := 0, slots := 0, locals := 0 } : Room) n0 #[(.ref xa), (.int (2 : Int32)), (.int (3 : Int32))] h0 (fun r h => r = some (.long (((0 : Int64) <<< (Int32.toInt64 (8 : Int32) &&& 63)) ||| (Int32.toInt64 (y2 &&& (255 : Int32))))) ∧ h0 = h) := by
  refine OC.of pn_1 hn0 #[.val (.ref xa), .val (.int (2 : Int32)), .val (.int (3 : Int32)), .unset, .unset, .unset] (fun m => by first | (simp [entryFrame, mkF, argsToLocals, Value.category, maxLocals]; done) | rfl) ?_
  intro p e s m below meth cd0 T0 X0 Q' hQ
  refine o_lconst (v := (0 : Int64)) X0 d2_0 rfl 1 rfl ?_
  refine o_lstoreN X0 d2_1 #[.val (.ref xa), .val (.int (2 : Int32)), .val (.int (3 : Int32)), .val (.long (0 : Int64)), .second, .unset] rfl 2 rfl ?_
  refine o_iloadN X0 d2_2 rfl 3 rfl ?_
  refine o_istore X0 d2_3 #[.val (.ref xa), .val (.int (2 : Int32)), .val (.int (3 : Int32)), .val (.long (0 : Int64)), .second, .val (.int (2 : Int32))] rfl 5 rfl ?_
  refine o_iload X0 d2_5 rfl 7 rfl ?_
  refine o_iloadN X0 d2_7 rfl 8 rfl ?_
  refine o_icmpGe X0 d2_8 32 11 (by decide) (by decide) rfl (fun q => by exfalso; exact absurd q (by decide)) ?_
  intro hc8
  refine o_lloadN X0 d2_11 rfl 12 rfl ?_
  refine o_bipush (v := (8 : Int32)) X0 d2_12 rfl 14 rfl ?_
  refine o_lshl X0 d2_14 15 rfl ?_
  refine o_aloadN X0 d2_15 rfl rfl 16 rfl ?_
  refine o_iload X0 d2_16 rfl 18 rfl ?_
  refine o_baloadB X0 H0 0 rfl d2_18 2 rfl y2 rfl 19 rfl ?_
  refine o_sipush (v := (255 : Int32)) X0 d2_19 rfl 22 rfl ?_
  refine o_iand X0 d2_22 23 rfl ?_
  refine o_i2l X0 d2_23 24 rfl ?_
  refine o_lor X0 d2_24 25 rfl ?_
  refine o_lstoreN X0 d2_25 #[.val (.ref xa), .val (.int (2 : Int32)), .val (.int (3 : Int32)), .val (.long (((0 : Int64) <<< (Int32.toInt64 (8 : Int32) &&& 63)) ||| (Int32.toInt64 (y2 &&& (255 : Int32))))), .second, .val (.int (2 : Int32))] rfl 26 rfl ?_
  refine o_iinc (v := (2 : Int32)) (w := (3 : Int32)) X0 d2_26 rfl rfl #[.val (.ref xa), .val (.int (2 : Int32)), .val (.int (3 : Int32)), .val (.long (((0 : Int64) <<< (Int32.toInt64 (8 : Int32) &&& 63)) ||| (Int32.toInt64 (y2 &&& (255 : Int32))))), .second, .val (.int (3 : Int32))] rfl 29 rfl ?_
  refine o_goto X0 d2_29 5 (by decide) (by decide) ?_
  refine o_iload X0 d2_5 rfl 7 rfl ?_
  refine o_iloadN X0 d2_7 rfl 8 rfl ?_
  refine o_icmpGe X0 d2_8 32 11 (by decide) (by decide) rfl ?_ (fun q => by exfalso; exact absurd q (by decide))
  intro hc8_1
  refine o_lloadN X0 d2_32 rfl 33 rfl ?_
  exact o_retJ X0 d2_33 (by decide) (by decide) (hQ _ _ ⟨rfl, rfl⟩)
set_option maxRecDepth 65536 in
set_option maxHeartbeats 40000000 in
theorem c_pack_2_2 (l : Launch) (Z : State) (a0 : Array Value) (hw : ∀ d ∈ tables_1, d.before a0 Z = true) (ws : List Jvm.Cond) (n0 : Nat) (h0 : Heap) (hn0 : n0 ≤ h0.size) (xa : Addr) (y0 y1 y2 y3 y4 y5 y6 y7 y8 y9 : Int32) (L' : List (Addr × (Cell → Prop))) (H0 : OL n0 h0 ((xa, OA Z .byte [y0, y1, y2, y3, y4, y5, y6, y7, y8, y9]) :: L')) :
    OC l Z (⟨"com/example/vestbook/vestbook/member/MemberIds", "packed", "([BII)J"⟩ : MethodName) prog_68_method_8_code 6 (some .long) ws ({ frames := 0, cells := 0, slots := 0, locals := 0 } : Room) n0 #[(.ref xa), (.int (2 : Int32)), (.int (4 : Int32))] h0 (fun r h => r = some (.long (((((0 : Int64) <<< (Int32.toInt64 (8 : Int32) &&& 63)) ||| (Int32.toInt64 (y2 &&& (255 : Int32)))) <<< (Int32.toInt64 (8 : Int32) &&& 63)) ||| (Int32.toInt64 (y3 &&& (255 : Int32))))) ∧ h0 = h) := by
  refine OC.of pn_1 hn0 #[.val (.ref xa), .val (.int (2 : Int32)), .val (.int (4 : Int32)), .unset, .unset, .unset] (fun m => by first | (simp [entryFrame, mkF, argsToLocals, Value.category, maxLocals]; done) | rfl) ?_
  intro p e s m below meth cd0 T0 X0 Q' hQ
  refine o_lconst (v := (0 : Int64)) X0 d2_0 rfl 1 rfl ?_
  refine o_lstoreN X0 d2_1 #[.val (.ref xa), .val (.int (2 : Int32)), .val (.int (4 : Int32)), .val (.long (0 : Int64)), .second, .unset] rfl 2 rfl ?_
  refine o_iloadN X0 d2_2 rfl 3 rfl ?_
  refine o_istore X0 d2_3 #[.val (.ref xa), .val (.int (2 : Int32)), .val (.int (4 : Int32)), .val (.long (0 : Int64)), .second, .val (.int (2 : Int32))] rfl 5 rfl ?_
  refine o_iload X0 d2_5 rfl 7 rfl ?_
  refine o_iloadN X0 d2_7 rfl 8 rfl ?_
  refine o_icmpGe X0 d2_8 32 11 (by decide) (by decide) rfl (fun q => by exfalso; exact absurd q (by decide)) ?_
  intro hc8
  refine o_lloadN X0 d2_11 rfl 12 rfl ?_
  refine o_bipush (v := (8 : Int32)) X0 d2_12 rfl 14 rfl ?_
  refine o_lshl X0 d2_14 15 rfl ?_
  refine o_aloadN X0 d2_15 rfl rfl 16 rfl ?_
  refine o_iload X0 d2_16 rfl 18 rfl ?_
  refine o_baloadB X0 H0 0 rfl d2_18 2 rfl y2 rfl 19 rfl ?_
  refine o_sipush (v := (255 : Int32)) X0 d2_19 rfl 22 rfl ?_
  refine o_iand X0 d2_22 23 rfl ?_
  refine o_i2l X0 d2_23 24 rfl ?_
  refine o_lor X0 d2_24 25 rfl ?_
  refine o_lstoreN X0 d2_25 #[.val (.ref xa), .val (.int (2 : Int32)), .val (.int (4 : Int32)), .val (.long (((0 : Int64) <<< (Int32.toInt64 (8 : Int32) &&& 63)) ||| (Int32.toInt64 (y2 &&& (255 : Int32))))), .second, .val (.int (2 : Int32))] rfl 26 rfl ?_
  refine o_iinc (v := (2 : Int32)) (w := (3 : Int32)) X0 d2_26 rfl rfl #[.val (.ref xa), .val (.int (2 : Int32)), .val (.int (4 : Int32)), .val (.long (((0 : Int64) <<< (Int32.toInt64 (8 : Int32) &&& 63)) ||| (Int32.toInt64 (y2 &&& (255 : Int32))))), .second, .val (.int (3 : Int32))] rfl 29 rfl ?_
  refine o_goto X0 d2_29 5 (by decide) (by decide) ?_
  refine o_iload X0 d2_5 rfl 7 rfl ?_
  refine o_iloadN X0 d2_7 rfl 8 rfl ?_
  refine o_icmpGe X0 d2_8 32 11 (by decide) (by decide) rfl (fun q => by exfalso; exact absurd q (by decide)) ?_
  intro hc8_1
  refine o_lloadN X0 d2_11 rfl 12 rfl ?_
  refine o_bipush (v := (8 : Int32)) X0 d2_12 rfl 14 rfl ?_
  refine o_lshl X0 d2_14 15 rfl ?_
  refine o_aloadN X0 d2_15 rfl rfl 16 rfl ?_
  refine o_iload X0 d2_16 rfl 18 rfl ?_
  refine o_baloadB X0 H0 0 rfl d2_18 3 rfl y3 rfl 19 rfl ?_
  refine o_sipush (v := (255 : Int32)) X0 d2_19 rfl 22 rfl ?_
  refine o_iand X0 d2_22 23 rfl ?_
  refine o_i2l X0 d2_23 24 rfl ?_
  refine o_lor X0 d2_24 25 rfl ?_
  refine o_lstoreN X0 d2_25 #[.val (.ref xa), .val (.int (2 : Int32)), .val (.int (4 : Int32)), .val (.long (((((0 : Int64) <<< (Int32.toInt64 (8 : Int32) &&& 63)) ||| (Int32.toInt64 (y2 &&& (255 : Int32)))) <<< (Int32.toInt64 (8 : Int32) &&& 63)) ||| (Int32.toInt64 (y3 &&& (255 : Int32))))), .second, .val (.int (3 : Int32))] rfl 26 rfl ?_
  refine o_iinc (v := (3 : Int32)) (w := (4 : Int32)) X0 d2_26 rfl rfl #[.val (.ref xa), .val (.int (2 : Int32)), .val (.int (4 : Int32)), .val (.long (((((0 : Int64) <<< (Int32.toInt64 (8 : Int32) &&& 63)) ||| (Int32.toInt64 (y2 &&& (255 : Int32)))) <<< (Int32.toInt64 (8 : Int32) &&& 63)) ||| (Int32.toInt64 (y3 &&& (255 : Int32))))), .second, .val (.int (4 : Int32))] rfl 29 rfl ?_
  refine o_goto X0 d2_29 5 (by decide) (by decide) ?_
  refine o_iload X0 d2_5 rfl 7 rfl ?_
  refine o_iloadN X0 d2_7 rfl 8 rfl ?_
  refine o_icmpGe X0 d2_8 32 11 (by decide) (by decide) rfl ?_ (fun q => by exfalso; exact absurd q (by decide))
  intro hc8_2
  refine o_lloadN X0 d2_32 rfl 33 rfl ?_
  exact o_retJ X0 d2_33 (by decide) (by decide) (hQ _ _ ⟨rfl, rfl⟩)
set_option maxRecDepth 65536 in
set_option maxHeartbeats 40000000 in
theorem c_pack_2_3 (l : Launch) (Z : State) (a0 : Array Value) (hw : ∀ d ∈ tables_1, d.before a0 Z = true) (ws : List Jvm.Cond) (n0 : Nat) (h0 : Heap) (hn0 : n0 ≤ h0.size) (xa : Addr) (y0 y1 y2 y3 y4 y5 y6 y7 y8 y9 : Int32) (L' : List (Addr × (Cell → Prop))) (H0 : OL n0 h0 ((xa, OA Z .byte [y0, y1, y2, y3, y4, y5, y6, y7, y8, y9]) :: L')) :
    OC l Z (⟨"com/example/vestbook/vestbook/member/MemberIds", "packed", "([BII)J"⟩ : MethodName) prog_68_method_8_code 6 (some .long) ws ({ frames := 0, cells := 0, slots := 0, locals := 0 } : Room) n0 #[(.ref xa), (.int (2 : Int32)), (.int (5 : Int32))] h0 (fun r h => r = some (.long (((((((0 : Int64) <<< (Int32.toInt64 (8 : Int32) &&& 63)) ||| (Int32.toInt64 (y2 &&& (255 : Int32)))) <<< (Int32.toInt64 (8 : Int32) &&& 63)) ||| (Int32.toInt64 (y3 &&& (255 : Int32)))) <<< (Int32.toInt64 (8 : Int32) &&& 63)) ||| (Int32.toInt64 (y4 &&& (255 : Int32))))) ∧ h0 = h) := by
  refine OC.of pn_1 hn0 #[.val (.ref xa), .val (.int (2 : Int32)), .val (.int (5 : Int32)), .unset, .unset, .unset] (fun m => by first | (simp [entryFrame, mkF, argsToLocals, Value.category, maxLocals]; done) | rfl) ?_
  intro p e s m below meth cd0 T0 X0 Q' hQ
  refine o_lconst (v := (0 : Int64)) X0 d2_0 rfl 1 rfl ?_
  refine o_lstoreN X0 d2_1 #[.val (.ref xa), .val (.int (2 : Int32)), .val (.int (5 : Int32)), .val (.long (0 : Int64)), .second, .unset] rfl 2 rfl ?_
  refine o_iloadN X0 d2_2 rfl 3 rfl ?_
  refine o_istore X0 d2_3 #[.val (.ref xa), .val (.int (2 : Int32)), .val (.int (5 : Int32)), .val (.long (0 : Int64)), .second, .val (.int (2 : Int32))] rfl 5 rfl ?_
  refine o_iload X0 d2_5 rfl 7 rfl ?_
  refine o_iloadN X0 d2_7 rfl 8 rfl ?_
  refine o_icmpGe X0 d2_8 32 11 (by decide) (by decide) rfl (fun q => by exfalso; exact absurd q (by decide)) ?_
  intro hc8
  refine o_lloadN X0 d2_11 rfl 12 rfl ?_
  refine o_bipush (v := (8 : Int32)) X0 d2_12 rfl 14 rfl ?_
  refine o_lshl X0 d2_14 15 rfl ?_
  refine o_aloadN X0 d2_15 rfl rfl 16 rfl ?_
  refine o_iload X0 d2_16 rfl 18 rfl ?_
  refine o_baloadB X0 H0 0 rfl d2_18 2 rfl y2 rfl 19 rfl ?_
  refine o_sipush (v := (255 : Int32)) X0 d2_19 rfl 22 rfl ?_
  refine o_iand X0 d2_22 23 rfl ?_
  refine o_i2l X0 d2_23 24 rfl ?_
  refine o_lor X0 d2_24 25 rfl ?_
  refine o_lstoreN X0 d2_25 #[.val (.ref xa), .val (.int (2 : Int32)), .val (.int (5 : Int32)), .val (.long (((0 : Int64) <<< (Int32.toInt64 (8 : Int32) &&& 63)) ||| (Int32.toInt64 (y2 &&& (255 : Int32))))), .second, .val (.int (2 : Int32))] rfl 26 rfl ?_
  refine o_iinc (v := (2 : Int32)) (w := (3 : Int32)) X0 d2_26 rfl rfl #[.val (.ref xa), .val (.int (2 : Int32)), .val (.int (5 : Int32)), .val (.long (((0 : Int64) <<< (Int32.toInt64 (8 : Int32) &&& 63)) ||| (Int32.toInt64 (y2 &&& (255 : Int32))))), .second, .val (.int (3 : Int32))] rfl 29 rfl ?_
  refine o_goto X0 d2_29 5 (by decide) (by decide) ?_
  refine o_iload X0 d2_5 rfl 7 rfl ?_
  refine o_iloadN X0 d2_7 rfl 8 rfl ?_
  refine o_icmpGe X0 d2_8 32 11 (by decide) (by decide) rfl (fun q => by exfalso; exact absurd q (by decide)) ?_
  intro hc8_1
  refine o_lloadN X0 d2_11 rfl 12 rfl ?_
  refine o_bipush (v := (8 : Int32)) X0 d2_12 rfl 14 rfl ?_
  refine o_lshl X0 d2_14 15 rfl ?_
  refine o_aloadN X0 d2_15 rfl rfl 16 rfl ?_
  refine o_iload X0 d2_16 rfl 18 rfl ?_
  refine o_baloadB X0 H0 0 rfl d2_18 3 rfl y3 rfl 19 rfl ?_
  refine o_sipush (v := (255 : Int32)) X0 d2_19 rfl 22 rfl ?_
  refine o_iand X0 d2_22 23 rfl ?_
  refine o_i2l X0 d2_23 24 rfl ?_
  refine o_lor X0 d2_24 25 rfl ?_
  refine o_lstoreN X0 d2_25 #[.val (.ref xa), .val (.int (2 : Int32)), .val (.int (5 : Int32)), .val (.long (((((0 : Int64) <<< (Int32.toInt64 (8 : Int32) &&& 63)) ||| (Int32.toInt64 (y2 &&& (255 : Int32)))) <<< (Int32.toInt64 (8 : Int32) &&& 63)) ||| (Int32.toInt64 (y3 &&& (255 : Int32))))), .second, .val (.int (3 : Int32))] rfl 26 rfl ?_
  refine o_iinc (v := (3 : Int32)) (w := (4 : Int32)) X0 d2_26 rfl rfl #[.val (.ref xa), .val (.int (2 : Int32)), .val (.int (5 : Int32)), .val (.long (((((0 : Int64) <<< (Int32.toInt64 (8 : Int32) &&& 63)) ||| (Int32.toInt64 (y2 &&& (255 : Int32)))) <<< (Int32.toInt64 (8 : Int32) &&& 63)) ||| (Int32.toInt64 (y3 &&& (255 : Int32))))), .second, .val (.int (4 : Int32))] rfl 29 rfl ?_
  refine o_goto X0 d2_29 5 (by decide) (by decide) ?_
  refine o_iload X0 d2_5 rfl 7 rfl ?_
  refine o_iloadN X0 d2_7 rfl 8 rfl ?_
  refine o_icmpGe X0 d2_8 32 11 (by decide) (by decide) rfl (fun q => by exfalso; exact absurd q (by decide)) ?_
  intro hc8_2
  refine o_lloadN X0 d2_11 rfl 12 rfl ?_
  refine o_bipush (v := (8 : Int32)) X0 d2_12 rfl 14 rfl ?_
  refine o_lshl X0 d2_14 15 rfl ?_
  refine o_aloadN X0 d2_15 rfl rfl 16 rfl ?_
  refine o_iload X0 d2_16 rfl 18 rfl ?_
  refine o_baloadB X0 H0 0 rfl d2_18 4 rfl y4 rfl 19 rfl ?_
  refine o_sipush (v := (255 : Int32)) X0 d2_19 rfl 22 rfl ?_
  refine o_iand X0 d2_22 23 rfl ?_
  refine o_i2l X0 d2_23 24 rfl ?_
  refine o_lor X0 d2_24 25 rfl ?_
  refine o_lstoreN X0 d2_25 #[.val (.ref xa), .val (.int (2 : Int32)), .val (.int (5 : Int32)), .val (.long (((((((0 : Int64) <<< (Int32.toInt64 (8 : Int32) &&& 63)) ||| (Int32.toInt64 (y2 &&& (255 : Int32)))) <<< (Int32.toInt64 (8 : Int32) &&& 63)) ||| (Int32.toInt64 (y3 &&& (255 : Int32)))) <<< (Int32.toInt64 (8 : Int32) &&& 63)) ||| (Int32.toInt64 (y4 &&& (255 : Int32))))), .second, .val (.int (4 : Int32))] rfl 26 rfl ?_
  refine o_iinc (v := (4 : Int32)) (w := (5 : Int32)) X0 d2_26 rfl rfl #[.val (.ref xa), .val (.int (2 : Int32)), .val (.int (5 : Int32)), .val (.long (((((((0 : Int64) <<< (Int32.toInt64 (8 : Int32) &&& 63)) ||| (Int32.toInt64 (y2 &&& (255 : Int32)))) <<< (Int32.toInt64 (8 : Int32) &&& 63)) ||| (Int32.toInt64 (y3 &&& (255 : Int32)))) <<< (Int32.toInt64 (8 : Int32) &&& 63)) ||| (Int32.toInt64 (y4 &&& (255 : Int32))))), .second, .val (.int (5 : Int32))] rfl 29 rfl ?_
  refine o_goto X0 d2_29 5 (by decide) (by decide) ?_
  refine o_iload X0 d2_5 rfl 7 rfl ?_
  refine o_iloadN X0 d2_7 rfl 8 rfl ?_
  refine o_icmpGe X0 d2_8 32 11 (by decide) (by decide) rfl ?_ (fun q => by exfalso; exact absurd q (by decide))
  intro hc8_3
  refine o_lloadN X0 d2_32 rfl 33 rfl ?_
  exact o_retJ X0 d2_33 (by decide) (by decide) (hQ _ _ ⟨rfl, rfl⟩)
set_option maxRecDepth 65536 in
set_option maxHeartbeats 40000000 in
theorem c_pack_2_4 (l : Launch) (Z : State) (a0 : Array Value) (hw : ∀ d ∈ tables_1, d.before a0 Z = true) (ws : List Jvm.Cond) (n0 : Nat) (h0 : Heap) (hn0 : n0 ≤ h0.size) (xa : Addr) (y0 y1 y2 y3 y4 y5 y6 y7 y8 y9 : Int32) (L' : List (Addr × (Cell → Prop))) (H0 : OL n0 h0 ((xa, OA Z .byte [y0, y1, y2, y3, y4, y5, y6, y7, y8, y9]) :: L')) :
    OC l Z (⟨"com/example/vestbook/vestbook/member/MemberIds", "packed", "([BII)J"⟩ : MethodName) prog_68_method_8_code 6 (some .long) ws ({ frames := 0, cells := 0, slots := 0, locals := 0 } : Room) n0 #[(.ref xa), (.int (2 : Int32)), (.int (6 : Int32))] h0 (fun r h => r = some (.long (((((((((0 : Int64) <<< (Int32.toInt64 (8 : Int32) &&& 63)) ||| (Int32.toInt64 (y2 &&& (255 : Int32)))) <<< (Int32.toInt64 (8 : Int32) &&& 63)) ||| (Int32.toInt64 (y3 &&& (255 : Int32)))) <<< (Int32.toInt64 (8 : Int32) &&& 63)) ||| (Int32.toInt64 (y4 &&& (255 : Int32)))) <<< (Int32.toInt64 (8 : Int32) &&& 63)) ||| (Int32.toInt64 (y5 &&& (255 : Int32))))) ∧ h0 = h) := by
  refine OC.of pn_1 hn0 #[.val (.ref xa), .val (.int (2 : Int32)), .val (.int (6 : Int32)), .unset, .unset, .unset] (fun m => by first | (simp [entryFrame, mkF, argsToLocals, Value.category, maxLocals]; done) | rfl) ?_
  intro p e s m below meth cd0 T0 X0 Q' hQ
  refine o_lconst (v := (0 : Int64)) X0 d2_0 rfl 1 rfl ?_
  refine o_lstoreN X0 d2_1 #[.val (.ref xa), .val (.int (2 : Int32)), .val (.int (6 : Int32)), .val (.long (0 : Int64)), .second, .unset] rfl 2 rfl ?_
  refine o_iloadN X0 d2_2 rfl 3 rfl ?_
  refine o_istore X0 d2_3 #[.val (.ref xa), .val (.int (2 : Int32)), .val (.int (6 : Int32)), .val (.long (0 : Int64)), .second, .val (.int (2 : Int32))] rfl 5 rfl ?_
  refine o_iload X0 d2_5 rfl 7 rfl ?_
  refine o_iloadN X0 d2_7 rfl 8 rfl ?_
  refine o_icmpGe X0 d2_8 32 11 (by decide) (by decide) rfl (fun q => by exfalso; exact absurd q (by decide)) ?_
  intro hc8
  refine o_lloadN X0 d2_11 rfl 12 rfl ?_
  refine o_bipush (v := (8 : Int32)) X0 d2_12 rfl 14 rfl ?_
  refine o_lshl X0 d2_14 15 rfl ?_
  refine o_aloadN X0 d2_15 rfl rfl 16 rfl ?_
  refine o_iload X0 d2_16 rfl 18 rfl ?_
  refine o_baloadB X0 H0 0 rfl d2_18 2 rfl y2 rfl 19 rfl ?_
  refine o_sipush (v := (255 : Int32)) X0 d2_19 rfl 22 rfl ?_
  refine o_iand X0 d2_22 23 rfl ?_
  refine o_i2l X0 d2_23 24 rfl ?_
  refine o_lor X0 d2_24 25 rfl ?_
  refine o_lstoreN X0 d2_25 #[.val (.ref xa), .val (.int (2 : Int32)), .val (.int (6 : Int32)), .val (.long (((0 : Int64) <<< (Int32.toInt64 (8 : Int32) &&& 63)) ||| (Int32.toInt64 (y2 &&& (255 : Int32))))), .second, .val (.int (2 : Int32))] rfl 26 rfl ?_
  refine o_iinc (v := (2 : Int32)) (w := (3 : Int32)) X0 d2_26 rfl rfl #[.val (.ref xa), .val (.int (2 : Int32)), .val (.int (6 : Int32)), .val (.long (((0 : Int64) <<< (Int32.toInt64 (8 : Int32) &&& 63)) ||| (Int32.toInt64 (y2 &&& (255 : Int32))))), .second, .val (.int (3 : Int32))] rfl 29 rfl ?_
  refine o_goto X0 d2_29 5 (by decide) (by decide) ?_
  refine o_iload X0 d2_5 rfl 7 rfl ?_
  refine o_iloadN X0 d2_7 rfl 8 rfl ?_
  refine o_icmpGe X0 d2_8 32 11 (by decide) (by decide) rfl (fun q => by exfalso; exact absurd q (by decide)) ?_
  intro hc8_1
  refine o_lloadN X0 d2_11 rfl 12 rfl ?_
  refine o_bipush (v := (8 : Int32)) X0 d2_12 rfl 14 rfl ?_
  refine o_lshl X0 d2_14 15 rfl ?_
  refine o_aloadN X0 d2_15 rfl rfl 16 rfl ?_
  refine o_iload X0 d2_16 rfl 18 rfl ?_
  refine o_baloadB X0 H0 0 rfl d2_18 3 rfl y3 rfl 19 rfl ?_
  refine o_sipush (v := (255 : Int32)) X0 d2_19 rfl 22 rfl ?_
  refine o_iand X0 d2_22 23 rfl ?_
  refine o_i2l X0 d2_23 24 rfl ?_
  refine o_lor X0 d2_24 25 rfl ?_
  refine o_lstoreN X0 d2_25 #[.val (.ref xa), .val (.int (2 : Int32)), .val (.int (6 : Int32)), .val (.long (((((0 : Int64) <<< (Int32.toInt64 (8 : Int32) &&& 63)) ||| (Int32.toInt64 (y2 &&& (255 : Int32)))) <<< (Int32.toInt64 (8 : Int32) &&& 63)) ||| (Int32.toInt64 (y3 &&& (255 : Int32))))), .second, .val (.int (3 : Int32))] rfl 26 rfl ?_
  refine o_iinc (v := (3 : Int32)) (w := (4 : Int32)) X0 d2_26 rfl rfl #[.val (.ref xa), .val (.int (2 : Int32)), .val (.int (6 : Int32)), .val (.long (((((0 : Int64) <<< (Int32.toInt64 (8 : Int32) &&& 63)) ||| (Int32.toInt64 (y2 &&& (255 : Int32)))) <<< (Int32.toInt64 (8 : Int32) &&& 63)) ||| (Int32.toInt64 (y3 &&& (255 : Int32))))), .second, .val (.int (4 : Int32))] rfl 29 rfl ?_
  refine o_goto X0 d2_29 5 (by decide) (by decide) ?_
  refine o_iload X0 d2_5 rfl 7 rfl ?_
  refine o_iloadN X0 d2_7 rfl 8 rfl ?_
  refine o_icmpGe X0 d2_8 32 11 (by decide) (by decide) rfl (fun q => by exfalso; exact absurd q (by decide)) ?_
  intro hc8_2
  refine o_lloadN X0 d2_11 rfl 12 rfl ?_
  refine o_bipush (v := (8 : Int32)) X0 d2_12 rfl 14 rfl ?_
  refine o_lshl X0 d2_14 15 rfl ?_
  refine o_aloadN X0 d2_15 rfl rfl 16 rfl ?_
  refine o_iload X0 d2_16 rfl 18 rfl ?_
  refine o_baloadB X0 H0 0 rfl d2_18 4 rfl y4 rfl 19 rfl ?_
  refine o_sipush (v := (255 : Int32)) X0 d2_19 rfl 22 rfl ?_
  refine o_iand X0 d2_22 23 rfl ?_
  refine o_i2l X0 d2_23 24 rfl ?_
  refine o_lor X0 d2_24 25 rfl ?_
  refine o_lstoreN X0 d2_25 #[.val (.ref xa), .val (.int (2 : Int32)), .val (.int (6 : Int32)), .val (.long (((((((0 : Int64) <<< (Int32.toInt64 (8 : Int32) &&& 63)) ||| (Int32.toInt64 (y2 &&& (255 : Int32)))) <<< (Int32.toInt64 (8 : Int32) &&& 63)) ||| (Int32.toInt64 (y3 &&& (255 : Int32)))) <<< (Int32.toInt64 (8 : Int32) &&& 63)) ||| (Int32.toInt64 (y4 &&& (255 : Int32))))), .second, .val (.int (4 : Int32))] rfl 26 rfl ?_
  refine o_iinc (v := (4 : Int32)) (w := (5 : Int32)) X0 d2_26 rfl rfl #[.val (.ref xa), .val (.int (2 : Int32)), .val (.int (6 : Int32)), .val (.long (((((((0 : Int64) <<< (Int32.toInt64 (8 : Int32) &&& 63)) ||| (Int32.toInt64 (y2 &&& (255 : Int32)))) <<< (Int32.toInt64 (8 : Int32) &&& 63)) ||| (Int32.toInt64 (y3 &&& (255 : Int32)))) <<< (Int32.toInt64 (8 : Int32) &&& 63)) ||| (Int32.toInt64 (y4 &&& (255 : Int32))))), .second, .val (.int (5 : Int32))] rfl 29 rfl ?_
  refine o_goto X0 d2_29 5 (by decide) (by decide) ?_
  refine o_iload X0 d2_5 rfl 7 rfl ?_
  refine o_iloadN X0 d2_7 rfl 8 rfl ?_
  refine o_icmpGe X0 d2_8 32 11 (by decide) (by decide) rfl (fun q => by exfalso; exact absurd q (by decide)) ?_
  intro hc8_3
  refine o_lloadN X0 d2_11 rfl 12 rfl ?_
  refine o_bipush (v := (8 : Int32)) X0 d2_12 rfl 14 rfl ?_
  refine o_lshl X0 d2_14 15 rfl ?_
  refine o_aloadN X0 d2_15 rfl rfl 16 rfl ?_
  refine o_iload X0 d2_16 rfl 18 rfl ?_
  refine o_baloadB X0 H0 0 rfl d2_18 5 rfl y5 rfl 19 rfl ?_
  refine o_sipush (v := (255 : Int32)) X0 d2_19 rfl 22 rfl ?_
  refine o_iand X0 d2_22 23 rfl ?_
  refine o_i2l X0 d2_23 24 rfl ?_
  refine o_lor X0 d2_24 25 rfl ?_
  refine o_lstoreN X0 d2_25 #[.val (.ref xa), .val (.int (2 : Int32)), .val (.int (6 : Int32)), .val (.long (((((((((0 : Int64) <<< (Int32.toInt64 (8 : Int32) &&& 63)) ||| (Int32.toInt64 (y2 &&& (255 : Int32)))) <<< (Int32.toInt64 (8 : Int32) &&& 63)) ||| (Int32.toInt64 (y3 &&& (255 : Int32)))) <<< (Int32.toInt64 (8 : Int32) &&& 63)) ||| (Int32.toInt64 (y4 &&& (255 : Int32)))) <<< (Int32.toInt64 (8 : Int32) &&& 63)) ||| (Int32.toInt64 (y5 &&& (255 : Int32))))), .second, .val (.int (5 : Int32))] rfl 26 rfl ?_
  refine o_iinc (v := (5 : Int32)) (w := (6 : Int32)) X0 d2_26 rfl rfl #[.val (.ref xa), .val (.int (2 : Int32)), .val (.int (6 : Int32)), .val (.long (((((((((0 : Int64) <<< (Int32.toInt64 (8 : Int32) &&& 63)) ||| (Int32.toInt64 (y2 &&& (255 : Int32)))) <<< (Int32.toInt64 (8 : Int32) &&& 63)) ||| (Int32.toInt64 (y3 &&& (255 : Int32)))) <<< (Int32.toInt64 (8 : Int32) &&& 63)) ||| (Int32.toInt64 (y4 &&& (255 : Int32)))) <<< (Int32.toInt64 (8 : Int32) &&& 63)) ||| (Int32.toInt64 (y5 &&& (255 : Int32))))), .second, .val (.int (6 : Int32))] rfl 29 rfl ?_
  refine o_goto X0 d2_29 5 (by decide) (by decide) ?_
  refine o_iload X0 d2_5 rfl 7 rfl ?_
  refine o_iloadN X0 d2_7 rfl 8 rfl ?_
  refine o_icmpGe X0 d2_8 32 11 (by decide) (by decide) rfl ?_ (fun q => by exfalso; exact absurd q (by decide))
  intro hc8_4
  refine o_lloadN X0 d2_32 rfl 33 rfl ?_
  exact o_retJ X0 d2_33 (by decide) (by decide) (hQ _ _ ⟨rfl, rfl⟩)
set_option maxRecDepth 65536 in
set_option maxHeartbeats 40000000 in
theorem c_pack_2_5 (l : Launch) (Z : State) (a0 : Array Value) (hw : ∀ d ∈ tables_1, d.before a0 Z = true) (ws : List Jvm.Cond) (n0 : Nat) (h0 : Heap) (hn0 : n0 ≤ h0.size) (xa : Addr) (y0 y1 y2 y3 y4 y5 y6 y7 y8 y9 : Int32) (L' : List (Addr × (Cell → Prop))) (H0 : OL n0 h0 ((xa, OA Z .byte [y0, y1, y2, y3, y4, y5, y6, y7, y8, y9]) :: L')) :
    OC l Z (⟨"com/example/vestbook/vestbook/member/MemberIds", "packed", "([BII)J"⟩ : MethodName) prog_68_method_8_code 6 (some .long) ws ({ frames := 0, cells := 0, slots := 0, locals := 0 } : Room) n0 #[(.ref xa), (.int (2 : Int32)), (.int (7 : Int32))] h0 (fun r h => r = some (.long (((((((((((0 : Int64) <<< (Int32.toInt64 (8 : Int32) &&& 63)) ||| (Int32.toInt64 (y2 &&& (255 : Int32)))) <<< (Int32.toInt64 (8 : Int32) &&& 63)) ||| (Int32.toInt64 (y3 &&& (255 : Int32)))) <<< (Int32.toInt64 (8 : Int32) &&& 63)) ||| (Int32.toInt64 (y4 &&& (255 : Int32)))) <<< (Int32.toInt64 (8 : Int32) &&& 63)) ||| (Int32.toInt64 (y5 &&& (255 : Int32)))) <<< (Int32.toInt64 (8 : Int32) &&& 63)) ||| (Int32.toInt64 (y6 &&& (255 : Int32))))) ∧ h0 = h) := by
  refine OC.of pn_1 hn0 #[.val (.ref xa), .val (.int (2 : Int32)), .val (.int (7 : Int32)), .unset, .unset, .unset] (fun m => by first | (simp [entryFrame, mkF, argsToLocals, Value.category, maxLocals]; done) | rfl) ?_
  intro p e s m below meth cd0 T0 X0 Q' hQ
  refine o_lconst (v := (0 : Int64)) X0 d2_0 rfl 1 rfl ?_
  refine o_lstoreN X0 d2_1 #[.val (.ref xa), .val (.int (2 : Int32)), .val (.int (7 : Int32)), .val (.long (0 : Int64)), .second, .unset] rfl 2 rfl ?_
  refine o_iloadN X0 d2_2 rfl 3 rfl ?_
  refine o_istore X0 d2_3 #[.val (.ref xa), .val (.int (2 : Int32)), .val (.int (7 : Int32)), .val (.long (0 : Int64)), .second, .val (.int (2 : Int32))] rfl 5 rfl ?_
  refine o_iload X0 d2_5 rfl 7 rfl ?_
  refine o_iloadN X0 d2_7 rfl 8 rfl ?_
  refine o_icmpGe X0 d2_8 32 11 (by decide) (by decide) rfl (fun q => by exfalso; exact absurd q (by decide)) ?_
  intro hc8
  refine o_lloadN X0 d2_11 rfl 12 rfl ?_
  refine o_bipush (v := (8 : Int32)) X0 d2_12 rfl 14 rfl ?_
  refine o_lshl X0 d2_14 15 rfl ?_
  refine o_aloadN X0 d2_15 rfl rfl 16 rfl ?_
  refine o_iload X0 d2_16 rfl 18 rfl ?_
  refine o_baloadB X0 H0 0 rfl d2_18 2 rfl y2 rfl 19 rfl ?_
  refine o_sipush (v := (255 : Int32)) X0 d2_19 rfl 22 rfl ?_
  refine o_iand X0 d2_22 23 rfl ?_
  refine o_i2l X0 d2_23 24 rfl ?_
  refine o_lor X0 d2_24 25 rfl ?_
  refine o_lstoreN X0 d2_25 #[.val (.ref xa), .val (.int (2 : Int32)), .val (.int (7 : Int32)), .val (.long (((0 : Int64) <<< (Int32.toInt64 (8 : Int32) &&& 63)) ||| (Int32.toInt64 (y2 &&& (255 : Int32))))), .second, .val (.int (2 : Int32))] rfl 26 rfl ?_
  refine o_iinc (v := (2 : Int32)) (w := (3 : Int32)) X0 d2_26 rfl rfl #[.val (.ref xa), .val (.int (2 : Int32)), .val (.int (7 : Int32)), .val (.long (((0 : Int64) <<< (Int32.toInt64 (8 : Int32) &&& 63)) ||| (Int32.toInt64 (y2 &&& (255 : Int32))))), .second, .val (.int (3 : Int32))] rfl 29 rfl ?_
  refine o_goto X0 d2_29 5 (by decide) (by decide) ?_
  refine o_iload X0 d2_5 rfl 7 rfl ?_
  refine o_iloadN X0 d2_7 rfl 8 rfl ?_
  refine o_icmpGe X0 d2_8 32 11 (by decide) (by decide) rfl (fun q => by exfalso; exact absurd q (by decide)) ?_
  intro hc8_1
  refine o_lloadN X0 d2_11 rfl 12 rfl ?_
  refine o_bipush (v := (8 : Int32)) X0 d2_12 rfl 14 rfl ?_
  refine o_lshl X0 d2_14 15 rfl ?_
  refine o_aloadN X0 d2_15 rfl rfl 16 rfl ?_
  refine o_iload X0 d2_16 rfl 18 rfl ?_
  refine o_baloadB X0 H0 0 rfl d2_18 3 rfl y3 rfl 19 rfl ?_
  refine o_sipush (v := (255 : Int32)) X0 d2_19 rfl 22 rfl ?_
  refine o_iand X0 d2_22 23 rfl ?_
  refine o_i2l X0 d2_23 24 rfl ?_
  refine o_lor X0 d2_24 25 rfl ?_
  refine o_lstoreN X0 d2_25 #[.val (.ref xa), .val (.int (2 : Int32)), .val (.int (7 : Int32)), .val (.long (((((0 : Int64) <<< (Int32.toInt64 (8 : Int32) &&& 63)) ||| (Int32.toInt64 (y2 &&& (255 : Int32)))) <<< (Int32.toInt64 (8 : Int32) &&& 63)) ||| (Int32.toInt64 (y3 &&& (255 : Int32))))), .second, .val (.int (3 : Int32))] rfl 26 rfl ?_
  refine o_iinc (v := (3 : Int32)) (w := (4 : Int32)) X0 d2_26 rfl rfl #[.val (.ref xa), .val (.int (2 : Int32)), .val (.int (7 : Int32)), .val (.long (((((0 : Int64) <<< (Int32.toInt64 (8 : Int32) &&& 63)) ||| (Int32.toInt64 (y2 &&& (255 : Int32)))) <<< (Int32.toInt64 (8 : Int32) &&& 63)) ||| (Int32.toInt64 (y3 &&& (255 : Int32))))), .second, .val (.int (4 : Int32))] rfl 29 rfl ?_
  refine o_goto X0 d2_29 5 (by decide) (by decide) ?_
  refine o_iload X0 d2_5 rfl 7 rfl ?_
  refine o_iloadN X0 d2_7 rfl 8 rfl ?_
  refine o_icmpGe X0 d2_8 32 11 (by decide) (by decide) rfl (fun q => by exfalso; exact absurd q (by decide)) ?_
  intro hc8_2
  refine o_lloadN X0 d2_11 rfl 12 rfl ?_
  refine o_bipush (v := (8 : Int32)) X0 d2_12 rfl 14 rfl ?_
  refine o_lshl X0 d2_14 15 rfl ?_
  refine o_aloadN X0 d2_15 rfl rfl 16 rfl ?_
  refine o_iload X0 d2_16 rfl 18 rfl ?_
  refine o_baloadB X0 H0 0 rfl d2_18 4 rfl y4 rfl 19 rfl ?_
  refine o_sipush (v := (255 : Int32)) X0 d2_19 rfl 22 rfl ?_
  refine o_iand X0 d2_22 23 rfl ?_
  refine o_i2l X0 d2_23 24 rfl ?_
  refine o_lor X0 d2_24 25 rfl ?_
  refine o_lstoreN X0 d2_25 #[.val (.ref xa), .val (.int (2 : Int32)), .val (.int (7 : Int32)), .val (.long (((((((0 : Int64) <<< (Int32.toInt64 (8 : Int32) &&& 63)) ||| (Int32.toInt64 (y2 &&& (255 : Int32)))) <<< (Int32.toInt64 (8 : Int32) &&& 63)) ||| (Int32.toInt64 (y3 &&& (255 : Int32)))) <<< (Int32.toInt64 (8 : Int32) &&& 63)) ||| (Int32.toInt64 (y4 &&& (255 : Int32))))), .second, .val (.int (4 : Int32))] rfl 26 rfl ?_
  refine o_iinc (v := (4 : Int32)) (w := (5 : Int32)) X0 d2_26 rfl rfl #[.val (.ref xa), .val (.int (2 : Int32)), .val (.int (7 : Int32)), .val (.long (((((((0 : Int64) <<< (Int32.toInt64 (8 : Int32) &&& 63)) ||| (Int32.toInt64 (y2 &&& (255 : Int32)))) <<< (Int32.toInt64 (8 : Int32) &&& 63)) ||| (Int32.toInt64 (y3 &&& (255 : Int32)))) <<< (Int32.toInt64 (8 : Int32) &&& 63)) ||| (Int32.toInt64 (y4 &&& (255 : Int32))))), .second, .val (.int (5 : Int32))] rfl 29 rfl ?_
  refine o_goto X0 d2_29 5 (by decide) (by decide) ?_
  refine o_iload X0 d2_5 rfl 7 rfl ?_
  refine o_iloadN X0 d2_7 rfl 8 rfl ?_
  refine o_icmpGe X0 d2_8 32 11 (by decide) (by decide) rfl (fun q => by exfalso; exact absurd q (by decide)) ?_
  intro hc8_3
  refine o_lloadN X0 d2_11 rfl 12 rfl ?_
  refine o_bipush (v := (8 : Int32)) X0 d2_12 rfl 14 rfl ?_
  refine o_lshl X0 d2_14 15 rfl ?_
  refine o_aloadN X0 d2_15 rfl rfl 16 rfl ?_
  refine o_iload X0 d2_16 rfl 18 rfl ?_
  refine o_baloadB X0 H0 0 rfl d2_18 5 rfl y5 rfl 19 rfl ?_
  refine o_sipush (v := (255 : Int32)) X0 d2_19 rfl 22 rfl ?_
  refine o_iand X0 d2_22 23 rfl ?_
  refine o_i2l X0 d2_23 24 rfl ?_
  refine o_lor X0 d2_24 25 rfl ?_
  refine o_lstoreN X0 d2_25 #[.val (.ref xa), .val (.int (2 : Int32)), .val (.int (7 : Int32)), .val (.long (((((((((0 : Int64) <<< (Int32.toInt64 (8 : Int32) &&& 63)) ||| (Int32.toInt64 (y2 &&& (255 : Int32)))) <<< (Int32.toInt64 (8 : Int32) &&& 63)) ||| (Int32.toInt64 (y3 &&& (255 : Int32)))) <<< (Int32.toInt64 (8 : Int32) &&& 63)) ||| (Int32.toInt64 (y4 &&& (255 : Int32)))) <<< (Int32.toInt64 (8 : Int32) &&& 63)) ||| (Int32.toInt64 (y5 &&& (255 : Int32))))), .second, .val (.int (5 : Int32))] rfl 26 rfl ?_
  refine o_iinc (v := (5 : Int32)) (w := (6 : Int32)) X0 d2_26 rfl rfl #[.val (.ref xa), .val (.int (2 : Int32)), .val (.int (7 : Int32)), .val (.long (((((((((0 : Int64) <<< (Int32.toInt64 (8 : Int32) &&& 63)) ||| (Int32.toInt64 (y2 &&& (255 : Int32)))) <<< (Int32.toInt64 (8 : Int32) &&& 63)) ||| (Int32.toInt64 (y3 &&& (255 : Int32)))) <<< (Int32.toInt64 (8 : Int32) &&& 63)) ||| (Int32.toInt64 (y4 &&& (255 : Int32)))) <<< (Int32.toInt64 (8 : Int32) &&& 63)) ||| (Int32.toInt64 (y5 &&& (255 : Int32))))), .second, .val (.int (6 : Int32))] rfl 29 rfl ?_
  refine o_goto X0 d2_29 5 (by decide) (by decide) ?_
  refine o_iload X0 d2_5 rfl 7 rfl ?_
  refine o_iloadN X0 d2_7 rfl 8 rfl ?_
  refine o_icmpGe X0 d2_8 32 11 (by decide) (by decide) rfl (fun q => by exfalso; exact absurd q (by decide)) ?_
  intro hc8_4
  refine o_lloadN X0 d2_11 rfl 12 rfl ?_
  refine o_bipush (v := (8 : Int32)) X0 d2_12 rfl 14 rfl ?_
  refine o_lshl X0 d2_14 15 rfl ?_
  refine o_aloadN X0 d2_15 rfl rfl 16 rfl ?_
  refine o_iload X0 d2_16 rfl 18 rfl ?_
  refine o_baloadB X0 H0 0 rfl d2_18 6 rfl y6 rfl 19 rfl ?_
  refine o_sipush (v := (255 : Int32)) X0 d2_19 rfl 22 rfl ?_
  refine o_iand X0 d2_22 23 rfl ?_
  refine o_i2l X0 d2_23 24 rfl ?_
  refine o_lor X0 d2_24 25 rfl ?_
  refine o_lstoreN X0 d2_25 #[.val (.ref xa), .val (.int (2 : Int32)), .val (.int (7 : Int32)), .val (.long (((((((((((0 : Int64) <<< (Int32.toInt64 (8 : Int32) &&& 63)) ||| (Int32.toInt64 (y2 &&& (255 : Int32)))) <<< (Int32.toInt64 (8 : Int32) &&& 63)) ||| (Int32.toInt64 (y3 &&& (255 : Int32)))) <<< (Int32.toInt64 (8 : Int32) &&& 63)) ||| (Int32.toInt64 (y4 &&& (255 : Int32)))) <<< (Int32.toInt64 (8 : Int32) &&& 63)) ||| (Int32.toInt64 (y5 &&& (255 : Int32)))) <<< (Int32.toInt64 (8 : Int32) &&& 63)) ||| (Int32.toInt64 (y6 &&& (255 : Int32))))), .second, .val (.int (6 : Int32))] rfl 26 rfl ?_
  refine o_iinc (v := (6 : Int32)) (w := (7 : Int32)) X0 d2_26 rfl rfl #[.val (.ref xa), .val (.int (2 : Int32)), .val (.int (7 : Int32)), .val (.long (((((((((((0 : Int64) <<< (Int32.toInt64 (8 : Int32) &&& 63)) ||| (Int32.toInt64 (y2 &&& (255 : Int32)))) <<< (Int32.toInt64 (8 : Int32) &&& 63)) ||| (Int32.toInt64 (y3 &&& (255 : Int32)))) <<< (Int32.toInt64 (8 : Int32) &&& 63)) ||| (Int32.toInt64 (y4 &&& (255 : Int32)))) <<< (Int32.toInt64 (8 : Int32) &&& 63)) ||| (Int32.toInt64 (y5 &&& (255 : Int32)))) <<< (Int32.toInt64 (8 : Int32) &&& 63)) ||| (Int32.toInt64 (y6 &&& (255 : Int32))))), .second, .val (.int (7 : Int32))] rfl 29 rfl ?_
  refine o_goto X0 d2_29 5 (by decide) (by decide) ?_
  refine o_iload X0 d2_5 rfl 7 rfl ?_
  refine o_iloadN X0 d2_7 rfl 8 rfl ?_
  refine o_icmpGe X0 d2_8 32 11 (by decide) (by decide) rfl ?_ (fun q => by exfalso; exact absurd q (by decide))
  intro hc8_5
  refine o_lloadN X0 d2_32 rfl 33 rfl ?_
  exact o_retJ X0 d2_33 (by decide) (by decide) (hQ _ _ ⟨rfl, rfl⟩)
set_option maxRecDepth 65536 in
set_option maxHeartbeats 40000000 in
theorem c_pack_2_6 (l : Launch) (Z : State) (a0 : Array Value) (hw : ∀ d ∈ tables_1, d.before a0 Z = true) (ws : List Jvm.Cond) (n0 : Nat) (h0 : Heap) (hn0 : n0 ≤ h0.size) (xa : Addr) (y0 y1 y2 y3 y4 y5 y6 y7 y8 y9 : Int32) (L' : List (Addr × (Cell → Prop))) (H0 : OL n0 h0 ((xa, OA Z .byte [y0, y1, y2, y3, y4, y5, y6, y7, y8, y9]) :: L')) :
    OC l Z (⟨"com/example/vestbook/vestbook/member/MemberIds", "packed", "([BII)J"⟩ : MethodName) prog_68_method_8_code 6 (some .long) ws ({ frames := 0, cells := 0, slots := 0, locals := 0 } : Room) n0 #[(.ref xa), (.int (2 : Int32)), (.int (8 : Int32))] h0 (fun r h => r = some (.long (((((((((((((0 : Int64) <<< (Int32.toInt64 (8 : Int32) &&& 63)) ||| (Int32.toInt64 (y2 &&& (255 : Int32)))) <<< (Int32.toInt64 (8 : Int32) &&& 63)) ||| (Int32.toInt64 (y3 &&& (255 : Int32)))) <<< (Int32.toInt64 (8 : Int32) &&& 63)) ||| (Int32.toInt64 (y4 &&& (255 : Int32)))) <<< (Int32.toInt64 (8 : Int32) &&& 63)) ||| (Int32.toInt64 (y5 &&& (255 : Int32)))) <<< (Int32.toInt64 (8 : Int32) &&& 63)) ||| (Int32.toInt64 (y6 &&& (255 : Int32)))) <<< (Int32.toInt64 (8 : Int32) &&& 63)) ||| (Int32.toInt64 (y7 &&& (255 : Int32))))) ∧ h0 = h) := by
  refine OC.of pn_1 hn0 #[.val (.ref xa), .val (.int (2 : Int32)), .val (.int (8 : Int32)), .unset, .unset, .unset] (fun m => by first | (simp [entryFrame, mkF, argsToLocals, Value.category, maxLocals]; done) | rfl) ?_
  intro p e s m below meth cd0 T0 X0 Q' hQ
  refine o_lconst (v := (0 : Int64)) X0 d2_0 rfl 1 rfl ?_
  refine o_lstoreN X0 d2_1 #[.val (.ref xa), .val (.int (2 : Int32)), .val (.int (8 : Int32)), .val (.long (0 : Int64)), .second, .unset] rfl 2 rfl ?_
  refine o_iloadN X0 d2_2 rfl 3 rfl ?_
  refine o_istore X0 d2_3 #[.val (.ref xa), .val (.int (2 : Int32)), .val (.int (8 : Int32)), .val (.long (0 : Int64)), .second, .val (.int (2 : Int32))] rfl 5 rfl ?_
  refine o_iload X0 d2_5 rfl 7 rfl ?_
  refine o_iloadN X0 d2_7 rfl 8 rfl ?_
  refine o_icmpGe X0 d2_8 32 11 (by decide) (by decide) rfl (fun q => by exfalso; exact absurd q (by decide)) ?_
  intro hc8
  refine o_lloadN X0 d2_11 rfl 12 rfl ?_
  refine o_bipush (v := (8 : Int32)) X0 d2_12 rfl 14 rfl ?_
  refine o_lshl X0 d2_14 15 rfl ?_
  refine o_aloadN X0 d2_15 rfl rfl 16 rfl ?_
  refine o_iload X0 d2_16 rfl 18 rfl ?_
  refine o_baloadB X0 H0 0 rfl d2_18 2 rfl y2 rfl 19 rfl ?_
  refine o_sipush (v := (255 : Int32)) X0 d2_19 rfl 22 rfl ?_
  refine o_iand X0 d2_22 23 rfl ?_
  refine o_i2l X0 d2_23 24 rfl ?_
  refine o_lor X0 d2_24 25 rfl ?_
  refine o_lstoreN X0 d2_25 #[.val (.ref xa), .val (.int (2 : Int32)), .val (.int (8 : Int32)), .val (.long (((0 : Int64) <<< (Int32.toInt64 (8 : Int32) &&& 63)) ||| (Int32.toInt64 (y2 &&& (255 : Int32))))), .second, .val (.int (2 : Int32))] rfl 26 rfl ?_
  refine o_iinc (v := (2 : Int32)) (w := (3 : Int32)) X0 d2_26 rfl rfl #[.val (.ref xa), .val (.int (2 : Int32)), .val (.int (8 : Int32)), .val (.long (((0 : Int64) <<< (Int32.toInt64 (8 : Int32) &&& 63)) ||| (Int32.toInt64 (y2 &&& (255 : Int32))))), .second, .val (.int (3 : Int32))] rfl 29 rfl ?_
  refine o_goto X0 d2_29 5 (by decide) (by decide) ?_
  refine o_iload X0 d2_5 rfl 7 rfl ?_
  refine o_iloadN X0 d2_7 rfl 8 rfl ?_
  refine o_icmpGe X0 d2_8 32 11 (by decide) (by decide) rfl (fun q => by exfalso; exact absurd q (by decide)) ?_
  intro hc8_1
  refine o_lloadN X0 d2_11 rfl 12 rfl ?_
  refine o_bipush (v := (8 : Int32)) X0 d2_12 rfl 14 rfl ?_
  refine o_lshl X0 d2_14 15 rfl ?_
  refine o_aloadN X0 d2_15 rfl rfl 16 rfl ?_
  refine o_iload X0 d2_16 rfl 18 rfl ?_
  refine o_baloadB X0 H0 0 rfl d2_18 3 rfl y3 rfl 19 rfl ?_
  refine o_sipush (v := (255 : Int32)) X0 d2_19 rfl 22 rfl ?_
  refine o_iand X0 d2_22 23 rfl ?_
  refine o_i2l X0 d2_23 24 rfl ?_
  refine o_lor X0 d2_24 25 rfl ?_
  refine o_lstoreN X0 d2_25 #[.val (.ref xa), .val (.int (2 : Int32)), .val (.int (8 : Int32)), .val (.long (((((0 : Int64) <<< (Int32.toInt64 (8 : Int32) &&& 63)) ||| (Int32.toInt64 (y2 &&& (255 : Int32)))) <<< (Int32.toInt64 (8 : Int32) &&& 63)) ||| (Int32.toInt64 (y3 &&& (255 : Int32))))), .second, .val (.int (3 : Int32))] rfl 26 rfl ?_
  refine o_iinc (v := (3 : Int32)) (w := (4 : Int32)) X0 d2_26 rfl rfl #[.val (.ref xa), .val (.int (2 : Int32)), .val (.int (8 : Int32)), .val (.long (((((0 : Int64) <<< (Int32.toInt64 (8 : Int32) &&& 63)) ||| (Int32.toInt64 (y2 &&& (255 : Int32)))) <<< (Int32.toInt64 (8 : Int32) &&& 63)) ||| (Int32.toInt64 (y3 &&& (255 : Int32))))), .second, .val (.int (4 : Int32))] rfl 29 rfl ?_
  refine o_goto X0 d2_29 5 (by decide) (by decide) ?_
  refine o_iload X0 d2_5 rfl 7 rfl ?_
  refine o_iloadN X0 d2_7 rfl 8 rfl ?_
  refine o_icmpGe X0 d2_8 32 11 (by decide) (by decide) rfl (fun q => by exfalso; exact absurd q (by decide)) ?_
  intro hc8_2
  refine o_lloadN X0 d2_11 rfl 12 rfl ?_
  refine o_bipush (v := (8 : Int32)) X0 d2_12 rfl 14 rfl ?_
  refine o_lshl X0 d2_14 15 rfl ?_
  refine o_aloadN X0 d2_15 rfl rfl 16 rfl ?_
  refine o_iload X0 d2_16 rfl 18 rfl ?_
  refine o_baloadB X0 H0 0 rfl d2_18 4 rfl y4 rfl 19 rfl ?_
  refine o_sipush (v := (255 : Int32)) X0 d2_19 rfl 22 rfl ?_
  refine o_iand X0 d2_22 23 rfl ?_
  refine o_i2l X0 d2_23 24 rfl ?_
  refine o_lor X0 d2_24 25 rfl ?_
  refine o_lstoreN X0 d2_25 #[.val (.ref xa), .val (.int (2 : Int32)), .val (.int (8 : Int32)), .val (.long (((((((0 : Int64) <<< (Int32.toInt64 (8 : Int32) &&& 63)) ||| (Int32.toInt64 (y2 &&& (255 : Int32)))) <<< (Int32.toInt64 (8 : Int32) &&& 63)) ||| (Int32.toInt64 (y3 &&& (255 : Int32)))) <<< (Int32.toInt64 (8 : Int32) &&& 63)) ||| (Int32.toInt64 (y4 &&& (255 : Int32))))), .second, .val (.int (4 : Int32))] rfl 26 rfl ?_
  refine o_iinc (v := (4 : Int32)) (w := (5 : Int32)) X0 d2_26 rfl rfl #[.val (.ref xa), .val (.int (2 : Int32)), .val (.int (8 : Int32)), .val (.long (((((((0 : Int64) <<< (Int32.toInt64 (8 : Int32) &&& 63)) ||| (Int32.toInt64 (y2 &&& (255 : Int32)))) <<< (Int32.toInt64 (8 : Int32) &&& 63)) ||| (Int32.toInt64 (y3 &&& (255 : Int32)))) <<< (Int32.toInt64 (8 : Int32) &&& 63)) ||| (Int32.toInt64 (y4 &&& (255 : Int32))))), .second, .val (.int (5 : Int32))] rfl 29 rfl ?_
  refine o_goto X0 d2_29 5 (by decide) (by decide) ?_
  refine o_iload X0 d2_5 rfl 7 rfl ?_
  refine o_iloadN X0 d2_7 rfl 8 rfl ?_
  refine o_icmpGe X0 d2_8 32 11 (by decide) (by decide) rfl (fun q => by exfalso; exact absurd q (by decide)) ?_
  intro hc8_3
  refine o_lloadN X0 d2_11 rfl 12 rfl ?_
  refine o_bipush (v := (8 : Int32)) X0 d2_12 rfl 14 rfl ?_
  refine o_lshl X0 d2_14 15 rfl ?_
  refine o_aloadN X0 d2_15 rfl rfl 16 rfl ?_
  refine o_iload X0 d2_16 rfl 18 rfl ?_
  refine o_baloadB X0 H0 0 rfl d2_18 5 rfl y5 rfl 19 rfl ?_
  refine o_sipush (v := (255 : Int32)) X0 d2_19 rfl 22 rfl ?_
  refine o_iand X0 d2_22 23 rfl ?_
  refine o_i2l X0 d2_23 24 rfl ?_
  refine o_lor X0 d2_24 25 rfl ?_
  refine o_lstoreN X0 d2_25 #[.val (.ref xa), .val (.int (2 : Int32)), .val (.int (8 : Int32)), .val (.long (((((((((0 : Int64) <<< (Int32.toInt64 (8 : Int32) &&& 63)) ||| (Int32.toInt64 (y2 &&& (255 : Int32)))) <<< (Int32.toInt64 (8 : Int32) &&& 63)) ||| (Int32.toInt64 (y3 &&& (255 : Int32)))) <<< (Int32.toInt64 (8 : Int32) &&& 63)) ||| (Int32.toInt64 (y4 &&& (255 : Int32)))) <<< (Int32.toInt64 (8 : Int32) &&& 63)) ||| (Int32.toInt64 (y5 &&& (255 : Int32))))), .second, .val (.int (5 : Int32))] rfl 26 rfl ?_
  refine o_iinc (v := (5 : Int32)) (w := (6 : Int32)) X0 d2_26 rfl rfl #[.val (.ref xa), .val (.int (2 : Int32)), .val (.int (8 : Int32)), .val (.long (((((((((0 : Int64) <<< (Int32.toInt64 (8 : Int32) &&& 63)) ||| (Int32.toInt64 (y2 &&& (255 : Int32)))) <<< (Int32.toInt64 (8 : Int32) &&& 63)) ||| (Int32.toInt64 (y3 &&& (255 : Int32)))) <<< (Int32.toInt64 (8 : Int32) &&& 63)) ||| (Int32.toInt64 (y4 &&& (255 : Int32)))) <<< (Int32.toInt64 (8 : Int32) &&& 63)) ||| (Int32.toInt64 (y5 &&& (255 : Int32))))), .second, .val (.int (6 : Int32))] rfl 29 rfl ?_
  refine o_goto X0 d2_29 5 (by decide) (by decide) ?_
  refine o_iload X0 d2_5 rfl 7 rfl ?_
  refine o_iloadN X0 d2_7 rfl 8 rfl ?_
  refine o_icmpGe X0 d2_8 32 11 (by decide) (by decide) rfl (fun q => by exfalso; exact absurd q (by decide)) ?_
  intro hc8_4
  refine o_lloadN X0 d2_11 rfl 12 rfl ?_
  refine o_bipush (v := (8 : Int32)) X0 d2_12 rfl 14 rfl ?_
  refine o_lshl X0 d2_14 15 rfl ?_
  refine o_aloadN X0 d2_15 rfl rfl 16 rfl ?_
  refine o_iload X0 d2_16 rfl 18 rfl ?_
  refine o_baloadB X0 H0 0 rfl d2_18 6 rfl y6 rfl 19 rfl ?_
  refine o_sipush (v := (255 : Int32)) X0 d2_19 rfl 22 rfl ?_
  refine o_iand X0 d2_22 23 rfl ?_
  refine o_i2l X0 d2_23 24 rfl ?_
  refine o_lor X0 d2_24 25 rfl ?_
  refine o_lstoreN X0 d2_25 #[.val (.ref xa), .val (.int (2 : Int32)), .val (.int (8 : Int32)), .val (.long (((((((((((0 : Int64) <<< (Int32.toInt64 (8 : Int32) &&& 63)) ||| (Int32.toInt64 (y2 &&& (255 : Int32)))) <<< (Int32.toInt64 (8 : Int32) &&& 63)) ||| (Int32.toInt64 (y3 &&& (255 : Int32)))) <<< (Int32.toInt64 (8 : Int32) &&& 63)) ||| (Int32.toInt64 (y4 &&& (255 : Int32)))) <<< (Int32.toInt64 (8 : Int32) &&& 63)) ||| (Int32.toInt64 (y5 &&& (255 : Int32)))) <<< (Int32.toInt64 (8 : Int32) &&& 63)) ||| (Int32.toInt64 (y6 &&& (255 : Int32))))), .second, .val (.int (6 : Int32))] rfl 26 rfl ?_
  refine o_iinc (v := (6 : Int32)) (w := (7 : Int32)) X0 d2_26 rfl rfl #[.val (.ref xa), .val (.int (2 : Int32)), .val (.int (8 : Int32)), .val (.long (((((((((((0 : Int64) <<< (Int32.toInt64 (8 : Int32) &&& 63)) ||| (Int32.toInt64 (y2 &&& (255 : Int32)))) <<< (Int32.toInt64 (8 : Int32) &&& 63)) ||| (Int32.toInt64 (y3 &&& (255 : Int32)))) <<< (Int32.toInt64 (8 : Int32) &&& 63)) ||| (Int32.toInt64 (y4 &&& (255 : Int32)))) <<< (Int32.toInt64 (8 : Int32) &&& 63)) ||| (Int32.toInt64 (y5 &&& (255 : Int32)))) <<< (Int32.toInt64 (8 : Int32) &&& 63)) ||| (Int32.toInt64 (y6 &&& (255 : Int32))))), .second, .val (.int (7 : Int32))] rfl 29 rfl ?_
  refine o_goto X0 d2_29 5 (by decide) (by decide) ?_
  refine o_iload X0 d2_5 rfl 7 rfl ?_
  refine o_iloadN X0 d2_7 rfl 8 rfl ?_
  refine o_icmpGe X0 d2_8 32 11 (by decide) (by decide) rfl (fun q => by exfalso; exact absurd q (by decide)) ?_
  intro hc8_5
  refine o_lloadN X0 d2_11 rfl 12 rfl ?_
  refine o_bipush (v := (8 : Int32)) X0 d2_12 rfl 14 rfl ?_
  refine o_lshl X0 d2_14 15 rfl ?_
  refine o_aloadN X0 d2_15 rfl rfl 16 rfl ?_
  refine o_iload X0 d2_16 rfl 18 rfl ?_
  refine o_baloadB X0 H0 0 rfl d2_18 7 rfl y7 rfl 19 rfl ?_
  refine o_sipush (v := (255 : Int32)) X0 d2_19 rfl 22 rfl ?_
  refine o_iand X0 d2_22 23 rfl ?_
  refine o_i2l X0 d2_23 24 rfl ?_
  refine o_lor X0 d2_24 25 rfl ?_
  refine o_lstoreN X0 d2_25 #[.val (.ref xa), .val (.int (2 : Int32)), .val (.int (8 : Int32)), .val (.long (((((((((((((0 : Int64) <<< (Int32.toInt64 (8 : Int32) &&& 63)) ||| (Int32.toInt64 (y2 &&& (255 : Int32)))) <<< (Int32.toInt64 (8 : Int32) &&& 63)) ||| (Int32.toInt64 (y3 &&& (255 : Int32)))) <<< (Int32.toInt64 (8 : Int32) &&& 63)) ||| (Int32.toInt64 (y4 &&& (255 : Int32)))) <<< (Int32.toInt64 (8 : Int32) &&& 63)) ||| (Int32.toInt64 (y5 &&& (255 : Int32)))) <<< (Int32.toInt64 (8 : Int32) &&& 63)) ||| (Int32.toInt64 (y6 &&& (255 : Int32)))) <<< (Int32.toInt64 (8 : Int32) &&& 63)) ||| (Int32.toInt64 (y7 &&& (255 : Int32))))), .second, .val (.int (7 : Int32))] rfl 26 rfl ?_
  refine o_iinc (v := (7 : Int32)) (w := (8 : Int32)) X0 d2_26 rfl rfl #[.val (.ref xa), .val (.int (2 : Int32)), .val (.int (8 : Int32)), .val (.long (((((((((((((0 : Int64) <<< (Int32.toInt64 (8 : Int32) &&& 63)) ||| (Int32.toInt64 (y2 &&& (255 : Int32)))) <<< (Int32.toInt64 (8 : Int32) &&& 63)) ||| (Int32.toInt64 (y3 &&& (255 : Int32)))) <<< (Int32.toInt64 (8 : Int32) &&& 63)) ||| (Int32.toInt64 (y4 &&& (255 : Int32)))) <<< (Int32.toInt64 (8 : Int32) &&& 63)) ||| (Int32.toInt64 (y5 &&& (255 : Int32)))) <<< (Int32.toInt64 (8 : Int32) &&& 63)) ||| (Int32.toInt64 (y6 &&& (255 : Int32)))) <<< (Int32.toInt64 (8 : Int32) &&& 63)) ||| (Int32.toInt64 (y7 &&& (255 : Int32))))), .second, .val (.int (8 : Int32))] rfl 29 rfl ?_
  refine o_goto X0 d2_29 5 (by decide) (by decide) ?_
  refine o_iload X0 d2_5 rfl 7 rfl ?_
  refine o_iloadN X0 d2_7 rfl 8 rfl ?_
  refine o_icmpGe X0 d2_8 32 11 (by decide) (by decide) rfl ?_ (fun q => by exfalso; exact absurd q (by decide))
  intro hc8_6
  refine o_lloadN X0 d2_32 rfl 33 rfl ?_
  exact o_retJ X0 d2_33 (by decide) (by decide) (hQ _ _ ⟨rfl, rfl⟩)
set_option maxRecDepth 65536 in
set_option maxHeartbeats 40000000 in
theorem c_pack_2_7 (l : Launch) (Z : State) (a0 : Array Value) (hw : ∀ d ∈ tables_1, d.before a0 Z = true) (ws : List Jvm.Cond) (n0 : Nat) (h0 : Heap) (hn0 : n0 ≤ h0.size) (xa : Addr) (y0 y1 y2 y3 y4 y5 y6 y7 y8 y9 : Int32) (L' : List (Addr × (Cell → Prop))) (H0 : OL n0 h0 ((xa, OA Z .byte [y0, y1, y2, y3, y4, y5, y6, y7, y8, y9]) :: L')) :
    OC l Z (⟨"com/example/vestbook/vestbook/member/MemberIds", "packed", "([BII)J"⟩ : MethodName) prog_68_method_8_code 6 (some .long) ws ({ frames := 0, cells := 0, slots := 0, locals := 0 } : Room) n0 #[(.ref xa), (.int (2 : Int32)), (.int (9 : Int32))] h0 (fun r h => r = some (.long (((((((((((((((0 : Int64) <<< (Int32.toInt64 (8 : Int32) &&& 63)) ||| (Int32.toInt64 (y2 &&& (255 : Int32)))) <<< (Int32.toInt64 (8 : Int32) &&& 63)) ||| (Int32.toInt64 (y3 &&& (255 : Int32)))) <<< (Int32.toInt64 (8 : Int32) &&& 63)) ||| (Int32.toInt64 (y4 &&& (255 : Int32)))) <<< (Int32.toInt64 (8 : Int32) &&& 63)) ||| (Int32.toInt64 (y5 &&& (255 : Int32)))) <<< (Int32.toInt64 (8 : Int32) &&& 63)) ||| (Int32.toInt64 (y6 &&& (255 : Int32)))) <<< (Int32.toInt64 (8 : Int32) &&& 63)) ||| (Int32.toInt64 (y7 &&& (255 : Int32)))) <<< (Int32.toInt64 (8 : Int32) &&& 63)) ||| (Int32.toInt64 (y8 &&& (255 : Int32))))) ∧ h0 = h) := by
  refine OC.of pn_1 hn0 #[.val (.ref xa), .val (.int (2 : Int32)), .val (.int (9 : Int32)), .unset, .unset, .unset] (fun m => by first | (simp [entryFrame, mkF, argsToLocals, Value.category, maxLocals]; done) | rfl) ?_
  intro p e s m below meth cd0 T0 X0 Q' hQ
  refine o_lconst (v := (0 : Int64)) X0 d2_0 rfl 1 rfl ?_
  refine o_lstoreN X0 d2_1 #[.val (.ref xa), .val (.int (2 : Int32)), .val (.int (9 : Int32)), .val (.long (0 : Int64)), .second, .unset] rfl 2 rfl ?_
  refine o_iloadN X0 d2_2 rfl 3 rfl ?_
  refine o_istore X0 d2_3 #[.val (.ref xa), .val (.int (2 : Int32)), .val (.int (9 : Int32)), .val (.long (0 : Int64)), .second, .val (.int (2 : Int32))] rfl 5 rfl ?_
  refine o_iload X0 d2_5 rfl 7 rfl ?_
  refine o_iloadN X0 d2_7 rfl 8 rfl ?_
  refine o_icmpGe X0 d2_8 32 11 (by decide) (by decide) rfl (fun q => by exfalso; exact absurd q (by decide)) ?_
  intro hc8
  refine o_lloadN X0 d2_11 rfl 12 rfl ?_
  refine o_bipush (v := (8 : Int32)) X0 d2_12 rfl 14 rfl ?_
  refine o_lshl X0 d2_14 15 rfl ?_
  refine o_aloadN X0 d2_15 rfl rfl 16 rfl ?_
  refine o_iload X0 d2_16 rfl 18 rfl ?_
  refine o_baloadB X0 H0 0 rfl d2_18 2 rfl y2 rfl 19 rfl ?_
  refine o_sipush (v := (255 : Int32)) X0 d2_19 rfl 22 rfl ?_
  refine o_iand X0 d2_22 23 rfl ?_
  refine o_i2l X0 d2_23 24 rfl ?_
  refine o_lor X0 d2_24 25 rfl ?_
  refine o_lstoreN X0 d2_25 #[.val (.ref xa), .val (.int (2 : Int32)), .val (.int (9 : Int32)), .val (.long (((0 : Int64) <<< (Int32.toInt64 (8 : Int32) &&& 63)) ||| (Int32.toInt64 (y2 &&& (255 : Int32))))), .second, .val (.int (2 : Int32))] rfl 26 rfl ?_
  refine o_iinc (v := (2 : Int32)) (w := (3 : Int32)) X0 d2_26 rfl rfl #[.val (.ref xa), .val (.int (2 : Int32)), .val (.int (9 : Int32)), .val (.long (((0 : Int64) <<< (Int32.toInt64 (8 : Int32) &&& 63)) ||| (Int32.toInt64 (y2 &&& (255 : Int32))))), .second, .val (.int (3 : Int32))] rfl 29 rfl ?_
  refine o_goto X0 d2_29 5 (by decide) (by decide) ?_
  refine o_iload X0 d2_5 rfl 7 rfl ?_
  refine o_iloadN X0 d2_7 rfl 8 rfl ?_
  refine o_icmpGe X0 d2_8 32 11 (by decide) (by decide) rfl (fun q => by exfalso; exact absurd q (by decide)) ?_
  intro hc8_1
  refine o_lloadN X0 d2_11 rfl 12 rfl ?_
  refine o_bipush (v := (8 : Int32)) X0 d2_12 rfl 14 rfl ?_
  refine o_lshl X0 d2_14 15 rfl ?_
  refine o_aloadN X0 d2_15 rfl rfl 16 rfl ?_
  refine o_iload X0 d2_16 rfl 18 rfl ?_
  refine o_baloadB X0 H0 0 rfl d2_18 3 rfl y3 rfl 19 rfl ?_
  refine o_sipush (v := (255 : Int32)) X0 d2_19 rfl 22 rfl ?_
  refine o_iand X0 d2_22 23 rfl ?_
  refine o_i2l X0 d2_23 24 rfl ?_
  refine o_lor X0 d2_24 25 rfl ?_
  refine o_lstoreN X0 d2_25 #[.val (.ref xa), .val (.int (2 : Int32)), .val (.int (9 : Int32)), .val (.long (((((0 : Int64) <<< (Int32.toInt64 (8 : Int32) &&& 63)) ||| (Int32.toInt64 (y2 &&& (255 : Int32)))) <<< (Int32.toInt64 (8 : Int32) &&& 63)) ||| (Int32.toInt64 (y3 &&& (255 : Int32))))), .second, .val (.int (3 : Int32))] rfl 26 rfl ?_
  refine o_iinc (v := (3 : Int32)) (w := (4 : Int32)) X0 d2_26 rfl rfl #[.val (.ref xa), .val (.int (2 : Int32)), .val (.int (9 : Int32)), .val (.long (((((0 : Int64) <<< (Int32.toInt64 (8 : Int32) &&& 63)) ||| (Int32.toInt64 (y2 &&& (255 : Int32)))) <<< (Int32.toInt64 (8 : Int32) &&& 63)) ||| (Int32.toInt64 (y3 &&& (255 : Int32))))), .second, .val (.int (4 : Int32))] rfl 29 rfl ?_
  refine o_goto X0 d2_29 5 (by decide) (by decide) ?_
  refine o_iload X0 d2_5 rfl 7 rfl ?_
  refine o_iloadN X0 d2_7 rfl 8 rfl ?_
  refine o_icmpGe X0 d2_8 32 11 (by decide) (by decide) rfl (fun q => by exfalso; exact absurd q (by decide)) ?_
  intro hc8_2
  refine o_lloadN X0 d2_11 rfl 12 rfl ?_
  refine o_bipush (v := (8 : Int32)) X0 d2_12 rfl 14 rfl ?_
  refine o_lshl X0 d2_14 15 rfl ?_
  refine o_aloadN X0 d2_15 rfl rfl 16 rfl ?_
  refine o_iload X0 d2_16 rfl 18 rfl ?_
  refine o_baloadB X0 H0 0 rfl d2_18 4 rfl y4 rfl 19 rfl ?_
  refine o_sipush (v := (255 : Int32)) X0 d2_19 rfl 22 rfl ?_
  refine o_iand X0 d2_22 23 rfl ?_
  refine o_i2l X0 d2_23 24 rfl ?_
  refine o_lor X0 d2_24 25 rfl ?_
  refine o_lstoreN X0 d2_25 #[.val (.ref xa), .val (.int (2 : Int32)), .val (.int (9 : Int32)), .val (.long (((((((0 : Int64) <<< (Int32.toInt64 (8 : Int32) &&& 63)) ||| (Int32.toInt64 (y2 &&& (255 : Int32)))) <<< (Int32.toInt64 (8 : Int32) &&& 63)) ||| (Int32.toInt64 (y3 &&& (255 : Int32)))) <<< (Int32.toInt64 (8 : Int32) &&& 63)) ||| (Int32.toInt64 (y4 &&& (255 : Int32))))), .second, .val (.int (4 : Int32))] rfl 26 rfl ?_
  refine o_iinc (v := (4 : Int32)) (w := (5 : Int32)) X0 d2_26 rfl rfl #[.val (.ref xa), .val (.int (2 : Int32)), .val (.int (9 : Int32)), .val (.long (((((((0 : Int64) <<< (Int32.toInt64 (8 : Int32) &&& 63)) ||| (Int32.toInt64 (y2 &&& (255 : Int32)))) <<< (Int32.toInt64 (8 : Int32) &&& 63)) ||| (Int32.toInt64 (y3 &&& (255 : Int32)))) <<< (Int32.toInt64 (8 : Int32) &&& 63)) ||| (Int32.toInt64 (y4 &&& (255 : Int32))))), .second, .val (.int (5 : Int32))] rfl 29 rfl ?_
  refine o_goto X0 d2_29 5 (by decide) (by decide) ?_
  refine o_iload X0 d2_5 rfl 7 rfl ?_
  refine o_iloadN X0 d2_7 rfl 8 rfl ?_
  refine o_icmpGe X0 d2_8 32 11 (by decide) (by decide) rfl (fun q => by exfalso; exact absurd q (by decide)) ?_
  intro hc8_3
  refine o_lloadN X0 d2_11 rfl 12 rfl ?_
  refine o_bipush (v := (8 : Int32)) X0 d2_12 rfl 14 rfl ?_
  refine o_lshl X0 d2_14 15 rfl ?_
  refine o_aloadN X0 d2_15 rfl rfl 16 rfl ?_
  refine o_iload X0 d2_16 rfl 18 rfl ?_
  refine o_baloadB X0 H0 0 rfl d2_18 5 rfl y5 rfl 19 rfl ?_
  refine o_sipush (v := (255 : Int32)) X0 d2_19 rfl 22 rfl ?_
  refine o_iand X0 d2_22 23 rfl ?_
  refine o_i2l X0 d2_23 24 rfl ?_
  refine o_lor X0 d2_24 25 rfl ?_
  refine o_lstoreN X0 d2_25 #[.val (.ref xa), .val (.int (2 : Int32)), .val (.int (9 : Int32)), .val (.long (((((((((0 : Int64) <<< (Int32.toInt64 (8 : Int32) &&& 63)) ||| (Int32.toInt64 (y2 &&& (255 : Int32)))) <<< (Int32.toInt64 (8 : Int32) &&& 63)) ||| (Int32.toInt64 (y3 &&& (255 : Int32)))) <<< (Int32.toInt64 (8 : Int32) &&& 63)) ||| (Int32.toInt64 (y4 &&& (255 : Int32)))) <<< (Int32.toInt64 (8 : Int32) &&& 63)) ||| (Int32.toInt64 (y5 &&& (255 : Int32))))), .second, .val (.int (5 : Int32))] rfl 26 rfl ?_
  refine o_iinc (v := (5 : Int32)) (w := (6 : Int32)) X0 d2_26 rfl rfl #[.val (.ref xa), .val (.int (2 : Int32)), .val (.int (9 : Int32)), .val (.long (((((((((0 : Int64) <<< (Int32.toInt64 (8 : Int32) &&& 63)) ||| (Int32.toInt64 (y2 &&& (255 : Int32)))) <<< (Int32.toInt64 (8 : Int32) &&& 63)) ||| (Int32.toInt64 (y3 &&& (255 : Int32)))) <<< (Int32.toInt64 (8 : Int32) &&& 63)) ||| (Int32.toInt64 (y4 &&& (255 : Int32)))) <<< (Int32.toInt64 (8 : Int32) &&& 63)) ||| (Int32.toInt64 (y5 &&& (255 : Int32))))), .second, .val (.int (6 : Int32))] rfl 29 rfl ?_
  refine o_goto X0 d2_29 5 (by decide) (by decide) ?_
  refine o_iload X0 d2_5 rfl 7 rfl ?_
  refine o_iloadN X0 d2_7 rfl 8 rfl ?_
  refine o_icmpGe X0 d2_8 32 11 (by decide) (by decide) rfl (fun q => by exfalso; exact absurd q (by decide)) ?_
  intro hc8_4
  refine o_lloadN X0 d2_11 rfl 12 rfl ?_
  refine o_bipush (v := (8 : Int32)) X0 d2_12 rfl 14 rfl ?_
  refine o_lshl X0 d2_14 15 rfl ?_
  refine o_aloadN X0 d2_15 rfl rfl 16 rfl ?_
  refine o_iload X0 d2_16 rfl 18 rfl ?_
  refine o_baloadB X0 H0 0 rfl d2_18 6 rfl y6 rfl 19 rfl ?_
  refine o_sipush (v := (255 : Int32)) X0 d2_19 rfl 22 rfl ?_
  refine o_iand X0 d2_22 23 rfl ?_
  refine o_i2l X0 d2_23 24 rfl ?_
  refine o_lor X0 d2_24 25 rfl ?_
  refine o_lstoreN X0 d2_25 #[.val (.ref xa), .val (.int (2 : Int32)), .val (.int (9 : Int32)), .val (.long (((((((((((0 : Int64) <<< (Int32.toInt64 (8 : Int32) &&& 63)) ||| (Int32.toInt64 (y2 &&& (255 : Int32)))) <<< (Int32.toInt64 (8 : Int32) &&& 63)) ||| (Int32.toInt64 (y3 &&& (255 : Int32)))) <<< (Int32.toInt64 (8 : Int32) &&& 63)) ||| (Int32.toInt64 (y4 &&& (255 : Int32)))) <<< (Int32.toInt64 (8 : Int32) &&& 63)) ||| (Int32.toInt64 (y5 &&& (255 : Int32)))) <<< (Int32.toInt64 (8 : Int32) &&& 63)) ||| (Int32.toInt64 (y6 &&& (255 : Int32))))), .second, .val (.int (6 : Int32))] rfl 26 rfl ?_
  refine o_iinc (v := (6 : Int32)) (w := (7 : Int32)) X0 d2_26 rfl rfl #[.val (.ref xa), .val (.int (2 : Int32)), .val (.int (9 : Int32)), .val (.long (((((((((((0 : Int64) <<< (Int32.toInt64 (8 : Int32) &&& 63)) ||| (Int32.toInt64 (y2 &&& (255 : Int32)))) <<< (Int32.toInt64 (8 : Int32) &&& 63)) ||| (Int32.toInt64 (y3 &&& (255 : Int32)))) <<< (Int32.toInt64 (8 : Int32) &&& 63)) ||| (Int32.toInt64 (y4 &&& (255 : Int32)))) <<< (Int32.toInt64 (8 : Int32) &&& 63)) ||| (Int32.toInt64 (y5 &&& (255 : Int32)))) <<< (Int32.toInt64 (8 : Int32) &&& 63)) ||| (Int32.toInt64 (y6 &&& (255 : Int32))))), .second, .val (.int (7 : Int32))] rfl 29 rfl ?_
  refine o_goto X0 d2_29 5 (by decide) (by decide) ?_
  refine o_iload X0 d2_5 rfl 7 rfl ?_
  refine o_iloadN X0 d2_7 rfl 8 rfl ?_
  refine o_icmpGe X0 d2_8 32 11 (by decide) (by decide) rfl (fun q => by exfalso; exact absurd q (by decide)) ?_
  intro hc8_5
  refine o_lloadN X0 d2_11 rfl 12 rfl ?_
  refine o_bipush (v := (8 : Int32)) X0 d2_12 rfl 14 rfl ?_
  refine o_lshl X0 d2_14 15 rfl ?_
  refine o_aloadN X0 d2_15 rfl rfl 16 rfl ?_
  refine o_iload X0 d2_16 rfl 18 rfl ?_
  refine o_baloadB X0 H0 0 rfl d2_18 7 rfl y7 rfl 19 rfl ?_
  refine o_sipush (v := (255 : Int32)) X0 d2_19 rfl 22 rfl ?_
  refine o_iand X0 d2_22 23 rfl ?_
  refine o_i2l X0 d2_23 24 rfl ?_
  refine o_lor X0 d2_24 25 rfl ?_
  refine o_lstoreN X0 d2_25 #[.val (.ref xa), .val (.int (2 : Int32)), .val (.int (9 : Int32)), .val (.long (((((((((((((0 : Int64) <<< (Int32.toInt64 (8 : Int32) &&& 63)) ||| (Int32.toInt64 (y2 &&& (255 : Int32)))) <<< (Int32.toInt64 (8 : Int32) &&& 63)) ||| (Int32.toInt64 (y3 &&& (255 : Int32)))) <<< (Int32.toInt64 (8 : Int32) &&& 63)) ||| (Int32.toInt64 (y4 &&& (255 : Int32)))) <<< (Int32.toInt64 (8 : Int32) &&& 63)) ||| (Int32.toInt64 (y5 &&& (255 : Int32)))) <<< (Int32.toInt64 (8 : Int32) &&& 63)) ||| (Int32.toInt64 (y6 &&& (255 : Int32)))) <<< (Int32.toInt64 (8 : Int32) &&& 63)) ||| (Int32.toInt64 (y7 &&& (255 : Int32))))), .second, .val (.int (7 : Int32))] rfl 26 rfl ?_
  refine o_iinc (v := (7 : Int32)) (w := (8 : Int32)) X0 d2_26 rfl rfl #[.val (.ref xa), .val (.int (2 : Int32)), .val (.int (9 : Int32)), .val (.long (((((((((((((0 : Int64) <<< (Int32.toInt64 (8 : Int32) &&& 63)) ||| (Int32.toInt64 (y2 &&& (255 : Int32)))) <<< (Int32.toInt64 (8 : Int32) &&& 63)) ||| (Int32.toInt64 (y3 &&& (255 : Int32)))) <<< (Int32.toInt64 (8 : Int32) &&& 63)) ||| (Int32.toInt64 (y4 &&& (255 : Int32)))) <<< (Int32.toInt64 (8 : Int32) &&& 63)) ||| (Int32.toInt64 (y5 &&& (255 : Int32)))) <<< (Int32.toInt64 (8 : Int32) &&& 63)) ||| (Int32.toInt64 (y6 &&& (255 : Int32)))) <<< (Int32.toInt64 (8 : Int32) &&& 63)) ||| (Int32.toInt64 (y7 &&& (255 : Int32))))), .second, .val (.int (8 : Int32))] rfl 29 rfl ?_
  refine o_goto X0 d2_29 5 (by decide) (by decide) ?_
  refine o_iload X0 d2_5 rfl 7 rfl ?_
  refine o_iloadN X0 d2_7 rfl 8 rfl ?_
  refine o_icmpGe X0 d2_8 32 11 (by decide) (by decide) rfl (fun q => by exfalso; exact absurd q (by decide)) ?_
  intro hc8_6
  refine o_lloadN X0 d2_11 rfl 12 rfl ?_
  refine o_bipush (v := (8 : Int32)) X0 d2_12 rfl 14 rfl ?_
  refine o_lshl X0 d2_14 15 rfl ?_
  refine o_aloadN X0 d2_15 rfl rfl 16 rfl ?_
  refine o_iload X0 d2_16 rfl 18 rfl ?_
  refine o_baloadB X0 H0 0 rfl d2_18 8 rfl y8 rfl 19 rfl ?_
  refine o_sipush (v := (255 : Int32)) X0 d2_19 rfl 22 rfl ?_
  refine o_iand X0 d2_22 23 rfl ?_
  refine o_i2l X0 d2_23 24 rfl ?_
  refine o_lor X0 d2_24 25 rfl ?_
  refine o_lstoreN X0 d2_25 #[.val (.ref xa), .val (.int (2 : Int32)), .val (.int (9 : Int32)), .val (.long (((((((((((((((0 : Int64) <<< (Int32.toInt64 (8 : Int32) &&& 63)) ||| (Int32.toInt64 (y2 &&& (255 : Int32)))) <<< (Int32.toInt64 (8 : Int32) &&& 63)) ||| (Int32.toInt64 (y3 &&& (255 : Int32)))) <<< (Int32.toInt64 (8 : Int32) &&& 63)) ||| (Int32.toInt64 (y4 &&& (255 : Int32)))) <<< (Int32.toInt64 (8 : Int32) &&& 63)) ||| (Int32.toInt64 (y5 &&& (255 : Int32)))) <<< (Int32.toInt64 (8 : Int32) &&& 63)) ||| (Int32.toInt64 (y6 &&& (255 : Int32)))) <<< (Int32.toInt64 (8 : Int32) &&& 63)) ||| (Int32.toInt64 (y7 &&& (255 : Int32)))) <<< (Int32.toInt64 (8 : Int32) &&& 63)) ||| (Int32.toInt64 (y8 &&& (255 : Int32))))), .second, .val (.int (8 : Int32))] rfl 26 rfl ?_
  refine o_iinc (v := (8 : Int32)) (w := (9 : Int32)) X0 d2_26 rfl rfl #[.val (.ref xa), .val (.int (2 : Int32)), .val (.int (9 : Int32)), .val (.long (((((((((((((((0 : Int64) <<< (Int32.toInt64 (8 : Int32) &&& 63)) ||| (Int32.toInt64 (y2 &&& (255 : Int32)))) <<< (Int32.toInt64 (8 : Int32) &&& 63)) ||| (Int32.toInt64 (y3 &&& (255 : Int32)))) <<< (Int32.toInt64 (8 : Int32) &&& 63)) ||| (Int32.toInt64 (y4 &&& (255 : Int32)))) <<< (Int32.toInt64 (8 : Int32) &&& 63)) ||| (Int32.toInt64 (y5 &&& (255 : Int32)))) <<< (Int32.toInt64 (8 : Int32) &&& 63)) ||| (Int32.toInt64 (y6 &&& (255 : Int32)))) <<< (Int32.toInt64 (8 : Int32) &&& 63)) ||| (Int32.toInt64 (y7 &&& (255 : Int32)))) <<< (Int32.toInt64 (8 : Int32) &&& 63)) ||| (Int32.toInt64 (y8 &&& (255 : Int32))))), .second, .val (.int (9 : Int32))] rfl 29 rfl ?_
  refine o_goto X0 d2_29 5 (by decide) (by decide) ?_
  refine o_iload X0 d2_5 rfl 7 rfl ?_
  refine o_iloadN X0 d2_7 rfl 8 rfl ?_
  refine o_icmpGe X0 d2_8 32 11 (by decide) (by decide) rfl ?_ (fun q => by exfalso; exact absurd q (by decide))
  intro hc8_7
  refine o_lloadN X0 d2_32 rfl 33 rfl ?_
  exact o_retJ X0 d2_33 (by decide) (by decide) (hQ _ _ ⟨rfl, rfl⟩)
set_option maxRecDepth 65536 in
set_option maxHeartbeats 40000000 in
theorem c_pack_2_8 (l : Launch) (Z : State) (a0 : Array Value) (hw : ∀ d ∈ tables_1, d.before a0 Z = true) (ws : List Jvm.Cond) (n0 : Nat) (h0 : Heap) (hn0 : n0 ≤ h0.size) (xa : Addr) (y0 y1 y2 y3 y4 y5 y6 y7 y8 y9 : Int32) (L' : List (Addr × (Cell → Prop))) (H0 : OL n0 h0 ((xa, OA Z .byte [y0, y1, y2, y3, y4, y5, y6, y7, y8, y9]) :: L')) :
    OC l Z (⟨"com/example/vestbook/vestbook/member/MemberIds", "packed", "([BII)J"⟩ : MethodName) prog_68_method_8_code 6 (some .long) ws ({ frames := 0, cells := 0, slots := 0, locals := 0 } : Room) n0 #[(.ref xa), (.int (2 : Int32)), (.int (10 : Int32))] h0 (fun r h => r = some (.long (((((((((((((((((0 : Int64) <<< (Int32.toInt64 (8 : Int32) &&& 63)) ||| (Int32.toInt64 (y2 &&& (255 : Int32)))) <<< (Int32.toInt64 (8 : Int32) &&& 63)) ||| (Int32.toInt64 (y3 &&& (255 : Int32)))) <<< (Int32.toInt64 (8 : Int32) &&& 63)) ||| (Int32.toInt64 (y4 &&& (255 : Int32)))) <<< (Int32.toInt64 (8 : Int32) &&& 63)) ||| (Int32.toInt64 (y5 &&& (255 : Int32)))) <<< (Int32.toInt64 (8 : Int32) &&& 63)) ||| (Int32.toInt64 (y6 &&& (255 : Int32)))) <<< (Int32.toInt64 (8 : Int32) &&& 63)) ||| (Int32.toInt64 (y7 &&& (255 : Int32)))) <<< (Int32.toInt64 (8 : Int32) &&& 63)) ||| (Int32.toInt64 (y8 &&& (255 : Int32)))) <<< (Int32.toInt64 (8 : Int32) &&& 63)) ||| (Int32.toInt64 (y9 &&& (255 : Int32))))) ∧ h0 = h) := by
  refine OC.of pn_1 hn0 #[.val (.ref xa), .val (.int (2 : Int32)), .val (.int (10 : Int32)), .unset, .unset, .unset] (fun m => by first | (simp [entryFrame, mkF, argsToLocals, Value.category, maxLocals]; done) | rfl) ?_
  intro p e s m below meth cd0 T0 X0 Q' hQ
  refine o_lconst (v := (0 : Int64)) X0 d2_0 rfl 1 rfl ?_
  refine o_lstoreN X0 d2_1 #[.val (.ref xa), .val (.int (2 : Int32)), .val (.int (10 : Int32)), .val (.long (0 : Int64)), .second, .unset] rfl 2 rfl ?_
  refine o_iloadN X0 d2_2 rfl 3 rfl ?_
  refine o_istore X0 d2_3 #[.val (.ref xa), .val (.int (2 : Int32)), .val (.int (10 : Int32)), .val (.long (0 : Int64)), .second, .val (.int (2 : Int32))] rfl 5 rfl ?_
  refine o_iload X0 d2_5 rfl 7 rfl ?_
  refine o_iloadN X0 d2_7 rfl 8 rfl ?_
  refine o_icmpGe X0 d2_8 32 11 (by decide) (by decide) rfl (fun q => by exfalso; exact absurd q (by decide)) ?_
  intro hc8
  refine o_lloadN X0 d2_11 rfl 12 rfl ?_
  refine o_bipush (v := (8 : Int32)) X0 d2_12 rfl 14 rfl ?_
  refine o_lshl X0 d2_14 15 rfl ?_
  refine o_aloadN X0 d2_15 rfl rfl 16 rfl ?_
  refine o_iload X0 d2_16 rfl 18 rfl ?_
  refine o_baloadB X0 H0 0 rfl d2_18 2 rfl y2 rfl 19 rfl ?_
  refine o_sipush (v := (255 : Int32)) X0 d2_19 rfl 22 rfl ?_
  refine o_iand X0 d2_22 23 rfl ?_
  refine o_i2l X0 d2_23 24 rfl ?_
  refine o_lor X0 d2_24 25 rfl ?_
  refine o_lstoreN X0 d2_25 #[.val (.ref xa), .val (.int (2 : Int32)), .val (.int (10 : Int32)), .val (.long (((0 : Int64) <<< (Int32.toInt64 (8 : Int32) &&& 63)) ||| (Int32.toInt64 (y2 &&& (255 : Int32))))), .second, .val (.int (2 : Int32))] rfl 26 rfl ?_
  refine o_iinc (v := (2 : Int32)) (w := (3 : Int32)) X0 d2_26 rfl rfl #[.val (.ref xa), .val (.int (2 : Int32)), .val (.int (10 : Int32)), .val (.long (((0 : Int64) <<< (Int32.toInt64 (8 : Int32) &&& 63)) ||| (Int32.toInt64 (y2 &&& (255 : Int32))))), .second, .val (.int (3 : Int32))] rfl 29 rfl ?_
  refine o_goto X0 d2_29 5 (by decide) (by decide) ?_
  refine o_iload X0 d2_5 rfl 7 rfl ?_
  refine o_iloadN X0 d2_7 rfl 8 rfl ?_
  refine o_icmpGe X0 d2_8 32 11 (by decide) (by decide) rfl (fun q => by exfalso; exact absurd q (by decide)) ?_
  intro hc8_1
  refine o_lloadN X0 d2_11 rfl 12 rfl ?_
  refine o_bipush (v := (8 : Int32)) X0 d2_12 rfl 14 rfl ?_
  refine o_lshl X0 d2_14 15 rfl ?_
  refine o_aloadN X0 d2_15 rfl rfl 16 rfl ?_
  refine o_iload X0 d2_16 rfl 18 rfl ?_
  refine o_baloadB X0 H0 0 rfl d2_18 3 rfl y3 rfl 19 rfl ?_
  refine o_sipush (v := (255 : Int32)) X0 d2_19 rfl 22 rfl ?_
  refine o_iand X0 d2_22 23 rfl ?_
  refine o_i2l X0 d2_23 24 rfl ?_
  refine o_lor X0 d2_24 25 rfl ?_
  refine o_lstoreN X0 d2_25 #[.val (.ref xa), .val (.int (2 : Int32)), .val (.int (10 : Int32)), .val (.long (((((0 : Int64) <<< (Int32.toInt64 (8 : Int32) &&& 63)) ||| (Int32.toInt64 (y2 &&& (255 : Int32)))) <<< (Int32.toInt64 (8 : Int32) &&& 63)) ||| (Int32.toInt64 (y3 &&& (255 : Int32))))), .second, .val (.int (3 : Int32))] rfl 26 rfl ?_
  refine o_iinc (v := (3 : Int32)) (w := (4 : Int32)) X0 d2_26 rfl rfl #[.val (.ref xa), .val (.int (2 : Int32)), .val (.int (10 : Int32)), .val (.long (((((0 : Int64) <<< (Int32.toInt64 (8 : Int32) &&& 63)) ||| (Int32.toInt64 (y2 &&& (255 : Int32)))) <<< (Int32.toInt64 (8 : Int32) &&& 63)) ||| (Int32.toInt64 (y3 &&& (255 : Int32))))), .second, .val (.int (4 : Int32))] rfl 29 rfl ?_
  refine o_goto X0 d2_29 5 (by decide) (by decide) ?_
  refine o_iload X0 d2_5 rfl 7 rfl ?_
  refine o_iloadN X0 d2_7 rfl 8 rfl ?_
  refine o_icmpGe X0 d2_8 32 11 (by decide) (by decide) rfl (fun q => by exfalso; exact absurd q (by decide)) ?_
  intro hc8_2
  refine o_lloadN X0 d2_11 rfl 12 rfl ?_
  refine o_bipush (v := (8 : Int32)) X0 d2_12 rfl 14 rfl ?_
  refine o_lshl X0 d2_14 15 rfl ?_
  refine o_aloadN X0 d2_15 rfl rfl 16 rfl ?_
  refine o_iload X0 d2_16 rfl 18 rfl ?_
  refine o_baloadB X0 H0 0 rfl d2_18 4 rfl y4 rfl 19 rfl ?_
  refine o_sipush (v := (255 : Int32)) X0 d2_19 rfl 22 rfl ?_
  refine o_iand X0 d2_22 23 rfl ?_
  refine o_i2l X0 d2_23 24 rfl ?_
  refine o_lor X0 d2_24 25 rfl ?_
  refine o_lstoreN X0 d2_25 #[.val (.ref xa), .val (.int (2 : Int32)), .val (.int (10 : Int32)), .val (.long (((((((0 : Int64) <<< (Int32.toInt64 (8 : Int32) &&& 63)) ||| (Int32.toInt64 (y2 &&& (255 : Int32)))) <<< (Int32.toInt64 (8 : Int32) &&& 63)) ||| (Int32.toInt64 (y3 &&& (255 : Int32)))) <<< (Int32.toInt64 (8 : Int32) &&& 63)) ||| (Int32.toInt64 (y4 &&& (255 : Int32))))), .second, .val (.int (4 : Int32))] rfl 26 rfl ?_
  refine o_iinc (v := (4 : Int32)) (w := (5 : Int32)) X0 d2_26 rfl rfl #[.val (.ref xa), .val (.int (2 : Int32)), .val (.int (10 : Int32)), .val (.long (((((((0 : Int64) <<< (Int32.toInt64 (8 : Int32) &&& 63)) ||| (Int32.toInt64 (y2 &&& (255 : Int32)))) <<< (Int32.toInt64 (8 : Int32) &&& 63)) ||| (Int32.toInt64 (y3 &&& (255 : Int32)))) <<< (Int32.toInt64 (8 : Int32) &&& 63)) ||| (Int32.toInt64 (y4 &&& (255 : Int32))))), .second, .val (.int (5 : Int32))] rfl 29 rfl ?_
  refine o_goto X0 d2_29 5 (by decide) (by decide) ?_
  refine o_iload X0 d2_5 rfl 7 rfl ?_
  refine o_iloadN X0 d2_7 rfl 8 rfl ?_
  refine o_icmpGe X0 d2_8 32 11 (by decide) (by decide) rfl (fun q => by exfalso; exact absurd q (by decide)) ?_
  intro hc8_3
  refine o_lloadN X0 d2_11 rfl 12 rfl ?_
  refine o_bipush (v := (8 : Int32)) X0 d2_12 rfl 14 rfl ?_
  refine o_lshl X0 d2_14 15 rfl ?_
  refine o_aloadN X0 d2_15 rfl rfl 16 rfl ?_
  refine o_iload X0 d2_16 rfl 18 rfl ?_
  refine o_baloadB X0 H0 0 rfl d2_18 5 rfl y5 rfl 19 rfl ?_
  refine o_sipush (v := (255 : Int32)) X0 d2_19 rfl 22 rfl ?_
  refine o_iand X0 d2_22 23 rfl ?_
  refine o_i2l X0 d2_23 24 rfl ?_
  refine o_lor X0 d2_24 25 rfl ?_
  refine o_lstoreN X0 d2_25 #[.val (.ref xa), .val (.int (2 : Int32)), .val (.int (10 : Int32)), .val (.long (((((((((0 : Int64) <<< (Int32.toInt64 (8 : Int32) &&& 63)) ||| (Int32.toInt64 (y2 &&& (255 : Int32)))) <<< (Int32.toInt64 (8 : Int32) &&& 63)) ||| (Int32.toInt64 (y3 &&& (255 : Int32)))) <<< (Int32.toInt64 (8 : Int32) &&& 63)) ||| (Int32.toInt64 (y4 &&& (255 : Int32)))) <<< (Int32.toInt64 (8 : Int32) &&& 63)) ||| (Int32.toInt64 (y5 &&& (255 : Int32))))), .second, .val (.int (5 : Int32))] rfl 26 rfl ?_
  refine o_iinc (v := (5 : Int32)) (w := (6 : Int32)) X0 d2_26 rfl rfl #[.val (.ref xa), .val (.int (2 : Int32)), .val (.int (10 : Int32)), .val (.long (((((((((0 : Int64) <<< (Int32.toInt64 (8 : Int32) &&& 63)) ||| (Int32.toInt64 (y2 &&& (255 : Int32)))) <<< (Int32.toInt64 (8 : Int32) &&& 63)) ||| (Int32.toInt64 (y3 &&& (255 : Int32)))) <<< (Int32.toInt64 (8 : Int32) &&& 63)) ||| (Int32.toInt64 (y4 &&& (255 : Int32)))) <<< (Int32.toInt64 (8 : Int32) &&& 63)) ||| (Int32.toInt64 (y5 &&& (255 : Int32))))), .second, .val (.int (6 : Int32))] rfl 29 rfl ?_
  refine o_goto X0 d2_29 5 (by decide) (by decide) ?_
  refine o_iload X0 d2_5 rfl 7 rfl ?_
  refine o_iloadN X0 d2_7 rfl 8 rfl ?_
  refine o_icmpGe X0 d2_8 32 11 (by decide) (by decide) rfl (fun q => by exfalso; exact absurd q (by decide)) ?_
  intro hc8_4
  refine o_lloadN X0 d2_11 rfl 12 rfl ?_
  refine o_bipush (v := (8 : Int32)) X0 d2_12 rfl 14 rfl ?_
  refine o_lshl X0 d2_14 15 rfl ?_
  refine o_aloadN X0 d2_15 rfl rfl 16 rfl ?_
  refine o_iload X0 d2_16 rfl 18 rfl ?_
  refine o_baloadB X0 H0 0 rfl d2_18 6 rfl y6 rfl 19 rfl ?_
  refine o_sipush (v := (255 : Int32)) X0 d2_19 rfl 22 rfl ?_
  refine o_iand X0 d2_22 23 rfl ?_
  refine o_i2l X0 d2_23 24 rfl ?_
  refine o_lor X0 d2_24 25 rfl ?_
  refine o_lstoreN X0 d2_25 #[.val (.ref xa), .val (.int (2 : Int32)), .val (.int (10 : Int32)), .val (.long (((((((((((0 : Int64) <<< (Int32.toInt64 (8 : Int32) &&& 63)) ||| (Int32.toInt64 (y2 &&& (255 : Int32)))) <<< (Int32.toInt64 (8 : Int32) &&& 63)) ||| (Int32.toInt64 (y3 &&& (255 : Int32)))) <<< (Int32.toInt64 (8 : Int32) &&& 63)) ||| (Int32.toInt64 (y4 &&& (255 : Int32)))) <<< (Int32.toInt64 (8 : Int32) &&& 63)) ||| (Int32.toInt64 (y5 &&& (255 : Int32)))) <<< (Int32.toInt64 (8 : Int32) &&& 63)) ||| (Int32.toInt64 (y6 &&& (255 : Int32))))), .second, .val (.int (6 : Int32))] rfl 26 rfl ?_
  refine o_iinc (v := (6 : Int32)) (w := (7 : Int32)) X0 d2_26 rfl rfl #[.val (.ref xa), .val (.int (2 : Int32)), .val (.int (10 : Int32)), .val (.long (((((((((((0 : Int64) <<< (Int32.toInt64 (8 : Int32) &&& 63)) ||| (Int32.toInt64 (y2 &&& (255 : Int32)))) <<< (Int32.toInt64 (8 : Int32) &&& 63)) ||| (Int32.toInt64 (y3 &&& (255 : Int32)))) <<< (Int32.toInt64 (8 : Int32) &&& 63)) ||| (Int32.toInt64 (y4 &&& (255 : Int32)))) <<< (Int32.toInt64 (8 : Int32) &&& 63)) ||| (Int32.toInt64 (y5 &&& (255 : Int32)))) <<< (Int32.toInt64 (8 : Int32) &&& 63)) ||| (Int32.toInt64 (y6 &&& (255 : Int32))))), .second, .val (.int (7 : Int32))] rfl 29 rfl ?_
  refine o_goto X0 d2_29 5 (by decide) (by decide) ?_
  refine o_iload X0 d2_5 rfl 7 rfl ?_
  refine o_iloadN X0 d2_7 rfl 8 rfl ?_
  refine o_icmpGe X0 d2_8 32 11 (by decide) (by decide) rfl (fun q => by exfalso; exact absurd q (by decide)) ?_
  intro hc8_5
  refine o_lloadN X0 d2_11 rfl 12 rfl ?_
  refine o_bipush (v := (8 : Int32)) X0 d2_12 rfl 14 rfl ?_
  refine o_lshl X0 d2_14 15 rfl ?_
  refine o_aloadN X0 d2_15 rfl rfl 16 rfl ?_
  refine o_iload X0 d2_16 rfl 18 rfl ?_
  refine o_baloadB X0 H0 0 rfl d2_18 7 rfl y7 rfl 19 rfl ?_
  refine o_sipush (v := (255 : Int32)) X0 d2_19 rfl 22 rfl ?_
  refine o_iand X0 d2_22 23 rfl ?_
  refine o_i2l X0 d2_23 24 rfl ?_
  refine o_lor X0 d2_24 25 rfl ?_
  refine o_lstoreN X0 d2_25 #[.val (.ref xa), .val (.int (2 : Int32)), .val (.int (10 : Int32)), .val (.long (((((((((((((0 : Int64) <<< (Int32.toInt64 (8 : Int32) &&& 63)) ||| (Int32.toInt64 (y2 &&& (255 : Int32)))) <<< (Int32.toInt64 (8 : Int32) &&& 63)) ||| (Int32.toInt64 (y3 &&& (255 : Int32)))) <<< (Int32.toInt64 (8 : Int32) &&& 63)) ||| (Int32.toInt64 (y4 &&& (255 : Int32)))) <<< (Int32.toInt64 (8 : Int32) &&& 63)) ||| (Int32.toInt64 (y5 &&& (255 : Int32)))) <<< (Int32.toInt64 (8 : Int32) &&& 63)) ||| (Int32.toInt64 (y6 &&& (255 : Int32)))) <<< (Int32.toInt64 (8 : Int32) &&& 63)) ||| (Int32.toInt64 (y7 &&& (255 : Int32))))), .second, .val (.int (7 : Int32))] rfl 26 rfl ?_
  refine o_iinc (v := (7 : Int32)) (w := (8 : Int32)) X0 d2_26 rfl rfl #[.val (.ref xa), .val (.int (2 : Int32)), .val (.int (10 : Int32)), .val (.long (((((((((((((0 : Int64) <<< (Int32.toInt64 (8 : Int32) &&& 63)) ||| (Int32.toInt64 (y2 &&& (255 : Int32)))) <<< (Int32.toInt64 (8 : Int32) &&& 63)) ||| (Int32.toInt64 (y3 &&& (255 : Int32)))) <<< (Int32.toInt64 (8 : Int32) &&& 63)) ||| (Int32.toInt64 (y4 &&& (255 : Int32)))) <<< (Int32.toInt64 (8 : Int32) &&& 63)) ||| (Int32.toInt64 (y5 &&& (255 : Int32)))) <<< (Int32.toInt64 (8 : Int32) &&& 63)) ||| (Int32.toInt64 (y6 &&& (255 : Int32)))) <<< (Int32.toInt64 (8 : Int32) &&& 63)) ||| (Int32.toInt64 (y7 &&& (255 : Int32))))), .second, .val (.int (8 : Int32))] rfl 29 rfl ?_
  refine o_goto X0 d2_29 5 (by decide) (by decide) ?_
  refine o_iload X0 d2_5 rfl 7 rfl ?_
  refine o_iloadN X0 d2_7 rfl 8 rfl ?_
  refine o_icmpGe X0 d2_8 32 11 (by decide) (by decide) rfl (fun q => by exfalso; exact absurd q (by decide)) ?_
  intro hc8_6
  refine o_lloadN X0 d2_11 rfl 12 rfl ?_
  refine o_bipush (v := (8 : Int32)) X0 d2_12 rfl 14 rfl ?_
  refine o_lshl X0 d2_14 15 rfl ?_
  refine o_aloadN X0 d2_15 rfl rfl 16 rfl ?_
  refine o_iload X0 d2_16 rfl 18 rfl ?_
  refine o_baloadB X0 H0 0 rfl d2_18 8 rfl y8 rfl 19 rfl ?_
  refine o_sipush (v := (255 : Int32)) X0 d2_19 rfl 22 rfl ?_
  refine o_iand X0 d2_22 23 rfl ?_
  refine o_i2l X0 d2_23 24 rfl ?_
  refine o_lor X0 d2_24 25 rfl ?_
  refine o_lstoreN X0 d2_25 #[.val (.ref xa), .val (.int (2 : Int32)), .val (.int (10 : Int32)), .val (.long (((((((((((((((0 : Int64) <<< (Int32.toInt64 (8 : Int32) &&& 63)) ||| (Int32.toInt64 (y2 &&& (255 : Int32)))) <<< (Int32.toInt64 (8 : Int32) &&& 63)) ||| (Int32.toInt64 (y3 &&& (255 : Int32)))) <<< (Int32.toInt64 (8 : Int32) &&& 63)) ||| (Int32.toInt64 (y4 &&& (255 : Int32)))) <<< (Int32.toInt64 (8 : Int32) &&& 63)) ||| (Int32.toInt64 (y5 &&& (255 : Int32)))) <<< (Int32.toInt64 (8 : Int32) &&& 63)) ||| (Int32.toInt64 (y6 &&& (255 : Int32)))) <<< (Int32.toInt64 (8 : Int32) &&& 63)) ||| (Int32.toInt64 (y7 &&& (255 : Int32)))) <<< (Int32.toInt64 (8 : Int32) &&& 63)) ||| (Int32.toInt64 (y8 &&& (255 : Int32))))), .second, .val (.int (8 : Int32))] rfl 26 rfl ?_
  refine o_iinc (v := (8 : Int32)) (w := (9 : Int32)) X0 d2_26 rfl rfl #[.val (.ref xa), .val (.int (2 : Int32)), .val (.int (10 : Int32)), .val (.long (((((((((((((((0 : Int64) <<< (Int32.toInt64 (8 : Int32) &&& 63)) ||| (Int32.toInt64 (y2 &&& (255 : Int32)))) <<< (Int32.toInt64 (8 : Int32) &&& 63)) ||| (Int32.toInt64 (y3 &&& (255 : Int32)))) <<< (Int32.toInt64 (8 : Int32) &&& 63)) ||| (Int32.toInt64 (y4 &&& (255 : Int32)))) <<< (Int32.toInt64 (8 : Int32) &&& 63)) ||| (Int32.toInt64 (y5 &&& (255 : Int32)))) <<< (Int32.toInt64 (8 : Int32) &&& 63)) ||| (Int32.toInt64 (y6 &&& (255 : Int32)))) <<< (Int32.toInt64 (8 : Int32) &&& 63)) ||| (Int32.toInt64 (y7 &&& (255 : Int32)))) <<< (Int32.toInt64 (8 : Int32) &&& 63)) ||| (Int32.toInt64 (y8 &&& (255 : Int32))))), .second, .val (.int (9 : Int32))] rfl 29 rfl ?_
  refine o_goto X0 d2_29 5 (by decide) (by decide) ?_
  refine o_iload X0 d2_5 rfl 7 rfl ?_
  refine o_iloadN X0 d2_7 rfl 8 rfl ?_
  refine o_icmpGe X0 d2_8 32 11 (by decide) (by decide) rfl (fun q => by exfalso; exact absurd q (by decide)) ?_
  intro hc8_7
  refine o_lloadN X0 d2_11 rfl 12 rfl ?_
  refine o_bipush (v := (8 : Int32)) X0 d2_12 rfl 14 rfl ?_
  refine o_lshl X0 d2_14 15 rfl ?_
  refine o_aloadN X0 d2_15 rfl rfl 16 rfl ?_
  refine o_iload X0 d2_16 rfl 18 rfl ?_
  refine o_baloadB X0 H0 0 rfl d2_18 9 rfl y9 rfl 19 rfl ?_
  refine o_sipush (v := (255 : Int32)) X0 d2_19 rfl 22 rfl ?_
  refine o_iand X0 d2_22 23 rfl ?_
  refine o_i2l X0 d2_23 24 rfl ?_
  refine o_lor X0 d2_24 25 rfl ?_
  refine o_lstoreN X0 d2_25 #[.val (.ref xa), .val (.int (2 : Int32)), .val (.int (10 : Int32)), .val (.long (((((((((((((((((0 : Int64) <<< (Int32.toInt64 (8 : Int32) &&& 63)) ||| (Int32.toInt64 (y2 &&& (255 : Int32)))) <<< (Int32.toInt64 (8 : Int32) &&& 63)) ||| (Int32.toInt64 (y3 &&& (255 : Int32)))) <<< (Int32.toInt64 (8 : Int32) &&& 63)) ||| (Int32.toInt64 (y4 &&& (255 : Int32)))) <<< (Int32.toInt64 (8 : Int32) &&& 63)) ||| (Int32.toInt64 (y5 &&& (255 : Int32)))) <<< (Int32.toInt64 (8 : Int32) &&& 63)) ||| (Int32.toInt64 (y6 &&& (255 : Int32)))) <<< (Int32.toInt64 (8 : Int32) &&& 63)) ||| (Int32.toInt64 (y7 &&& (255 : Int32)))) <<< (Int32.toInt64 (8 : Int32) &&& 63)) ||| (Int32.toInt64 (y8 &&& (255 : Int32)))) <<< (Int32.toInt64 (8 : Int32) &&& 63)) ||| (Int32.toInt64 (y9 &&& (255 : Int32))))), .second, .val (.int (9 : Int32))] rfl 26 rfl ?_
  refine o_iinc (v := (9 : Int32)) (w := (10 : Int32)) X0 d2_26 rfl rfl #[.val (.ref xa), .val (.int (2 : Int32)), .val (.int (10 : Int32)), .val (.long (((((((((((((((((0 : Int64) <<< (Int32.toInt64 (8 : Int32) &&& 63)) ||| (Int32.toInt64 (y2 &&& (255 : Int32)))) <<< (Int32.toInt64 (8 : Int32) &&& 63)) ||| (Int32.toInt64 (y3 &&& (255 : Int32)))) <<< (Int32.toInt64 (8 : Int32) &&& 63)) ||| (Int32.toInt64 (y4 &&& (255 : Int32)))) <<< (Int32.toInt64 (8 : Int32) &&& 63)) ||| (Int32.toInt64 (y5 &&& (255 : Int32)))) <<< (Int32.toInt64 (8 : Int32) &&& 63)) ||| (Int32.toInt64 (y6 &&& (255 : Int32)))) <<< (Int32.toInt64 (8 : Int32) &&& 63)) ||| (Int32.toInt64 (y7 &&& (255 : Int32)))) <<< (Int32.toInt64 (8 : Int32) &&& 63)) ||| (Int32.toInt64 (y8 &&& (255 : Int32)))) <<< (Int32.toInt64 (8 : Int32) &&& 63)) ||| (Int32.toInt64 (y9 &&& (255 : Int32))))), .second, .val (.int (10 : Int32))] rfl 29 rfl ?_
  refine o_goto X0 d2_29 5 (by decide) (by decide) ?_
  refine o_iload X0 d2_5 rfl 7 rfl ?_
  refine o_iloadN X0 d2_7 rfl 8 rfl ?_
  refine o_icmpGe X0 d2_8 32 11 (by decide) (by decide) rfl ?_ (fun q => by exfalso; exact absurd q (by decide))
  intro hc8_8
  refine o_lloadN X0 d2_32 rfl 33 rfl ?_
  exact o_retJ X0 d2_33 (by decide) (by decide) (hQ _ _ ⟨rfl, rfl⟩)
set_option maxRecDepth 65536 in
set_option maxHeartbeats 40000000 in
theorem c_law (l : Launch) (Z : State) (a0 : Array Value) (hw : ∀ d ∈ tables_1, d.before a0 Z = true) (ws : List Jvm.Cond) (n0 : Nat) (h0 : Heap) (hn0 : n0 ≤ h0.size) (xa : Int64) (xb : Int32) (xs : Int32) (xn : Int32) :
    OC l Z x code maxLocals ret ws room_1 n0 #[(.long xa), (.int xb), (.int xs), (.int xn)] h0 (fun r h => r = some (.int 1)) := by
  refine OC.of pn_0 hn0 #[.val (.long xa), .second, .val (.int xb), .val (.int xs), .val (.int xn), .unset, .unset, .unset, .unset, .unset, .unset, .unset] (fun m => by first | (simp [entryFrame, mkF, argsToLocals, Value.category, maxLocals]; done) | rfl) ?_
  intro p e s m below meth cd0 T0 X0 Q' hQ
  refine o_iloadN X0 at_0 rfl 1 rfl ?_
  refine o_ldc (v := (2147483647 : Int32)) X0 at_1 (hw _ (List.mem_of_getElem? (i := 0) rfl)) 3 rfl ?_
  refine o_iand X0 at_3 4 rfl ?_
  refine o_iconst (v := (3 : Int32)) X0 at_4 rfl 5 rfl ?_
  refine o_irem X0 at_5 (by decide) 6 rfl ?_
  refine o_istore X0 at_6 #[.val (.long xa), .second, .val (.int xb), .val (.int xs), .val (.int xn), .val (.int ((xs &&& (2147483647 : Int32)) % (3 : Int32))), .unset, .unset, .unset, .unset, .unset, .unset] rfl 8 rfl ?_
  rcases v_s xs with hv | hv | hv
  · rw [hv]
    refine o_iload X0 at_8 rfl 10 rfl ?_
    refine o_ldc (v := (2147483647 : Int32)) X0 at_10 (hw _ (List.mem_of_getElem? (i := 0) rfl)) 12 rfl ?_
    refine o_iand X0 at_12 13 rfl ?_
    refine o_bipush (v := (9 : Int32)) X0 at_13 rfl 15 rfl ?_
    refine o_irem X0 at_15 (by decide) 16 rfl ?_
    refine o_istore X0 at_16 #[.val (.long xa), .second, .val (.int xb), .val (.int xs), .val (.int xn), .val (.int (0 : Int32)), .val (.int ((xn &&& (2147483647 : Int32)) % (9 : Int32))), .unset, .unset, .unset, .unset, .unset] rfl 18 rfl ?_
    refine o_bipush (v := (10 : Int32)) X0 at_18 rfl 20 rfl ?_
    refine o_newarray (L := []) X0 OL.nil at_20 (hw _ (List.mem_of_getElem? (i := 1) rfl)) rfl rfl 10 10 rfl (by decide) (by decide) 1 10 rfl rfl (by decide) (by decide) 22 rfl ?_
    intro T1 h1 b1 X1 H1
    replace H1 : OL n0 h1 ((b1, OA Z .byte [(0 : Int32), (0 : Int32), (0 : Int32), (0 : Int32), (0 : Int32), (0 : Int32), (0 : Int32), (0 : Int32), (0 : Int32), (0 : Int32)]) :: []) := H1
    refine o_astore X1 at_22 rfl #[.val (.long xa), .second, .val (.int xb), .val (.int xs), .val (.int xn), .val (.int (0 : Int32)), .val (.int ((xn &&& (2147483647 : Int32)) % (9 : Int32))), .val (.ref b1), .unset, .unset, .unset, .unset] rfl 24 rfl ?_
    refine o_aload X1 at_24 rfl rfl 26 rfl ?_
    refine o_iconst (v := (0 : Int32)) X1 at_26 rfl 27 rfl ?_
    refine o_iconst (v := (0 : Int32)) X1 at_27 rfl 28 rfl ?_
    refine o_iload X1 at_28 rfl 30 rfl ?_
    refine o_lloadN X1 at_30 rfl 31 rfl ?_
    refine o_iloadN X1 at_31 rfl 32 rfl ?_
    refine o_callS X1 at_32 (rest := [(.int (0 : Int32)), (.ref b1)]) (c_at l Z a0 hw [] n0 _ X1.size (0 : Int32) (0 : Int32) xa xb ) (hw _ (List.mem_of_getElem? (i := 2) rfl)) (hw _ (List.mem_of_getElem? (i := 3) rfl)) (hw _ (List.mem_of_getElem? (i := 4) rfl)) (hw _ (List.mem_of_getElem? (i := 5) rfl)) (by decide) 2 (by decide) (by decide) rfl [(.int (0 : Int32)), (.int (0 : Int32)), (.long xa), (.int xb)] rfl pd_1 rfl rfl (Nat.le_of_eq rfl) 1 10 rfl rfl (by decide) (by decide) 35 rfl ?_
    rintro _ T2 _ X2 ⟨rfl, rfl⟩
    rw [show (f_at (0 : Int32) (0 : Int32) xa xb) = (f_by xa (56 : Int32)) from rfl]
    show OE p e room_1 below s n0 Q' T2 (mkF m 35 #[.val (.long xa), .second, .val (.int xb), .val (.int xs), .val (.int xn), .val (.int (0 : Int32)), .val (.int ((xn &&& (2147483647 : Int32)) % (9 : Int32))), .val (.ref b1), .unset, .unset, .unset, .unset] [(.int (f_by xa (56 : Int32))), (.int (0 : Int32)), (.ref b1)])
    refine o_bastoreB X2 H1 0 rfl at_35 0 rfl (by show 0 < 10; decide) (f_by xa (56 : Int32)) (v_byn _ _) 36 rfl ?_
    intro T3 h3 X3 H3
    replace H3 : OL n0 h3 ((b1, OA Z .byte [(f_by xa (56 : Int32)), (0 : Int32), (0 : Int32), (0 : Int32), (0 : Int32), (0 : Int32), (0 : Int32), (0 : Int32), (0 : Int32), (0 : Int32)]) :: []) := H3
    refine o_aload X3 at_36 rfl rfl 38 rfl ?_
    refine o_iconst (v := (1 : Int32)) X3 at_38 rfl 39 rfl ?_
    refine o_iconst (v := (1 : Int32)) X3 at_39 rfl 40 rfl ?_
    refine o_iload X3 at_40 rfl 42 rfl ?_
    refine o_lloadN X3 at_42 rfl 43 rfl ?_
    refine o_iloadN X3 at_43 rfl 44 rfl ?_
    refine o_callS X3 at_44 (rest := [(.int (1 : Int32)), (.ref b1)]) (c_at l Z a0 hw [] n0 _ X3.size (1 : Int32) (0 : Int32) xa xb ) (hw _ (List.mem_of_getElem? (i := 2) rfl)) (hw _ (List.mem_of_getElem? (i := 3) rfl)) (hw _ (List.mem_of_getElem? (i := 4) rfl)) (hw _ (List.mem_of_getElem? (i := 5) rfl)) (by decide) 2 (by decide) (by decide) rfl [(.int (1 : Int32)), (.int (0 : Int32)), (.long xa), (.int xb)] rfl pd_1 rfl rfl (Nat.le_of_eq rfl) 1 10 rfl rfl (by decide) (by decide) 47 rfl ?_
    rintro _ T4 _ X4 ⟨rfl, rfl⟩
    rw [show (f_at (1 : Int32) (0 : Int32) xa xb) = (f_by xa (48 : Int32)) from rfl]
    show OE p e room_1 below s n0 Q' T4 (mkF m 47 #[.val (.long xa), .second, .val (.int xb), .val (.int xs), .val (.int xn), .val (.int (0 : Int32)), .val (.int ((xn &&& (2147483647 : Int32)) % (9 : Int32))), .val (.ref b1), .unset, .unset, .unset, .unset] [(.int (f_by xa (48 : Int32))), (.int (1 : Int32)), (.ref b1)])
    refine o_bastoreB X4 H3 0 rfl at_47 1 rfl (by show 1 < 10; decide) (f_by xa (48 : Int32)) (v_byn _ _) 48 rfl ?_
    intro T5 h5 X5 H5
    replace H5 : OL n0 h5 ((b1, OA Z .byte [(f_by xa (56 : Int32)), (f_by xa (48 : Int32)), (0 : Int32), (0 : Int32), (0 : Int32), (0 : Int32), (0 : Int32), (0 : Int32), (0 : Int32), (0 : Int32)]) :: []) := H5
    refine o_aload X5 at_48 rfl rfl 50 rfl ?_
    refine o_iconst (v := (2 : Int32)) X5 at_50 rfl 51 rfl ?_
    refine o_iconst (v := (2 : Int32)) X5 at_51 rfl 52 rfl ?_
    refine o_iload X5 at_52 rfl 54 rfl ?_
    refine o_lloadN X5 at_54 rfl 55 rfl ?_
    refine o_iloadN X5 at_55 rfl 56 rfl ?_
    refine o_callS X5 at_56 (rest := [(.int (2 : Int32)), (.ref b1)]) (c_at l Z a0 hw [] n0 _ X5.size (2 : Int32) (0 : Int32) xa xb ) (hw _ (List.mem_of_getElem? (i := 2) rfl)) (hw _ (List.mem_of_getElem? (i := 3) rfl)) (hw _ (List.mem_of_getElem? (i := 4) rfl)) (hw _ (List.mem_of_getElem? (i := 5) rfl)) (by decide) 2 (by decide) (by decide) rfl [(.int (2 : Int32)), (.int (0 : Int32)), (.long xa), (.int xb)] rfl pd_1 rfl rfl (Nat.le_of_eq rfl) 1 10 rfl rfl (by decide) (by decide) 59 rfl ?_
    rintro _ T6 _ X6 ⟨rfl, rfl⟩
    rw [show (f_at (2 : Int32) (0 : Int32) xa xb) = (f_by xa (40 : Int32)) from rfl]
    show OE p e room_1 below s n0 Q' T6 (mkF m 59 #[.val (.long xa), .second, .val (.int xb), .val (.int xs), .val (.int xn), .val (.int (0 : Int32)), .val (.int ((xn &&& (2147483647 : Int32)) % (9 : Int32))), .val (.ref b1), .unset, .unset, .unset, .unset] [(.int (f_by xa (40 : Int32))), (.int (2 : Int32)), (.ref b1)])
    refine o_bastoreB X6 H5 0 rfl at_59 2 rfl (by show 2 < 10; decide) (f_by xa (40 : Int32)) (v_byn _ _) 60 rfl ?_
    intro T7 h7 X7 H7
    replace H7 : OL n0 h7 ((b1, OA Z .byte [(f_by xa (56 : Int32)), (f_by xa (48 : Int32)), (f_by xa (40 : Int32)), (0 : Int32), (0 : Int32), (0 : Int32), (0 : Int32), (0 : Int32), (0 : Int32), (0 : Int32)]) :: []) := H7
    refine o_aload X7 at_60 rfl rfl 62 rfl ?_
    refine o_iconst (v := (3 : Int32)) X7 at_62 rfl 63 rfl ?_
    refine o_iconst (v := (3 : Int32)) X7 at_63 rfl 64 rfl ?_
    refine o_iload X7 at_64 rfl 66 rfl ?_
    refine o_lloadN X7 at_66 rfl 67 rfl ?_
    refine o_iloadN X7 at_67 rfl 68 rfl ?_
    refine o_callS X7 at_68 (rest := [(.int (3 : Int32)), (.ref b1)]) (c_at l Z a0 hw [] n0 _ X7.size (3 : Int32) (0 : Int32) xa xb ) (hw _ (List.mem_of_getElem? (i := 2) rfl)) (hw _ (List.mem_of_getElem? (i := 3) rfl)) (hw _ (List.mem_of_getElem? (i := 4) rfl)) (hw _ (List.mem_of_getElem? (i := 5) rfl)) (by decide) 2 (by decide) (by decide) rfl [(.int (3 : Int32)), (.int (0 : Int32)), (.long xa), (.int xb)] rfl pd_1 rfl rfl (Nat.le_of_eq rfl) 1 10 rfl rfl (by decide) (by decide) 71 rfl ?_
    rintro _ T8 _ X8 ⟨rfl, rfl⟩
    rw [show (f_at (3 : Int32) (0 : Int32) xa xb) = (f_by xa (32 : Int32)) from rfl]
    show OE p e room_1 below s n0 Q' T8 (mkF m 71 #[.val (.long xa), .second, .val (.int xb), .val (.int xs), .val (.int xn), .val (.int (0 : Int32)), .val (.int ((xn &&& (2147483647 : Int32)) % (9 : Int32))), .val (.ref b1), .unset, .unset, .unset, .unset] [(.int (f_by xa (32 : Int32))), (.int (3 : Int32)), (.ref b1)])
    refine o_bastoreB X8 H7 0 rfl at_71 3 rfl (by show 3 < 10; decide) (f_by xa (32 : Int32)) (v_byn _ _) 72 rfl ?_
    intro T9 h9 X9 H9
    replace H9 : OL n0 h9 ((b1, OA Z .byte [(f_by xa (56 : Int32)), (f_by xa (48 : Int32)), (f_by xa (40 : Int32)), (f_by xa (32 : Int32)), (0 : Int32), (0 : Int32), (0 : Int32), (0 : Int32), (0 : Int32), (0 : Int32)]) :: []) := H9
    refine o_aload X9 at_72 rfl rfl 74 rfl ?_
    refine o_iconst (v := (4 : Int32)) X9 at_74 rfl 75 rfl ?_
    refine o_iconst (v := (4 : Int32)) X9 at_75 rfl 76 rfl ?_
    refine o_iload X9 at_76 rfl 78 rfl ?_
    refine o_lloadN X9 at_78 rfl 79 rfl ?_
    refine o_iloadN X9 at_79 rfl 80 rfl ?_
    refine o_callS X9 at_80 (rest := [(.int (4 : Int32)), (.ref b1)]) (c_at l Z a0 hw [] n0 _ X9.size (4 : Int32) (0 : Int32) xa xb ) (hw _ (List.mem_of_getElem? (i := 2) rfl)) (hw _ (List.mem_of_getElem? (i := 3) rfl)) (hw _ (List.mem_of_getElem? (i := 4) rfl)) (hw _ (List.mem_of_getElem? (i := 5) rfl)) (by decide) 2 (by decide) (by decide) rfl [(.int (4 : Int32)), (.int (0 : Int32)), (.long xa), (.int xb)] rfl pd_1 rfl rfl (Nat.le_of_eq rfl) 1 10 rfl rfl (by decide) (by decide) 83 rfl ?_
    rintro _ T10 _ X10 ⟨rfl, rfl⟩
    rw [show (f_at (4 : Int32) (0 : Int32) xa xb) = (f_by xa (24 : Int32)) from rfl]
    show OE p e room_1 below s n0 Q' T10 (mkF m 83 #[.val (.long xa), .second, .val (.int xb), .val (.int xs), .val (.int xn), .val (.int (0 : Int32)), .val (.int ((xn &&& (2147483647 : Int32)) % (9 : Int32))), .val (.ref b1), .unset, .unset, .unset, .unset] [(.int (f_by xa (24 : Int32))), (.int (4 : Int32)), (.ref b1)])
    refine o_bastoreB X10 H9 0 rfl at_83 4 rfl (by show 4 < 10; decide) (f_by xa (24 : Int32)) (v_byn _ _) 84 rfl ?_
    intro T11 h11 X11 H11
    replace H11 : OL n0 h11 ((b1, OA Z .byte [(f_by xa (56 : Int32)), (f_by xa (48 : Int32)), (f_by xa (40 : Int32)), (f_by xa (32 : Int32)), (f_by xa (24 : Int32)), (0 : Int32), (0 : Int32), (0 : Int32), (0 : Int32), (0 : Int32)]) :: []) := H11
    refine o_aload X11 at_84 rfl rfl 86 rfl ?_
    refine o_iconst (v := (5 : Int32)) X11 at_86 rfl 87 rfl ?_
    refine o_iconst (v := (5 : Int32)) X11 at_87 rfl 88 rfl ?_
    refine o_iload X11 at_88 rfl 90 rfl ?_
    refine o_lloadN X11 at_90 rfl 91 rfl ?_
    refine o_iloadN X11 at_91 rfl 92 rfl ?_
    refine o_callS X11 at_92 (rest := [(.int (5 : Int32)), (.ref b1)]) (c_at l Z a0 hw [] n0 _ X11.size (5 : Int32) (0 : Int32) xa xb ) (hw _ (List.mem_of_getElem? (i := 2) rfl)) (hw _ (List.mem_of_getElem? (i := 3) rfl)) (hw _ (List.mem_of_getElem? (i := 4) rfl)) (hw _ (List.mem_of_getElem? (i := 5) rfl)) (by decide) 2 (by decide) (by decide) rfl [(.int (5 : Int32)), (.int (0 : Int32)), (.long xa), (.int xb)] rfl pd_1 rfl rfl (Nat.le_of_eq rfl) 1 10 rfl rfl (by decide) (by decide) 95 rfl ?_
    rintro _ T12 _ X12 ⟨rfl, rfl⟩
    rw [show (f_at (5 : Int32) (0 : Int32) xa xb) = (f_by xa (16 : Int32)) from rfl]
    show OE p e room_1 below s n0 Q' T12 (mkF m 95 #[.val (.long xa), .second, .val (.int xb), .val (.int xs), .val (.int xn), .val (.int (0 : Int32)), .val (.int ((xn &&& (2147483647 : Int32)) % (9 : Int32))), .val (.ref b1), .unset, .unset, .unset, .unset] [(.int (f_by xa (16 : Int32))), (.int (5 : Int32)), (.ref b1)])
    refine o_bastoreB X12 H11 0 rfl at_95 5 rfl (by show 5 < 10; decide) (f_by xa (16 : Int32)) (v_byn _ _) 96 rfl ?_
    intro T13 h13 X13 H13
    replace H13 : OL n0 h13 ((b1, OA Z .byte [(f_by xa (56 : Int32)), (f_by xa (48 : Int32)), (f_by xa (40 : Int32)), (f_by xa (32 : Int32)), (f_by xa (24 : Int32)), (f_by xa (16 : Int32)), (0 : Int32), (0 : Int32), (0 : Int32), (0 : Int32)]) :: []) := H13
    refine o_aload X13 at_96 rfl rfl 98 rfl ?_
    refine o_bipush (v := (6 : Int32)) X13 at_98 rfl 100 rfl ?_
    refine o_bipush (v := (6 : Int32)) X13 at_100 rfl 102 rfl ?_
    refine o_iload X13 at_102 rfl 104 rfl ?_
    refine o_lloadN X13 at_104 rfl 105 rfl ?_
    refine o_iloadN X13 at_105 rfl 106 rfl ?_
    refine o_callS X13 at_106 (rest := [(.int (6 : Int32)), (.ref b1)]) (c_at l Z a0 hw [] n0 _ X13.size (6 : Int32) (0 : Int32) xa xb ) (hw _ (List.mem_of_getElem? (i := 2) rfl)) (hw _ (List.mem_of_getElem? (i := 3) rfl)) (hw _ (List.mem_of_getElem? (i := 4) rfl)) (hw _ (List.mem_of_getElem? (i := 5) rfl)) (by decide) 2 (by decide) (by decide) rfl [(.int (6 : Int32)), (.int (0 : Int32)), (.long xa), (.int xb)] rfl pd_1 rfl rfl (Nat.le_of_eq rfl) 1 10 rfl rfl (by decide) (by decide) 109 rfl ?_
    rintro _ T14 _ X14 ⟨rfl, rfl⟩
    rw [show (f_at (6 : Int32) (0 : Int32) xa xb) = (f_by xa (8 : Int32)) from rfl]
    show OE p e room_1 below s n0 Q' T14 (mkF m 109 #[.val (.long xa), .second, .val (.int xb), .val (.int xs), .val (.int xn), .val (.int (0 : Int32)), .val (.int ((xn &&& (2147483647 : Int32)) % (9 : Int32))), .val (.ref b1), .unset, .unset, .unset, .unset] [(.int (f_by xa (8 : Int32))), (.int (6 : Int32)), (.ref b1)])
    refine o_bastoreB X14 H13 0 rfl at_109 6 rfl (by show 6 < 10; decide) (f_by xa (8 : Int32)) (v_byn _ _) 110 rfl ?_
    intro T15 h15 X15 H15
    replace H15 : OL n0 h15 ((b1, OA Z .byte [(f_by xa (56 : Int32)), (f_by xa (48 : Int32)), (f_by xa (40 : Int32)), (f_by xa (32 : Int32)), (f_by xa (24 : Int32)), (f_by xa (16 : Int32)), (f_by xa (8 : Int32)), (0 : Int32), (0 : Int32), (0 : Int32)]) :: []) := H15
    refine o_aload X15 at_110 rfl rfl 112 rfl ?_
    refine o_bipush (v := (7 : Int32)) X15 at_112 rfl 114 rfl ?_
    refine o_bipush (v := (7 : Int32)) X15 at_114 rfl 116 rfl ?_
    refine o_iload X15 at_116 rfl 118 rfl ?_
    refine o_lloadN X15 at_118 rfl 119 rfl ?_
    refine o_iloadN X15 at_119 rfl 120 rfl ?_
    refine o_callS X15 at_120 (rest := [(.int (7 : Int32)), (.ref b1)]) (c_at l Z a0 hw [] n0 _ X15.size (7 : Int32) (0 : Int32) xa xb ) (hw _ (List.mem_of_getElem? (i := 2) rfl)) (hw _ (List.mem_of_getElem? (i := 3) rfl)) (hw _ (List.mem_of_getElem? (i := 4) rfl)) (hw _ (List.mem_of_getElem? (i := 5) rfl)) (by decide) 2 (by decide) (by decide) rfl [(.int (7 : Int32)), (.int (0 : Int32)), (.long xa), (.int xb)] rfl pd_1 rfl rfl (Nat.le_of_eq rfl) 1 10 rfl rfl (by decide) (by decide) 123 rfl ?_
    rintro _ T16 _ X16 ⟨rfl, rfl⟩
    rw [show (f_at (7 : Int32) (0 : Int32) xa xb) = (f_by xa (0 : Int32)) from rfl]
    show OE p e room_1 below s n0 Q' T16 (mkF m 123 #[.val (.long xa), .second, .val (.int xb), .val (.int xs), .val (.int xn), .val (.int (0 : Int32)), .val (.int ((xn &&& (2147483647 : Int32)) % (9 : Int32))), .val (.ref b1), .unset, .unset, .unset, .unset] [(.int (f_by xa (0 : Int32))), (.int (7 : Int32)), (.ref b1)])
    refine o_bastoreB X16 H15 0 rfl at_123 7 rfl (by show 7 < 10; decide) (f_by xa (0 : Int32)) (v_byn _ _) 124 rfl ?_
    intro T17 h17 X17 H17
    replace H17 : OL n0 h17 ((b1, OA Z .byte [(f_by xa (56 : Int32)), (f_by xa (48 : Int32)), (f_by xa (40 : Int32)), (f_by xa (32 : Int32)), (f_by xa (24 : Int32)), (f_by xa (16 : Int32)), (f_by xa (8 : Int32)), (f_by xa (0 : Int32)), (0 : Int32), (0 : Int32)]) :: []) := H17
    refine o_aload X17 at_124 rfl rfl 126 rfl ?_
    refine o_bipush (v := (8 : Int32)) X17 at_126 rfl 128 rfl ?_
    refine o_bipush (v := (8 : Int32)) X17 at_128 rfl 130 rfl ?_
    refine o_iload X17 at_130 rfl 132 rfl ?_
    refine o_lloadN X17 at_132 rfl 133 rfl ?_
    refine o_iloadN X17 at_133 rfl 134 rfl ?_
    refine o_callS X17 at_134 (rest := [(.int (8 : Int32)), (.ref b1)]) (c_at l Z a0 hw [] n0 _ X17.size (8 : Int32) (0 : Int32) xa xb ) (hw _ (List.mem_of_getElem? (i := 2) rfl)) (hw _ (List.mem_of_getElem? (i := 3) rfl)) (hw _ (List.mem_of_getElem? (i := 4) rfl)) (hw _ (List.mem_of_getElem? (i := 5) rfl)) (by decide) 2 (by decide) (by decide) rfl [(.int (8 : Int32)), (.int (0 : Int32)), (.long xa), (.int xb)] rfl pd_1 rfl rfl (Nat.le_of_eq rfl) 1 10 rfl rfl (by decide) (by decide) 137 rfl ?_
    rintro _ T18 _ X18 ⟨rfl, rfl⟩
    rw [show (f_at (8 : Int32) (0 : Int32) xa xb) = (f_at (8 : Int32) (0 : Int32) xa xb) from rfl]
    show OE p e room_1 below s n0 Q' T18 (mkF m 137 #[.val (.long xa), .second, .val (.int xb), .val (.int xs), .val (.int xn), .val (.int (0 : Int32)), .val (.int ((xn &&& (2147483647 : Int32)) % (9 : Int32))), .val (.ref b1), .unset, .unset, .unset, .unset] [(.int (f_at (8 : Int32) (0 : Int32) xa xb)), (.int (8 : Int32)), (.ref b1)])
    refine o_bastoreB X18 H17 0 rfl at_137 8 rfl (by show 8 < 10; decide) (f_at (8 : Int32) (0 : Int32) xa xb) (v_atn _ _ _ _) 138 rfl ?_
    intro T19 h19 X19 H19
    replace H19 : OL n0 h19 ((b1, OA Z .byte [(f_by xa (56 : Int32)), (f_by xa (48 : Int32)), (f_by xa (40 : Int32)), (f_by xa (32 : Int32)), (f_by xa (24 : Int32)), (f_by xa (16 : Int32)), (f_by xa (8 : Int32)), (f_by xa (0 : Int32)), (f_at (8 : Int32) (0 : Int32) xa xb), (0 : Int32)]) :: []) := H19
    refine o_aload X19 at_138 rfl rfl 140 rfl ?_
    refine o_bipush (v := (9 : Int32)) X19 at_140 rfl 142 rfl ?_
    refine o_bipush (v := (9 : Int32)) X19 at_142 rfl 144 rfl ?_
    refine o_iload X19 at_144 rfl 146 rfl ?_
    refine o_lloadN X19 at_146 rfl 147 rfl ?_
    refine o_iloadN X19 at_147 rfl 148 rfl ?_
    refine o_callS X19 at_148 (rest := [(.int (9 : Int32)), (.ref b1)]) (c_at l Z a0 hw [] n0 _ X19.size (9 : Int32) (0 : Int32) xa xb ) (hw _ (List.mem_of_getElem? (i := 2) rfl)) (hw _ (List.mem_of_getElem? (i := 3) rfl)) (hw _ (List.mem_of_getElem? (i := 4) rfl)) (hw _ (List.mem_of_getElem? (i := 5) rfl)) (by decide) 2 (by decide) (by decide) rfl [(.int (9 : Int32)), (.int (0 : Int32)), (.long xa), (.int xb)] rfl pd_1 rfl rfl (Nat.le_of_eq rfl) 1 10 rfl rfl (by decide) (by decide) 151 rfl ?_
    rintro _ T20 _ X20 ⟨rfl, rfl⟩
    rw [show (f_at (9 : Int32) (0 : Int32) xa xb) = (f_at (9 : Int32) (0 : Int32) xa xb) from rfl]
    show OE p e room_1 below s n0 Q' T20 (mkF m 151 #[.val (.long xa), .second, .val (.int xb), .val (.int xs), .val (.int xn), .val (.int (0 : Int32)), .val (.int ((xn &&& (2147483647 : Int32)) % (9 : Int32))), .val (.ref b1), .unset, .unset, .unset, .unset] [(.int (f_at (9 : Int32) (0 : Int32) xa xb)), (.int (9 : Int32)), (.ref b1)])
    refine o_bastoreB X20 H19 0 rfl at_151 9 rfl (by show 9 < 10; decide) (f_at (9 : Int32) (0 : Int32) xa xb) (v_atn _ _ _ _) 152 rfl ?_
    intro T21 h21 X21 H21
    replace H21 : OL n0 h21 ((b1, OA Z .byte [(f_by xa (56 : Int32)), (f_by xa (48 : Int32)), (f_by xa (40 : Int32)), (f_by xa (32 : Int32)), (f_by xa (24 : Int32)), (f_by xa (16 : Int32)), (f_by xa (8 : Int32)), (f_by xa (0 : Int32)), (f_at (8 : Int32) (0 : Int32) xa xb), (f_at (9 : Int32) (0 : Int32) xa xb)]) :: []) := H21
    rcases v_l xn with hv | hv | hv | hv | hv | hv | hv | hv | hv
    · rw [hv]
      refine o_aload X21 at_152 rfl rfl 154 rfl ?_
      refine o_iload X21 at_154 rfl 156 rfl ?_
      refine o_iload X21 at_156 rfl 158 rfl ?_
      refine o_iload X21 at_158 rfl 160 rfl ?_
      refine o_iadd X21 at_160 161 rfl ?_
      refine o_callS X21 at_161 (rest := []) (c_pack_0_0 l Z a0 hw [] n0 _ X21.size b1 (f_by xa (56 : Int32)) (f_by xa (48 : Int32)) (f_by xa (40 : Int32)) (f_by xa (32 : Int32)) (f_by xa (24 : Int32)) (f_by xa (16 : Int32)) (f_by xa (8 : Int32)) (f_by xa (0 : Int32)) (f_at (8 : Int32) (0 : Int32) xa xb) (f_at (9 : Int32) (0 : Int32) xa xb) [] H21) (hw _ (List.mem_of_getElem? (i := 6) rfl)) (hw _ (List.mem_of_getElem? (i := 7) rfl)) (hw _ (List.mem_of_getElem? (i := 8) rfl)) (hw _ (List.mem_of_getElem? (i := 9) rfl)) (by decide) 0 (by decide) (by decide) rfl [(.ref b1), (.int (0 : Int32)), (.int ((0 : Int32) + (0 : Int32)))] rfl pd_2 rfl rfl (Nat.le_of_eq rfl) 1 10 rfl rfl (by decide) (by decide) 164 rfl ?_
      rintro _ T22 _ X22 ⟨rfl, rfl⟩
      rw [show (0 : Int64) = (0 : Int64) from rfl]
      show OE p e room_1 below s n0 Q' T22 (mkF m 164 #[.val (.long xa), .second, .val (.int xb), .val (.int xs), .val (.int xn), .val (.int (0 : Int32)), .val (.int (0 : Int32)), .val (.ref b1), .unset, .unset, .unset, .unset] [(.long (0 : Int64))])
      refine o_lstore X22 at_164 #[.val (.long xa), .second, .val (.int xb), .val (.int xs), .val (.int xn), .val (.int (0 : Int32)), .val (.int (0 : Int32)), .val (.ref b1), .val (.long (0 : Int64)), .second, .unset, .unset] rfl 166 rfl ?_
      refine o_iload X22 at_166 rfl 168 rfl ?_
      refine o_ifNe X22 at_168 175 171 (by decide) (by decide) rfl (fun q => by exfalso; exact absurd q (by decide)) ?_
      intro hc168
      refine o_lconst (v := (0 : Int64)) X22 at_171 rfl 172 rfl ?_
      refine o_goto X22 at_172 185 (by decide) (by decide) ?_
      refine o_lstore X22 at_185 #[.val (.long xa), .second, .val (.int xb), .val (.int xs), .val (.int xn), .val (.int (0 : Int32)), .val (.int (0 : Int32)), .val (.ref b1), .val (.long (0 : Int64)), .second, .val (.long (0 : Int64)), .second] rfl 187 rfl ?_
      refine o_lload X22 at_187 rfl 189 rfl ?_
      refine o_lload X22 at_189 rfl 191 rfl ?_
      refine o_lcmp X22 at_191 192 rfl ?_
      refine o_ifNe X22 at_192 199 195 (by decide) (by decide) rfl (fun q => by exfalso; exact q ((v_cmp0 _ _).mpr rfl)) ?_
      intro hc192
      refine o_iconst (v := (1 : Int32)) X22 at_195 rfl 196 rfl ?_
      refine o_goto X22 at_196 200 (by decide) (by decide) ?_
      exact o_retZ X22 at_200 (by decide) (by decide) (hQ _ _ rfl)
    · rw [hv]
      refine o_aload X21 at_152 rfl rfl 154 rfl ?_
      refine o_iload X21 at_154 rfl 156 rfl ?_
      refine o_iload X21 at_156 rfl 158 rfl ?_
      refine o_iload X21 at_158 rfl 160 rfl ?_
      refine o_iadd X21 at_160 161 rfl ?_
      refine o_callS X21 at_161 (rest := []) (c_pack_0_1 l Z a0 hw [] n0 _ X21.size b1 (f_by xa (56 : Int32)) (f_by xa (48 : Int32)) (f_by xa (40 : Int32)) (f_by xa (32 : Int32)) (f_by xa (24 : Int32)) (f_by xa (16 : Int32)) (f_by xa (8 : Int32)) (f_by xa (0 : Int32)) (f_at (8 : Int32) (0 : Int32) xa xb) (f_at (9 : Int32) (0 : Int32) xa xb) [] H21) (hw _ (List.mem_of_getElem? (i := 6) rfl)) (hw _ (List.mem_of_getElem? (i := 7) rfl)) (hw _ (List.mem_of_getElem? (i := 8) rfl)) (hw _ (List.mem_of_getElem? (i := 9) rfl)) (by decide) 0 (by decide) (by decide) rfl [(.ref b1), (.int (0 : Int32)), (.int ((0 : Int32) + (1 : Int32)))] rfl pd_2 rfl rfl (Nat.le_of_eq rfl) 1 10 rfl rfl (by decide) (by decide) 164 rfl ?_
      rintro _ T23 _ X23 ⟨rfl, rfl⟩
      rw [show (((0 : Int64) <<< (Int32.toInt64 (8 : Int32) &&& 63)) ||| (Int32.toInt64 ((f_by xa (56 : Int32)) &&& (255 : Int32)))) = (XT.ushrL xa (56 : Int32)) from by rw [v_p1]]
      show OE p e room_1 below s n0 Q' T23 (mkF m 164 #[.val (.long xa), .second, .val (.int xb), .val (.int xs), .val (.int xn), .val (.int (0 : Int32)), .val (.int (1 : Int32)), .val (.ref b1), .unset, .unset, .unset, .unset] [(.long (XT.ushrL xa (56 : Int32)))])
      refine o_lstore X23 at_164 #[.val (.long xa), .second, .val (.int xb), .val (.int xs), .val (.int xn), .val (.int (0 : Int32)), .val (.int (1 : Int32)), .val (.ref b1), .val (.long (XT.ushrL xa (56 : Int32))), .second, .unset, .unset] rfl 166 rfl ?_
      refine o_iload X23 at_166 rfl 168 rfl ?_
      refine o_ifNe X23 at_168 175 171 (by decide) (by decide) rfl ?_ (fun q => by exfalso; exact absurd q (by decide))
      intro hc168
      refine o_lloadN X23 at_175 rfl 176 rfl ?_
      refine o_bipush (v := (64 : Int32)) X23 at_176 rfl 178 rfl ?_
      refine o_bipush (v := (8 : Int32)) X23 at_178 rfl 180 rfl ?_
      refine o_iload X23 at_180 rfl 182 rfl ?_
      refine o_imul X23 at_182 183 rfl ?_
      refine o_isub X23 at_183 184 rfl ?_
      refine o_lushr X23 at_184 185 rfl ?_
      refine o_lstore X23 at_185 #[.val (.long xa), .second, .val (.int xb), .val (.int xs), .val (.int xn), .val (.int (0 : Int32)), .val (.int (1 : Int32)), .val (.ref b1), .val (.long (XT.ushrL xa (56 : Int32))), .second, .val (.long (XT.ushrL xa ((64 : Int32) - ((8 : Int32) * (1 : Int32))))), .second] rfl 187 rfl ?_
      refine o_lload X23 at_187 rfl 189 rfl ?_
      refine o_lload X23 at_189 rfl 191 rfl ?_
      refine o_lcmp X23 at_191 192 rfl ?_
      refine o_ifNe X23 at_192 199 195 (by decide) (by decide) rfl (fun q => by exfalso; exact q ((v_cmp0 _ _).mpr rfl)) ?_
      intro hc192
      refine o_iconst (v := (1 : Int32)) X23 at_195 rfl 196 rfl ?_
      refine o_goto X23 at_196 200 (by decide) (by decide) ?_
      exact o_retZ X23 at_200 (by decide) (by decide) (hQ _ _ rfl)
    · rw [hv]
      refine o_aload X21 at_152 rfl rfl 154 rfl ?_
      refine o_iload X21 at_154 rfl 156 rfl ?_
      refine o_iload X21 at_156 rfl 158 rfl ?_
      refine o_iload X21 at_158 rfl 160 rfl ?_
      refine o_iadd X21 at_160 161 rfl ?_
      refine o_callS X21 at_161 (rest := []) (c_pack_0_2 l Z a0 hw [] n0 _ X21.size b1 (f_by xa (56 : Int32)) (f_by xa (48 : Int32)) (f_by xa (40 : Int32)) (f_by xa (32 : Int32)) (f_by xa (24 : Int32)) (f_by xa (16 : Int32)) (f_by xa (8 : Int32)) (f_by xa (0 : Int32)) (f_at (8 : Int32) (0 : Int32) xa xb) (f_at (9 : Int32) (0 : Int32) xa xb) [] H21) (hw _ (List.mem_of_getElem? (i := 6) rfl)) (hw _ (List.mem_of_getElem? (i := 7) rfl)) (hw _ (List.mem_of_getElem? (i := 8) rfl)) (hw _ (List.mem_of_getElem? (i := 9) rfl)) (by decide) 0 (by decide) (by decide) rfl [(.ref b1), (.int (0 : Int32)), (.int ((0 : Int32) + (2 : Int32)))] rfl pd_2 rfl rfl (Nat.le_of_eq rfl) 1 10 rfl rfl (by decide) (by decide) 164 rfl ?_
      rintro _ T24 _ X24 ⟨rfl, rfl⟩
      rw [show (((((0 : Int64) <<< (Int32.toInt64 (8 : Int32) &&& 63)) ||| (Int32.toInt64 ((f_by xa (56 : Int32)) &&& (255 : Int32)))) <<< (Int32.toInt64 (8 : Int32) &&& 63)) ||| (Int32.toInt64 ((f_by xa (48 : Int32)) &&& (255 : Int32)))) = (XT.ushrL xa (48 : Int32)) from by rw [v_p1, v_p2]]
      show OE p e room_1 below s n0 Q' T24 (mkF m 164 #[.val (.long xa), .second, .val (.int xb), .val (.int xs), .val (.int xn), .val (.int (0 : Int32)), .val (.int (2 : Int32)), .val (.ref b1), .unset, .unset, .unset, .unset] [(.long (XT.ushrL xa (48 : Int32)))])
      refine o_lstore X24 at_164 #[.val (.long xa), .second, .val (.int xb), .val (.int xs), .val (.int xn), .val (.int (0 : Int32)), .val (.int (2 : Int32)), .val (.ref b1), .val (.long (XT.ushrL xa (48 : Int32))), .second, .unset, .unset] rfl 166 rfl ?_
      refine o_iload X24 at_166 rfl 168 rfl ?_
      refine o_ifNe X24 at_168 175 171 (by decide) (by decide) rfl ?_ (fun q => by exfalso; exact absurd q (by decide))
      intro hc168
      refine o_lloadN X24 at_175 rfl 176 rfl ?_
      refine o_bipush (v := (64 : Int32)) X24 at_176 rfl 178 rfl ?_
      refine o_bipush (v := (8 : Int32)) X24 at_178 rfl 180 rfl ?_
      refine o_iload X24 at_180 rfl 182 rfl ?_
      refine o_imul X24 at_182 183 rfl ?_
      refine o_isub X24 at_183 184 rfl ?_
      refine o_lushr X24 at_184 185 rfl ?_
      refine o_lstore X24 at_185 #[.val (.long xa), .second, .val (.int xb), .val (.int xs), .val (.int xn), .val (.int (0 : Int32)), .val (.int (2 : Int32)), .val (.ref b1), .val (.long (XT.ushrL xa (48 : Int32))), .second, .val (.long (XT.ushrL xa ((64 : Int32) - ((8 : Int32) * (2 : Int32))))), .second] rfl 187 rfl ?_
      refine o_lload X24 at_187 rfl 189 rfl ?_
      refine o_lload X24 at_189 rfl 191 rfl ?_
      refine o_lcmp X24 at_191 192 rfl ?_
      refine o_ifNe X24 at_192 199 195 (by decide) (by decide) rfl (fun q => by exfalso; exact q ((v_cmp0 _ _).mpr rfl)) ?_
      intro hc192
      refine o_iconst (v := (1 : Int32)) X24 at_195 rfl 196 rfl ?_
      refine o_goto X24 at_196 200 (by decide) (by decide) ?_
      exact o_retZ X24 at_200 (by decide) (by decide) (hQ _ _ rfl)
    · rw [hv]
      refine o_aload X21 at_152 rfl rfl 154 rfl ?_
      refine o_iload X21 at_154 rfl 156 rfl ?_
      refine o_iload X21 at_156 rfl 158 rfl ?_
      refine o_iload X21 at_158 rfl 160 rfl ?_
      refine o_iadd X21 at_160 161 rfl ?_
      refine o_callS X21 at_161 (rest := []) (c_pack_0_3 l Z a0 hw [] n0 _ X21.size b1 (f_by xa (56 : Int32)) (f_by xa (48 : Int32)) (f_by xa (40 : Int32)) (f_by xa (32 : Int32)) (f_by xa (24 : Int32)) (f_by xa (16 : Int32)) (f_by xa (8 : Int32)) (f_by xa (0 : Int32)) (f_at (8 : Int32) (0 : Int32) xa xb) (f_at (9 : Int32) (0 : Int32) xa xb) [] H21) (hw _ (List.mem_of_getElem? (i := 6) rfl)) (hw _ (List.mem_of_getElem? (i := 7) rfl)) (hw _ (List.mem_of_getElem? (i := 8) rfl)) (hw _ (List.mem_of_getElem? (i := 9) rfl)) (by decide) 0 (by decide) (by decide) rfl [(.ref b1), (.int (0 : Int32)), (.int ((0 : Int32) + (3 : Int32)))] rfl pd_2 rfl rfl (Nat.le_of_eq rfl) 1 10 rfl rfl (by decide) (by decide) 164 rfl ?_
      rintro _ T25 _ X25 ⟨rfl, rfl⟩
      rw [show (((((((0 : Int64) <<< (Int32.toInt64 (8 : Int32) &&& 63)) ||| (Int32.toInt64 ((f_by xa (56 : Int32)) &&& (255 : Int32)))) <<< (Int32.toInt64 (8 : Int32) &&& 63)) ||| (Int32.toInt64 ((f_by xa (48 : Int32)) &&& (255 : Int32)))) <<< (Int32.toInt64 (8 : Int32) &&& 63)) ||| (Int32.toInt64 ((f_by xa (40 : Int32)) &&& (255 : Int32)))) = (XT.ushrL xa (40 : Int32)) from by rw [v_p1, v_p2, v_p3]]
      show OE p e room_1 below s n0 Q' T25 (mkF m 164 #[.val (.long xa), .second, .val (.int xb), .val (.int xs), .val (.int xn), .val (.int (0 : Int32)), .val (.int (3 : Int32)), .val (.ref b1), .unset, .unset, .unset, .unset] [(.long (XT.ushrL xa (40 : Int32)))])
      refine o_lstore X25 at_164 #[.val (.long xa), .second, .val (.int xb), .val (.int xs), .val (.int xn), .val (.int (0 : Int32)), .val (.int (3 : Int32)), .val (.ref b1), .val (.long (XT.ushrL xa (40 : Int32))), .second, .unset, .unset] rfl 166 rfl ?_
      refine o_iload X25 at_166 rfl 168 rfl ?_
      refine o_ifNe X25 at_168 175 171 (by decide) (by decide) rfl ?_ (fun q => by exfalso; exact absurd q (by decide))
      intro hc168
      refine o_lloadN X25 at_175 rfl 176 rfl ?_
      refine o_bipush (v := (64 : Int32)) X25 at_176 rfl 178 rfl ?_
      refine o_bipush (v := (8 : Int32)) X25 at_178 rfl 180 rfl ?_
      refine o_iload X25 at_180 rfl 182 rfl ?_
      refine o_imul X25 at_182 183 rfl ?_
      refine o_isub X25 at_183 184 rfl ?_
      refine o_lushr X25 at_184 185 rfl ?_
      refine o_lstore X25 at_185 #[.val (.long xa), .second, .val (.int xb), .val (.int xs), .val (.int xn), .val (.int (0 : Int32)), .val (.int (3 : Int32)), .val (.ref b1), .val (.long (XT.ushrL xa (40 : Int32))), .second, .val (.long (XT.ushrL xa ((64 : Int32) - ((8 : Int32) * (3 : Int32))))), .second] rfl 187 rfl ?_
      refine o_lload X25 at_187 rfl 189 rfl ?_
      refine o_lload X25 at_189 rfl 191 rfl ?_
      refine o_lcmp X25 at_191 192 rfl ?_
      refine o_ifNe X25 at_192 199 195 (by decide) (by decide) rfl (fun q => by exfalso; exact q ((v_cmp0 _ _).mpr rfl)) ?_
      intro hc192
      refine o_iconst (v := (1 : Int32)) X25 at_195 rfl 196 rfl ?_
      refine o_goto X25 at_196 200 (by decide) (by decide) ?_
      exact o_retZ X25 at_200 (by decide) (by decide) (hQ _ _ rfl)
    · rw [hv]
      refine o_aload X21 at_152 rfl rfl 154 rfl ?_
      refine o_iload X21 at_154 rfl 156 rfl ?_
      refine o_iload X21 at_156 rfl 158 rfl ?_
      refine o_iload X21 at_158 rfl 160 rfl ?_
      refine o_iadd X21 at_160 161 rfl ?_
      refine o_callS X21 at_161 (rest := []) (c_pack_0_4 l Z a0 hw [] n0 _ X21.size b1 (f_by xa (56 : Int32)) (f_by xa (48 : Int32)) (f_by xa (40 : Int32)) (f_by xa (32 : Int32)) (f_by xa (24 : Int32)) (f_by xa (16 : Int32)) (f_by xa (8 : Int32)) (f_by xa (0 : Int32)) (f_at (8 : Int32) (0 : Int32) xa xb) (f_at (9 : Int32) (0 : Int32) xa xb) [] H21) (hw _ (List.mem_of_getElem? (i := 6) rfl)) (hw _ (List.mem_of_getElem? (i := 7) rfl)) (hw _ (List.mem_of_getElem? (i := 8) rfl)) (hw _ (List.mem_of_getElem? (i := 9) rfl)) (by decide) 0 (by decide) (by decide) rfl [(.ref b1), (.int (0 : Int32)), (.int ((0 : Int32) + (4 : Int32)))] rfl pd_2 rfl rfl (Nat.le_of_eq rfl) 1 10 rfl rfl (by decide) (by decide) 164 rfl ?_
      rintro _ T26 _ X26 ⟨rfl, rfl⟩
      rw [show (((((((((0 : Int64) <<< (Int32.toInt64 (8 : Int32) &&& 63)) ||| (Int32.toInt64 ((f_by xa (56 : Int32)) &&& (255 : Int32)))) <<< (Int32.toInt64 (8 : Int32) &&& 63)) ||| (Int32.toInt64 ((f_by xa (48 : Int32)) &&& (255 : Int32)))) <<< (Int32.toInt64 (8 : Int32) &&& 63)) ||| (Int32.toInt64 ((f_by xa (40 : Int32)) &&& (255 : Int32)))) <<< (Int32.toInt64 (8 : Int32) &&& 63)) ||| (Int32.toInt64 ((f_by xa (32 : Int32)) &&& (255 : Int32)))) = (XT.ushrL xa (32 : Int32)) from by rw [v_p1, v_p2, v_p3, v_p4]]
      show OE p e room_1 below s n0 Q' T26 (mkF m 164 #[.val (.long xa), .second, .val (.int xb), .val (.int xs), .val (.int xn), .val (.int (0 : Int32)), .val (.int (4 : Int32)), .val (.ref b1), .unset, .unset, .unset, .unset] [(.long (XT.ushrL xa (32 : Int32)))])
      refine o_lstore X26 at_164 #[.val (.long xa), .second, .val (.int xb), .val (.int xs), .val (.int xn), .val (.int (0 : Int32)), .val (.int (4 : Int32)), .val (.ref b1), .val (.long (XT.ushrL xa (32 : Int32))), .second, .unset, .unset] rfl 166 rfl ?_
      refine o_iload X26 at_166 rfl 168 rfl ?_
      refine o_ifNe X26 at_168 175 171 (by decide) (by decide) rfl ?_ (fun q => by exfalso; exact absurd q (by decide))
      intro hc168
      refine o_lloadN X26 at_175 rfl 176 rfl ?_
      refine o_bipush (v := (64 : Int32)) X26 at_176 rfl 178 rfl ?_
      refine o_bipush (v := (8 : Int32)) X26 at_178 rfl 180 rfl ?_
      refine o_iload X26 at_180 rfl 182 rfl ?_
      refine o_imul X26 at_182 183 rfl ?_
      refine o_isub X26 at_183 184 rfl ?_
      refine o_lushr X26 at_184 185 rfl ?_
      refine o_lstore X26 at_185 #[.val (.long xa), .second, .val (.int xb), .val (.int xs), .val (.int xn), .val (.int (0 : Int32)), .val (.int (4 : Int32)), .val (.ref b1), .val (.long (XT.ushrL xa (32 : Int32))), .second, .val (.long (XT.ushrL xa ((64 : Int32) - ((8 : Int32) * (4 : Int32))))), .second] rfl 187 rfl ?_
      refine o_lload X26 at_187 rfl 189 rfl ?_
      refine o_lload X26 at_189 rfl 191 rfl ?_
      refine o_lcmp X26 at_191 192 rfl ?_
      refine o_ifNe X26 at_192 199 195 (by decide) (by decide) rfl (fun q => by exfalso; exact q ((v_cmp0 _ _).mpr rfl)) ?_
      intro hc192
      refine o_iconst (v := (1 : Int32)) X26 at_195 rfl 196 rfl ?_
      refine o_goto X26 at_196 200 (by decide) (by decide) ?_
      exact o_retZ X26 at_200 (by decide) (by decide) (hQ _ _ rfl)
    · rw [hv]
      refine o_aload X21 at_152 rfl rfl 154 rfl ?_
      refine o_iload X21 at_154 rfl 156 rfl ?_
      refine o_iload X21 at_156 rfl 158 rfl ?_
      refine o_iload X21 at_158 rfl 160 rfl ?_
      refine o_iadd X21 at_160 161 rfl ?_
      refine o_callS X21 at_161 (rest := []) (c_pack_0_5 l Z a0 hw [] n0 _ X21.size b1 (f_by xa (56 : Int32)) (f_by xa (48 : Int32)) (f_by xa (40 : Int32)) (f_by xa (32 : Int32)) (f_by xa (24 : Int32)) (f_by xa (16 : Int32)) (f_by xa (8 : Int32)) (f_by xa (0 : Int32)) (f_at (8 : Int32) (0 : Int32) xa xb) (f_at (9 : Int32) (0 : Int32) xa xb) [] H21) (hw _ (List.mem_of_getElem? (i := 6) rfl)) (hw _ (List.mem_of_getElem? (i := 7) rfl)) (hw _ (List.mem_of_getElem? (i := 8) rfl)) (hw _ (List.mem_of_getElem? (i := 9) rfl)) (by decide) 0 (by decide) (by decide) rfl [(.ref b1), (.int (0 : Int32)), (.int ((0 : Int32) + (5 : Int32)))] rfl pd_2 rfl rfl (Nat.le_of_eq rfl) 1 10 rfl rfl (by decide) (by decide) 164 rfl ?_
      rintro _ T27 _ X27 ⟨rfl, rfl⟩
      rw [show (((((((((((0 : Int64) <<< (Int32.toInt64 (8 : Int32) &&& 63)) ||| (Int32.toInt64 ((f_by xa (56 : Int32)) &&& (255 : Int32)))) <<< (Int32.toInt64 (8 : Int32) &&& 63)) ||| (Int32.toInt64 ((f_by xa (48 : Int32)) &&& (255 : Int32)))) <<< (Int32.toInt64 (8 : Int32) &&& 63)) ||| (Int32.toInt64 ((f_by xa (40 : Int32)) &&& (255 : Int32)))) <<< (Int32.toInt64 (8 : Int32) &&& 63)) ||| (Int32.toInt64 ((f_by xa (32 : Int32)) &&& (255 : Int32)))) <<< (Int32.toInt64 (8 : Int32) &&& 63)) ||| (Int32.toInt64 ((f_by xa (24 : Int32)) &&& (255 : Int32)))) = (XT.ushrL xa (24 : Int32)) from by rw [v_p1, v_p2, v_p3, v_p4, v_p5]]
      show OE p e room_1 below s n0 Q' T27 (mkF m 164 #[.val (.long xa), .second, .val (.int xb), .val (.int xs), .val (.int xn), .val (.int (0 : Int32)), .val (.int (5 : Int32)), .val (.ref b1), .unset, .unset, .unset, .unset] [(.long (XT.ushrL xa (24 : Int32)))])
      refine o_lstore X27 at_164 #[.val (.long xa), .second, .val (.int xb), .val (.int xs), .val (.int xn), .val (.int (0 : Int32)), .val (.int (5 : Int32)), .val (.ref b1), .val (.long (XT.ushrL xa (24 : Int32))), .second, .unset, .unset] rfl 166 rfl ?_
      refine o_iload X27 at_166 rfl 168 rfl ?_
      refine o_ifNe X27 at_168 175 171 (by decide) (by decide) rfl ?_ (fun q => by exfalso; exact absurd q (by decide))
      intro hc168
      refine o_lloadN X27 at_175 rfl 176 rfl ?_
      refine o_bipush (v := (64 : Int32)) X27 at_176 rfl 178 rfl ?_
      refine o_bipush (v := (8 : Int32)) X27 at_178 rfl 180 rfl ?_
      refine o_iload X27 at_180 rfl 182 rfl ?_
      refine o_imul X27 at_182 183 rfl ?_
      refine o_isub X27 at_183 184 rfl ?_
      refine o_lushr X27 at_184 185 rfl ?_
      refine o_lstore X27 at_185 #[.val (.long xa), .second, .val (.int xb), .val (.int xs), .val (.int xn), .val (.int (0 : Int32)), .val (.int (5 : Int32)), .val (.ref b1), .val (.long (XT.ushrL xa (24 : Int32))), .second, .val (.long (XT.ushrL xa ((64 : Int32) - ((8 : Int32) * (5 : Int32))))), .second] rfl 187 rfl ?_
      refine o_lload X27 at_187 rfl 189 rfl ?_
      refine o_lload X27 at_189 rfl 191 rfl ?_
      refine o_lcmp X27 at_191 192 rfl ?_
      refine o_ifNe X27 at_192 199 195 (by decide) (by decide) rfl (fun q => by exfalso; exact q ((v_cmp0 _ _).mpr rfl)) ?_
      intro hc192
      refine o_iconst (v := (1 : Int32)) X27 at_195 rfl 196 rfl ?_
      refine o_goto X27 at_196 200 (by decide) (by decide) ?_
      exact o_retZ X27 at_200 (by decide) (by decide) (hQ _ _ rfl)
    · rw [hv]
      refine o_aload X21 at_152 rfl rfl 154 rfl ?_
      refine o_iload X21 at_154 rfl 156 rfl ?_
      refine o_iload X21 at_156 rfl 158 rfl ?_
      refine o_iload X21 at_158 rfl 160 rfl ?_
      refine o_iadd X21 at_160 161 rfl ?_
      refine o_callS X21 at_161 (rest := []) (c_pack_0_6 l Z a0 hw [] n0 _ X21.size b1 (f_by xa (56 : Int32)) (f_by xa (48 : Int32)) (f_by xa (40 : Int32)) (f_by xa (32 : Int32)) (f_by xa (24 : Int32)) (f_by xa (16 : Int32)) (f_by xa (8 : Int32)) (f_by xa (0 : Int32)) (f_at (8 : Int32) (0 : Int32) xa xb) (f_at (9 : Int32) (0 : Int32) xa xb) [] H21) (hw _ (List.mem_of_getElem? (i := 6) rfl)) (hw _ (List.mem_of_getElem? (i := 7) rfl)) (hw _ (List.mem_of_getElem? (i := 8) rfl)) (hw _ (List.mem_of_getElem? (i := 9) rfl)) (by decide) 0 (by decide) (by decide) rfl [(.ref b1), (.int (0 : Int32)), (.int ((0 : Int32) + (6 : Int32)))] rfl pd_2 rfl rfl (Nat.le_of_eq rfl) 1 10 rfl rfl (by decide) (by decide) 164 rfl ?_
      rintro _ T28 _ X28 ⟨rfl, rfl⟩
      rw [show (((((((((((((0 : Int64) <<< (Int32.toInt64 (8 : Int32) &&& 63)) ||| (Int32.toInt64 ((f_by xa (56 : Int32)) &&& (255 : Int32)))) <<< (Int32.toInt64 (8 : Int32) &&& 63)) ||| (Int32.toInt64 ((f_by xa (48 : Int32)) &&& (255 : Int32)))) <<< (Int32.toInt64 (8 : Int32) &&& 63)) ||| (Int32.toInt64 ((f_by xa (40 : Int32)) &&& (255 : Int32)))) <<< (Int32.toInt64 (8 : Int32) &&& 63)) ||| (Int32.toInt64 ((f_by xa (32 : Int32)) &&& (255 : Int32)))) <<< (Int32.toInt64 (8 : Int32) &&& 63)) ||| (Int32.toInt64 ((f_by xa (24 : Int32)) &&& (255 : Int32)))) <<< (Int32.toInt64 (8 : Int32) &&& 63)) ||| (Int32.toInt64 ((f_by xa (16 : Int32)) &&& (255 : Int32)))) = (XT.ushrL xa (16 : Int32)) from by rw [v_p1, v_p2, v_p3, v_p4, v_p5, v_p6]]
      show OE p e room_1 below s n0 Q' T28 (mkF m 164 #[.val (.long xa), .second, .val (.int xb), .val (.int xs), .val (.int xn), .val (.int (0 : Int32)), .val (.int (6 : Int32)), .val (.ref b1), .unset, .unset, .unset, .unset] [(.long (XT.ushrL xa (16 : Int32)))])
      refine o_lstore X28 at_164 #[.val (.long xa), .second, .val (.int xb), .val (.int xs), .val (.int xn), .val (.int (0 : Int32)), .val (.int (6 : Int32)), .val (.ref b1), .val (.long (XT.ushrL xa (16 : Int32))), .second, .unset, .unset] rfl 166 rfl ?_
      refine o_iload X28 at_166 rfl 168 rfl ?_
      refine o_ifNe X28 at_168 175 171 (by decide) (by decide) rfl ?_ (fun q => by exfalso; exact absurd q (by decide))
      intro hc168
      refine o_lloadN X28 at_175 rfl 176 rfl ?_
      refine o_bipush (v := (64 : Int32)) X28 at_176 rfl 178 rfl ?_
      refine o_bipush (v := (8 : Int32)) X28 at_178 rfl 180 rfl ?_
      refine o_iload X28 at_180 rfl 182 rfl ?_
      refine o_imul X28 at_182 183 rfl ?_
      refine o_isub X28 at_183 184 rfl ?_
      refine o_lushr X28 at_184 185 rfl ?_
      refine o_lstore X28 at_185 #[.val (.long xa), .second, .val (.int xb), .val (.int xs), .val (.int xn), .val (.int (0 : Int32)), .val (.int (6 : Int32)), .val (.ref b1), .val (.long (XT.ushrL xa (16 : Int32))), .second, .val (.long (XT.ushrL xa ((64 : Int32) - ((8 : Int32) * (6 : Int32))))), .second] rfl 187 rfl ?_
      refine o_lload X28 at_187 rfl 189 rfl ?_
      refine o_lload X28 at_189 rfl 191 rfl ?_
      refine o_lcmp X28 at_191 192 rfl ?_
      refine o_ifNe X28 at_192 199 195 (by decide) (by decide) rfl (fun q => by exfalso; exact q ((v_cmp0 _ _).mpr rfl)) ?_
      intro hc192
      refine o_iconst (v := (1 : Int32)) X28 at_195 rfl 196 rfl ?_
      refine o_goto X28 at_196 200 (by decide) (by decide) ?_
      exact o_retZ X28 at_200 (by decide) (by decide) (hQ _ _ rfl)
    · rw [hv]
      refine o_aload X21 at_152 rfl rfl 154 rfl ?_
      refine o_iload X21 at_154 rfl 156 rfl ?_
      refine o_iload X21 at_156 rfl 158 rfl ?_
      refine o_iload X21 at_158 rfl 160 rfl ?_
      refine o_iadd X21 at_160 161 rfl ?_
      refine o_callS X21 at_161 (rest := []) (c_pack_0_7 l Z a0 hw [] n0 _ X21.size b1 (f_by xa (56 : Int32)) (f_by xa (48 : Int32)) (f_by xa (40 : Int32)) (f_by xa (32 : Int32)) (f_by xa (24 : Int32)) (f_by xa (16 : Int32)) (f_by xa (8 : Int32)) (f_by xa (0 : Int32)) (f_at (8 : Int32) (0 : Int32) xa xb) (f_at (9 : Int32) (0 : Int32) xa xb) [] H21) (hw _ (List.mem_of_getElem? (i := 6) rfl)) (hw _ (List.mem_of_getElem? (i := 7) rfl)) (hw _ (List.mem_of_getElem? (i := 8) rfl)) (hw _ (List.mem_of_getElem? (i := 9) rfl)) (by decide) 0 (by decide) (by decide) rfl [(.ref b1), (.int (0 : Int32)), (.int ((0 : Int32) + (7 : Int32)))] rfl pd_2 rfl rfl (Nat.le_of_eq rfl) 1 10 rfl rfl (by decide) (by decide) 164 rfl ?_
      rintro _ T29 _ X29 ⟨rfl, rfl⟩
      rw [show (((((((((((((((0 : Int64) <<< (Int32.toInt64 (8 : Int32) &&& 63)) ||| (Int32.toInt64 ((f_by xa (56 : Int32)) &&& (255 : Int32)))) <<< (Int32.toInt64 (8 : Int32) &&& 63)) ||| (Int32.toInt64 ((f_by xa (48 : Int32)) &&& (255 : Int32)))) <<< (Int32.toInt64 (8 : Int32) &&& 63)) ||| (Int32.toInt64 ((f_by xa (40 : Int32)) &&& (255 : Int32)))) <<< (Int32.toInt64 (8 : Int32) &&& 63)) ||| (Int32.toInt64 ((f_by xa (32 : Int32)) &&& (255 : Int32)))) <<< (Int32.toInt64 (8 : Int32) &&& 63)) ||| (Int32.toInt64 ((f_by xa (24 : Int32)) &&& (255 : Int32)))) <<< (Int32.toInt64 (8 : Int32) &&& 63)) ||| (Int32.toInt64 ((f_by xa (16 : Int32)) &&& (255 : Int32)))) <<< (Int32.toInt64 (8 : Int32) &&& 63)) ||| (Int32.toInt64 ((f_by xa (8 : Int32)) &&& (255 : Int32)))) = (XT.ushrL xa (8 : Int32)) from by rw [v_p1, v_p2, v_p3, v_p4, v_p5, v_p6, v_p7]]
      show OE p e room_1 below s n0 Q' T29 (mkF m 164 #[.val (.long xa), .second, .val (.int xb), .val (.int xs), .val (.int xn), .val (.int (0 : Int32)), .val (.int (7 : Int32)), .val (.ref b1), .unset, .unset, .unset, .unset] [(.long (XT.ushrL xa (8 : Int32)))])
      refine o_lstore X29 at_164 #[.val (.long xa), .second, .val (.int xb), .val (.int xs), .val (.int xn), .val (.int (0 : Int32)), .val (.int (7 : Int32)), .val (.ref b1), .val (.long (XT.ushrL xa (8 : Int32))), .second, .unset, .unset] rfl 166 rfl ?_
      refine o_iload X29 at_166 rfl 168 rfl ?_
      refine o_ifNe X29 at_168 175 171 (by decide) (by decide) rfl ?_ (fun q => by exfalso; exact absurd q (by decide))
      intro hc168
      refine o_lloadN X29 at_175 rfl 176 rfl ?_
      refine o_bipush (v := (64 : Int32)) X29 at_176 rfl 178 rfl ?_
      refine o_bipush (v := (8 : Int32)) X29 at_178 rfl 180 rfl ?_
      refine o_iload X29 at_180 rfl 182 rfl ?_
      refine o_imul X29 at_182 183 rfl ?_
      refine o_isub X29 at_183 184 rfl ?_
      refine o_lushr X29 at_184 185 rfl ?_
      refine o_lstore X29 at_185 #[.val (.long xa), .second, .val (.int xb), .val (.int xs), .val (.int xn), .val (.int (0 : Int32)), .val (.int (7 : Int32)), .val (.ref b1), .val (.long (XT.ushrL xa (8 : Int32))), .second, .val (.long (XT.ushrL xa ((64 : Int32) - ((8 : Int32) * (7 : Int32))))), .second] rfl 187 rfl ?_
      refine o_lload X29 at_187 rfl 189 rfl ?_
      refine o_lload X29 at_189 rfl 191 rfl ?_
      refine o_lcmp X29 at_191 192 rfl ?_
      refine o_ifNe X29 at_192 199 195 (by decide) (by decide) rfl (fun q => by exfalso; exact q ((v_cmp0 _ _).mpr rfl)) ?_
      intro hc192
      refine o_iconst (v := (1 : Int32)) X29 at_195 rfl 196 rfl ?_
      refine o_goto X29 at_196 200 (by decide) (by decide) ?_
      exact o_retZ X29 at_200 (by decide) (by decide) (hQ _ _ rfl)
    · rw [hv]
      refine o_aload X21 at_152 rfl rfl 154 rfl ?_
      refine o_iload X21 at_154 rfl 156 rfl ?_
      refine o_iload X21 at_156 rfl 158 rfl ?_
      refine o_iload X21 at_158 rfl 160 rfl ?_
      refine o_iadd X21 at_160 161 rfl ?_
      refine o_callS X21 at_161 (rest := []) (c_pack_0_8 l Z a0 hw [] n0 _ X21.size b1 (f_by xa (56 : Int32)) (f_by xa (48 : Int32)) (f_by xa (40 : Int32)) (f_by xa (32 : Int32)) (f_by xa (24 : Int32)) (f_by xa (16 : Int32)) (f_by xa (8 : Int32)) (f_by xa (0 : Int32)) (f_at (8 : Int32) (0 : Int32) xa xb) (f_at (9 : Int32) (0 : Int32) xa xb) [] H21) (hw _ (List.mem_of_getElem? (i := 6) rfl)) (hw _ (List.mem_of_getElem? (i := 7) rfl)) (hw _ (List.mem_of_getElem? (i := 8) rfl)) (hw _ (List.mem_of_getElem? (i := 9) rfl)) (by decide) 0 (by decide) (by decide) rfl [(.ref b1), (.int (0 : Int32)), (.int ((0 : Int32) + (8 : Int32)))] rfl pd_2 rfl rfl (Nat.le_of_eq rfl) 1 10 rfl rfl (by decide) (by decide) 164 rfl ?_
      rintro _ T30 _ X30 ⟨rfl, rfl⟩
      rw [show (((((((((((((((((0 : Int64) <<< (Int32.toInt64 (8 : Int32) &&& 63)) ||| (Int32.toInt64 ((f_by xa (56 : Int32)) &&& (255 : Int32)))) <<< (Int32.toInt64 (8 : Int32) &&& 63)) ||| (Int32.toInt64 ((f_by xa (48 : Int32)) &&& (255 : Int32)))) <<< (Int32.toInt64 (8 : Int32) &&& 63)) ||| (Int32.toInt64 ((f_by xa (40 : Int32)) &&& (255 : Int32)))) <<< (Int32.toInt64 (8 : Int32) &&& 63)) ||| (Int32.toInt64 ((f_by xa (32 : Int32)) &&& (255 : Int32)))) <<< (Int32.toInt64 (8 : Int32) &&& 63)) ||| (Int32.toInt64 ((f_by xa (24 : Int32)) &&& (255 : Int32)))) <<< (Int32.toInt64 (8 : Int32) &&& 63)) ||| (Int32.toInt64 ((f_by xa (16 : Int32)) &&& (255 : Int32)))) <<< (Int32.toInt64 (8 : Int32) &&& 63)) ||| (Int32.toInt64 ((f_by xa (8 : Int32)) &&& (255 : Int32)))) <<< (Int32.toInt64 (8 : Int32) &&& 63)) ||| (Int32.toInt64 ((f_by xa (0 : Int32)) &&& (255 : Int32)))) = (XT.ushrL xa (0 : Int32)) from by rw [v_p1, v_p2, v_p3, v_p4, v_p5, v_p6, v_p7, v_p8]]
      show OE p e room_1 below s n0 Q' T30 (mkF m 164 #[.val (.long xa), .second, .val (.int xb), .val (.int xs), .val (.int xn), .val (.int (0 : Int32)), .val (.int (8 : Int32)), .val (.ref b1), .unset, .unset, .unset, .unset] [(.long (XT.ushrL xa (0 : Int32)))])
      refine o_lstore X30 at_164 #[.val (.long xa), .second, .val (.int xb), .val (.int xs), .val (.int xn), .val (.int (0 : Int32)), .val (.int (8 : Int32)), .val (.ref b1), .val (.long (XT.ushrL xa (0 : Int32))), .second, .unset, .unset] rfl 166 rfl ?_
      refine o_iload X30 at_166 rfl 168 rfl ?_
      refine o_ifNe X30 at_168 175 171 (by decide) (by decide) rfl ?_ (fun q => by exfalso; exact absurd q (by decide))
      intro hc168
      refine o_lloadN X30 at_175 rfl 176 rfl ?_
      refine o_bipush (v := (64 : Int32)) X30 at_176 rfl 178 rfl ?_
      refine o_bipush (v := (8 : Int32)) X30 at_178 rfl 180 rfl ?_
      refine o_iload X30 at_180 rfl 182 rfl ?_
      refine o_imul X30 at_182 183 rfl ?_
      refine o_isub X30 at_183 184 rfl ?_
      refine o_lushr X30 at_184 185 rfl ?_
      refine o_lstore X30 at_185 #[.val (.long xa), .second, .val (.int xb), .val (.int xs), .val (.int xn), .val (.int (0 : Int32)), .val (.int (8 : Int32)), .val (.ref b1), .val (.long (XT.ushrL xa (0 : Int32))), .second, .val (.long (XT.ushrL xa ((64 : Int32) - ((8 : Int32) * (8 : Int32))))), .second] rfl 187 rfl ?_
      refine o_lload X30 at_187 rfl 189 rfl ?_
      refine o_lload X30 at_189 rfl 191 rfl ?_
      refine o_lcmp X30 at_191 192 rfl ?_
      refine o_ifNe X30 at_192 199 195 (by decide) (by decide) rfl (fun q => by exfalso; exact q ((v_cmp0 _ _).mpr rfl)) ?_
      intro hc192
      refine o_iconst (v := (1 : Int32)) X30 at_195 rfl 196 rfl ?_
      refine o_goto X30 at_196 200 (by decide) (by decide) ?_
      exact o_retZ X30 at_200 (by decide) (by decide) (hQ _ _ rfl)
  · rw [hv]
    refine o_iload X0 at_8 rfl 10 rfl ?_
    refine o_ldc (v := (2147483647 : Int32)) X0 at_10 (hw _ (List.mem_of_getElem? (i := 0) rfl)) 12 rfl ?_
    refine o_iand X0 at_12 13 rfl ?_
    refine o_bipush (v := (9 : Int32)) X0 at_13 rfl 15 rfl ?_
    refine o_irem X0 at_15 (by decide) 16 rfl ?_
    refine o_istore X0 at_16 #[.val (.long xa), .second, .val (.int xb), .val (.int xs), .val (.int xn), .val (.int (1 : Int32)), .val (.int ((xn &&& (2147483647 : Int32)) % (9 : Int32))), .unset, .unset, .unset, .unset, .unset] rfl 18 rfl ?_
    refine o_bipush (v := (10 : Int32)) X0 at_18 rfl 20 rfl ?_
    refine o_newarray (L := []) X0 OL.nil at_20 (hw _ (List.mem_of_getElem? (i := 1) rfl)) rfl rfl 10 10 rfl (by decide) (by decide) 1 10 rfl rfl (by decide) (by decide) 22 rfl ?_
    intro T31 h31 b31 X31 H31
    replace H31 : OL n0 h31 ((b31, OA Z .byte [(0 : Int32), (0 : Int32), (0 : Int32), (0 : Int32), (0 : Int32), (0 : Int32), (0 : Int32), (0 : Int32), (0 : Int32), (0 : Int32)]) :: []) := H31
    refine o_astore X31 at_22 rfl #[.val (.long xa), .second, .val (.int xb), .val (.int xs), .val (.int xn), .val (.int (1 : Int32)), .val (.int ((xn &&& (2147483647 : Int32)) % (9 : Int32))), .val (.ref b31), .unset, .unset, .unset, .unset] rfl 24 rfl ?_
    refine o_aload X31 at_24 rfl rfl 26 rfl ?_
    refine o_iconst (v := (0 : Int32)) X31 at_26 rfl 27 rfl ?_
    refine o_iconst (v := (0 : Int32)) X31 at_27 rfl 28 rfl ?_
    refine o_iload X31 at_28 rfl 30 rfl ?_
    refine o_lloadN X31 at_30 rfl 31 rfl ?_
    refine o_iloadN X31 at_31 rfl 32 rfl ?_
    refine o_callS X31 at_32 (rest := [(.int (0 : Int32)), (.ref b31)]) (c_at l Z a0 hw [] n0 _ X31.size (0 : Int32) (1 : Int32) xa xb ) (hw _ (List.mem_of_getElem? (i := 2) rfl)) (hw _ (List.mem_of_getElem? (i := 3) rfl)) (hw _ (List.mem_of_getElem? (i := 4) rfl)) (hw _ (List.mem_of_getElem? (i := 5) rfl)) (by decide) 2 (by decide) (by decide) rfl [(.int (0 : Int32)), (.int (1 : Int32)), (.long xa), (.int xb)] rfl pd_1 rfl rfl (Nat.le_of_eq rfl) 1 10 rfl rfl (by decide) (by decide) 35 rfl ?_
    rintro _ T32 _ X32 ⟨rfl, rfl⟩
    rw [show (f_at (0 : Int32) (1 : Int32) xa xb) = (f_at (0 : Int32) (1 : Int32) xa xb) from rfl]
    show OE p e room_1 below s n0 Q' T32 (mkF m 35 #[.val (.long xa), .second, .val (.int xb), .val (.int xs), .val (.int xn), .val (.int (1 : Int32)), .val (.int ((xn &&& (2147483647 : Int32)) % (9 : Int32))), .val (.ref b31), .unset, .unset, .unset, .unset] [(.int (f_at (0 : Int32) (1 : Int32) xa xb)), (.int (0 : Int32)), (.ref b31)])
    refine o_bastoreB X32 H31 0 rfl at_35 0 rfl (by show 0 < 10; decide) (f_at (0 : Int32) (1 : Int32) xa xb) (v_atn _ _ _ _) 36 rfl ?_
    intro T33 h33 X33 H33
    replace H33 : OL n0 h33 ((b31, OA Z .byte [(f_at (0 : Int32) (1 : Int32) xa xb), (0 : Int32), (0 : Int32), (0 : Int32), (0 : Int32), (0 : Int32), (0 : Int32), (0 : Int32), (0 : Int32), (0 : Int32)]) :: []) := H33
    refine o_aload X33 at_36 rfl rfl 38 rfl ?_
    refine o_iconst (v := (1 : Int32)) X33 at_38 rfl 39 rfl ?_
    refine o_iconst (v := (1 : Int32)) X33 at_39 rfl 40 rfl ?_
    refine o_iload X33 at_40 rfl 42 rfl ?_
    refine o_lloadN X33 at_42 rfl 43 rfl ?_
    refine o_iloadN X33 at_43 rfl 44 rfl ?_
    refine o_callS X33 at_44 (rest := [(.int (1 : Int32)), (.ref b31)]) (c_at l Z a0 hw [] n0 _ X33.size (1 : Int32) (1 : Int32) xa xb ) (hw _ (List.mem_of_getElem? (i := 2) rfl)) (hw _ (List.mem_of_getElem? (i := 3) rfl)) (hw _ (List.mem_of_getElem? (i := 4) rfl)) (hw _ (List.mem_of_getElem? (i := 5) rfl)) (by decide) 2 (by decide) (by decide) rfl [(.int (1 : Int32)), (.int (1 : Int32)), (.long xa), (.int xb)] rfl pd_1 rfl rfl (Nat.le_of_eq rfl) 1 10 rfl rfl (by decide) (by decide) 47 rfl ?_
    rintro _ T34 _ X34 ⟨rfl, rfl⟩
    rw [show (f_at (1 : Int32) (1 : Int32) xa xb) = (f_by xa (56 : Int32)) from rfl]
    show OE p e room_1 below s n0 Q' T34 (mkF m 47 #[.val (.long xa), .second, .val (.int xb), .val (.int xs), .val (.int xn), .val (.int (1 : Int32)), .val (.int ((xn &&& (2147483647 : Int32)) % (9 : Int32))), .val (.ref b31), .unset, .unset, .unset, .unset] [(.int (f_by xa (56 : Int32))), (.int (1 : Int32)), (.ref b31)])
    refine o_bastoreB X34 H33 0 rfl at_47 1 rfl (by show 1 < 10; decide) (f_by xa (56 : Int32)) (v_byn _ _) 48 rfl ?_
    intro T35 h35 X35 H35
    replace H35 : OL n0 h35 ((b31, OA Z .byte [(f_at (0 : Int32) (1 : Int32) xa xb), (f_by xa (56 : Int32)), (0 : Int32), (0 : Int32), (0 : Int32), (0 : Int32), (0 : Int32), (0 : Int32), (0 : Int32), (0 : Int32)]) :: []) := H35
    refine o_aload X35 at_48 rfl rfl 50 rfl ?_
    refine o_iconst (v := (2 : Int32)) X35 at_50 rfl 51 rfl ?_
    refine o_iconst (v := (2 : Int32)) X35 at_51 rfl 52 rfl ?_
    refine o_iload X35 at_52 rfl 54 rfl ?_
    refine o_lloadN X35 at_54 rfl 55 rfl ?_
    refine o_iloadN X35 at_55 rfl 56 rfl ?_
    refine o_callS X35 at_56 (rest := [(.int (2 : Int32)), (.ref b31)]) (c_at l Z a0 hw [] n0 _ X35.size (2 : Int32) (1 : Int32) xa xb ) (hw _ (List.mem_of_getElem? (i := 2) rfl)) (hw _ (List.mem_of_getElem? (i := 3) rfl)) (hw _ (List.mem_of_getElem? (i := 4) rfl)) (hw _ (List.mem_of_getElem? (i := 5) rfl)) (by decide) 2 (by decide) (by decide) rfl [(.int (2 : Int32)), (.int (1 : Int32)), (.long xa), (.int xb)] rfl pd_1 rfl rfl (Nat.le_of_eq rfl) 1 10 rfl rfl (by decide) (by decide) 59 rfl ?_
    rintro _ T36 _ X36 ⟨rfl, rfl⟩
    rw [show (f_at (2 : Int32) (1 : Int32) xa xb) = (f_by xa (48 : Int32)) from rfl]
    show OE p e room_1 below s n0 Q' T36 (mkF m 59 #[.val (.long xa), .second, .val (.int xb), .val (.int xs), .val (.int xn), .val (.int (1 : Int32)), .val (.int ((xn &&& (2147483647 : Int32)) % (9 : Int32))), .val (.ref b31), .unset, .unset, .unset, .unset] [(.int (f_by xa (48 : Int32))), (.int (2 : Int32)), (.ref b31)])
    refine o_bastoreB X36 H35 0 rfl at_59 2 rfl (by show 2 < 10; decide) (f_by xa (48 : Int32)) (v_byn _ _) 60 rfl ?_
    intro T37 h37 X37 H37
    replace H37 : OL n0 h37 ((b31, OA Z .byte [(f_at (0 : Int32) (1 : Int32) xa xb), (f_by xa (56 : Int32)), (f_by xa (48 : Int32)), (0 : Int32), (0 : Int32), (0 : Int32), (0 : Int32), (0 : Int32), (0 : Int32), (0 : Int32)]) :: []) := H37
    refine o_aload X37 at_60 rfl rfl 62 rfl ?_
    refine o_iconst (v := (3 : Int32)) X37 at_62 rfl 63 rfl ?_
    refine o_iconst (v := (3 : Int32)) X37 at_63 rfl 64 rfl ?_
    refine o_iload X37 at_64 rfl 66 rfl ?_
    refine o_lloadN X37 at_66 rfl 67 rfl ?_
    refine o_iloadN X37 at_67 rfl 68 rfl ?_
    refine o_callS X37 at_68 (rest := [(.int (3 : Int32)), (.ref b31)]) (c_at l Z a0 hw [] n0 _ X37.size (3 : Int32) (1 : Int32) xa xb ) (hw _ (List.mem_of_getElem? (i := 2) rfl)) (hw _ (List.mem_of_getElem? (i := 3) rfl)) (hw _ (List.mem_of_getElem? (i := 4) rfl)) (hw _ (List.mem_of_getElem? (i := 5) rfl)) (by decide) 2 (by decide) (by decide) rfl [(.int (3 : Int32)), (.int (1 : Int32)), (.long xa), (.int xb)] rfl pd_1 rfl rfl (Nat.le_of_eq rfl) 1 10 rfl rfl (by decide) (by decide) 71 rfl ?_
    rintro _ T38 _ X38 ⟨rfl, rfl⟩
    rw [show (f_at (3 : Int32) (1 : Int32) xa xb) = (f_by xa (40 : Int32)) from rfl]
    show OE p e room_1 below s n0 Q' T38 (mkF m 71 #[.val (.long xa), .second, .val (.int xb), .val (.int xs), .val (.int xn), .val (.int (1 : Int32)), .val (.int ((xn &&& (2147483647 : Int32)) % (9 : Int32))), .val (.ref b31), .unset, .unset, .unset, .unset] [(.int (f_by xa (40 : Int32))), (.int (3 : Int32)), (.ref b31)])
    refine o_bastoreB X38 H37 0 rfl at_71 3 rfl (by show 3 < 10; decide) (f_by xa (40 : Int32)) (v_byn _ _) 72 rfl ?_
    intro T39 h39 X39 H39
    replace H39 : OL n0 h39 ((b31, OA Z .byte [(f_at (0 : Int32) (1 : Int32) xa xb), (f_by xa (56 : Int32)), (f_by xa (48 : Int32)), (f_by xa (40 : Int32)), (0 : Int32), (0 : Int32), (0 : Int32), (0 : Int32), (0 : Int32), (0 : Int32)]) :: []) := H39
    refine o_aload X39 at_72 rfl rfl 74 rfl ?_
    refine o_iconst (v := (4 : Int32)) X39 at_74 rfl 75 rfl ?_
    refine o_iconst (v := (4 : Int32)) X39 at_75 rfl 76 rfl ?_
    refine o_iload X39 at_76 rfl 78 rfl ?_
    refine o_lloadN X39 at_78 rfl 79 rfl ?_
    refine o_iloadN X39 at_79 rfl 80 rfl ?_
    refine o_callS X39 at_80 (rest := [(.int (4 : Int32)), (.ref b31)]) (c_at l Z a0 hw [] n0 _ X39.size (4 : Int32) (1 : Int32) xa xb ) (hw _ (List.mem_of_getElem? (i := 2) rfl)) (hw _ (List.mem_of_getElem? (i := 3) rfl)) (hw _ (List.mem_of_getElem? (i := 4) rfl)) (hw _ (List.mem_of_getElem? (i := 5) rfl)) (by decide) 2 (by decide) (by decide) rfl [(.int (4 : Int32)), (.int (1 : Int32)), (.long xa), (.int xb)] rfl pd_1 rfl rfl (Nat.le_of_eq rfl) 1 10 rfl rfl (by decide) (by decide) 83 rfl ?_
    rintro _ T40 _ X40 ⟨rfl, rfl⟩
    rw [show (f_at (4 : Int32) (1 : Int32) xa xb) = (f_by xa (32 : Int32)) from rfl]
    show OE p e room_1 below s n0 Q' T40 (mkF m 83 #[.val (.long xa), .second, .val (.int xb), .val (.int xs), .val (.int xn), .val (.int (1 : Int32)), .val (.int ((xn &&& (2147483647 : Int32)) % (9 : Int32))), .val (.ref b31), .unset, .unset, .unset, .unset] [(.int (f_by xa (32 : Int32))), (.int (4 : Int32)), (.ref b31)])
    refine o_bastoreB X40 H39 0 rfl at_83 4 rfl (by show 4 < 10; decide) (f_by xa (32 : Int32)) (v_byn _ _) 84 rfl ?_
    intro T41 h41 X41 H41
    replace H41 : OL n0 h41 ((b31, OA Z .byte [(f_at (0 : Int32) (1 : Int32) xa xb), (f_by xa (56 : Int32)), (f_by xa (48 : Int32)), (f_by xa (40 : Int32)), (f_by xa (32 : Int32)), (0 : Int32), (0 : Int32), (0 : Int32), (0 : Int32), (0 : Int32)]) :: []) := H41
    refine o_aload X41 at_84 rfl rfl 86 rfl ?_
    refine o_iconst (v := (5 : Int32)) X41 at_86 rfl 87 rfl ?_
    refine o_iconst (v := (5 : Int32)) X41 at_87 rfl 88 rfl ?_
    refine o_iload X41 at_88 rfl 90 rfl ?_
    refine o_lloadN X41 at_90 rfl 91 rfl ?_
    refine o_iloadN X41 at_91 rfl 92 rfl ?_
    refine o_callS X41 at_92 (rest := [(.int (5 : Int32)), (.ref b31)]) (c_at l Z a0 hw [] n0 _ X41.size (5 : Int32) (1 : Int32) xa xb ) (hw _ (List.mem_of_getElem? (i := 2) rfl)) (hw _ (List.mem_of_getElem? (i := 3) rfl)) (hw _ (List.mem_of_getElem? (i := 4) rfl)) (hw _ (List.mem_of_getElem? (i := 5) rfl)) (by decide) 2 (by decide) (by decide) rfl [(.int (5 : Int32)), (.int (1 : Int32)), (.long xa), (.int xb)] rfl pd_1 rfl rfl (Nat.le_of_eq rfl) 1 10 rfl rfl (by decide) (by decide) 95 rfl ?_
    rintro _ T42 _ X42 ⟨rfl, rfl⟩
    rw [show (f_at (5 : Int32) (1 : Int32) xa xb) = (f_by xa (24 : Int32)) from rfl]
    show OE p e room_1 below s n0 Q' T42 (mkF m 95 #[.val (.long xa), .second, .val (.int xb), .val (.int xs), .val (.int xn), .val (.int (1 : Int32)), .val (.int ((xn &&& (2147483647 : Int32)) % (9 : Int32))), .val (.ref b31), .unset, .unset, .unset, .unset] [(.int (f_by xa (24 : Int32))), (.int (5 : Int32)), (.ref b31)])
    refine o_bastoreB X42 H41 0 rfl at_95 5 rfl (by show 5 < 10; decide) (f_by xa (24 : Int32)) (v_byn _ _) 96 rfl ?_
    intro T43 h43 X43 H43
    replace H43 : OL n0 h43 ((b31, OA Z .byte [(f_at (0 : Int32) (1 : Int32) xa xb), (f_by xa (56 : Int32)), (f_by xa (48 : Int32)), (f_by xa (40 : Int32)), (f_by xa (32 : Int32)), (f_by xa (24 : Int32)), (0 : Int32), (0 : Int32), (0 : Int32), (0 : Int32)]) :: []) := H43
    refine o_aload X43 at_96 rfl rfl 98 rfl ?_
    refine o_bipush (v := (6 : Int32)) X43 at_98 rfl 100 rfl ?_
    refine o_bipush (v := (6 : Int32)) X43 at_100 rfl 102 rfl ?_
    refine o_iload X43 at_102 rfl 104 rfl ?_
    refine o_lloadN X43 at_104 rfl 105 rfl ?_
    refine o_iloadN X43 at_105 rfl 106 rfl ?_
    refine o_callS X43 at_106 (rest := [(.int (6 : Int32)), (.ref b31)]) (c_at l Z a0 hw [] n0 _ X43.size (6 : Int32) (1 : Int32) xa xb ) (hw _ (List.mem_of_getElem? (i := 2) rfl)) (hw _ (List.mem_of_getElem? (i := 3) rfl)) (hw _ (List.mem_of_getElem? (i := 4) rfl)) (hw _ (List.mem_of_getElem? (i := 5) rfl)) (by decide) 2 (by decide) (by decide) rfl [(.int (6 : Int32)), (.int (1 : Int32)), (.long xa), (.int xb)] rfl pd_1 rfl rfl (Nat.le_of_eq rfl) 1 10 rfl rfl (by decide) (by decide) 109 rfl ?_
    rintro _ T44 _ X44 ⟨rfl, rfl⟩
    rw [show (f_at (6 : Int32) (1 : Int32) xa xb) = (f_by xa (16 : Int32)) from rfl]
    show OE p e room_1 below s n0 Q' T44 (mkF m 109 #[.val (.long xa), .second, .val (.int xb), .val (.int xs), .val (.int xn), .val (.int (1 : Int32)), .val (.int ((xn &&& (2147483647 : Int32)) % (9 : Int32))), .val (.ref b31), .unset, .unset, .unset, .unset] [(.int (f_by xa (16 : Int32))), (.int (6 : Int32)), (.ref b31)])
    refine o_bastoreB X44 H43 0 rfl at_109 6 rfl (by show 6 < 10; decide) (f_by xa (16 : Int32)) (v_byn _ _) 110 rfl ?_
    intro T45 h45 X45 H45
    replace H45 : OL n0 h45 ((b31, OA Z .byte [(f_at (0 : Int32) (1 : Int32) xa xb), (f_by xa (56 : Int32)), (f_by xa (48 : Int32)), (f_by xa (40 : Int32)), (f_by xa (32 : Int32)), (f_by xa (24 : Int32)), (f_by xa (16 : Int32)), (0 : Int32), (0 : Int32), (0 : Int32)]) :: []) := H45
    refine o_aload X45 at_110 rfl rfl 112 rfl ?_
    refine o_bipush (v := (7 : Int32)) X45 at_112 rfl 114 rfl ?_
    refine o_bipush (v := (7 : Int32)) X45 at_114 rfl 116 rfl ?_
    refine o_iload X45 at_116 rfl 118 rfl ?_
    refine o_lloadN X45 at_118 rfl 119 rfl ?_
    refine o_iloadN X45 at_119 rfl 120 rfl ?_
    refine o_callS X45 at_120 (rest := [(.int (7 : Int32)), (.ref b31)]) (c_at l Z a0 hw [] n0 _ X45.size (7 : Int32) (1 : Int32) xa xb ) (hw _ (List.mem_of_getElem? (i := 2) rfl)) (hw _ (List.mem_of_getElem? (i := 3) rfl)) (hw _ (List.mem_of_getElem? (i := 4) rfl)) (hw _ (List.mem_of_getElem? (i := 5) rfl)) (by decide) 2 (by decide) (by decide) rfl [(.int (7 : Int32)), (.int (1 : Int32)), (.long xa), (.int xb)] rfl pd_1 rfl rfl (Nat.le_of_eq rfl) 1 10 rfl rfl (by decide) (by decide) 123 rfl ?_
    rintro _ T46 _ X46 ⟨rfl, rfl⟩
    rw [show (f_at (7 : Int32) (1 : Int32) xa xb) = (f_by xa (8 : Int32)) from rfl]
    show OE p e room_1 below s n0 Q' T46 (mkF m 123 #[.val (.long xa), .second, .val (.int xb), .val (.int xs), .val (.int xn), .val (.int (1 : Int32)), .val (.int ((xn &&& (2147483647 : Int32)) % (9 : Int32))), .val (.ref b31), .unset, .unset, .unset, .unset] [(.int (f_by xa (8 : Int32))), (.int (7 : Int32)), (.ref b31)])
    refine o_bastoreB X46 H45 0 rfl at_123 7 rfl (by show 7 < 10; decide) (f_by xa (8 : Int32)) (v_byn _ _) 124 rfl ?_
    intro T47 h47 X47 H47
    replace H47 : OL n0 h47 ((b31, OA Z .byte [(f_at (0 : Int32) (1 : Int32) xa xb), (f_by xa (56 : Int32)), (f_by xa (48 : Int32)), (f_by xa (40 : Int32)), (f_by xa (32 : Int32)), (f_by xa (24 : Int32)), (f_by xa (16 : Int32)), (f_by xa (8 : Int32)), (0 : Int32), (0 : Int32)]) :: []) := H47
    refine o_aload X47 at_124 rfl rfl 126 rfl ?_
    refine o_bipush (v := (8 : Int32)) X47 at_126 rfl 128 rfl ?_
    refine o_bipush (v := (8 : Int32)) X47 at_128 rfl 130 rfl ?_
    refine o_iload X47 at_130 rfl 132 rfl ?_
    refine o_lloadN X47 at_132 rfl 133 rfl ?_
    refine o_iloadN X47 at_133 rfl 134 rfl ?_
    refine o_callS X47 at_134 (rest := [(.int (8 : Int32)), (.ref b31)]) (c_at l Z a0 hw [] n0 _ X47.size (8 : Int32) (1 : Int32) xa xb ) (hw _ (List.mem_of_getElem? (i := 2) rfl)) (hw _ (List.mem_of_getElem? (i := 3) rfl)) (hw _ (List.mem_of_getElem? (i := 4) rfl)) (hw _ (List.mem_of_getElem? (i := 5) rfl)) (by decide) 2 (by decide) (by decide) rfl [(.int (8 : Int32)), (.int (1 : Int32)), (.long xa), (.int xb)] rfl pd_1 rfl rfl (Nat.le_of_eq rfl) 1 10 rfl rfl (by decide) (by decide) 137 rfl ?_
    rintro _ T48 _ X48 ⟨rfl, rfl⟩
    rw [show (f_at (8 : Int32) (1 : Int32) xa xb) = (f_by xa (0 : Int32)) from rfl]
    show OE p e room_1 below s n0 Q' T48 (mkF m 137 #[.val (.long xa), .second, .val (.int xb), .val (.int xs), .val (.int xn), .val (.int (1 : Int32)), .val (.int ((xn &&& (2147483647 : Int32)) % (9 : Int32))), .val (.ref b31), .unset, .unset, .unset, .unset] [(.int (f_by xa (0 : Int32))), (.int (8 : Int32)), (.ref b31)])
    refine o_bastoreB X48 H47 0 rfl at_137 8 rfl (by show 8 < 10; decide) (f_by xa (0 : Int32)) (v_byn _ _) 138 rfl ?_
    intro T49 h49 X49 H49
    replace H49 : OL n0 h49 ((b31, OA Z .byte [(f_at (0 : Int32) (1 : Int32) xa xb), (f_by xa (56 : Int32)), (f_by xa (48 : Int32)), (f_by xa (40 : Int32)), (f_by xa (32 : Int32)), (f_by xa (24 : Int32)), (f_by xa (16 : Int32)), (f_by xa (8 : Int32)), (f_by xa (0 : Int32)), (0 : Int32)]) :: []) := H49
    refine o_aload X49 at_138 rfl rfl 140 rfl ?_
    refine o_bipush (v := (9 : Int32)) X49 at_140 rfl 142 rfl ?_
    refine o_bipush (v := (9 : Int32)) X49 at_142 rfl 144 rfl ?_
    refine o_iload X49 at_144 rfl 146 rfl ?_
    refine o_lloadN X49 at_146 rfl 147 rfl ?_
    refine o_iloadN X49 at_147 rfl 148 rfl ?_
    refine o_callS X49 at_148 (rest := [(.int (9 : Int32)), (.ref b31)]) (c_at l Z a0 hw [] n0 _ X49.size (9 : Int32) (1 : Int32) xa xb ) (hw _ (List.mem_of_getElem? (i := 2) rfl)) (hw _ (List.mem_of_getElem? (i := 3) rfl)) (hw _ (List.mem_of_getElem? (i := 4) rfl)) (hw _ (List.mem_of_getElem? (i := 5) rfl)) (by decide) 2 (by decide) (by decide) rfl [(.int (9 : Int32)), (.int (1 : Int32)), (.long xa), (.int xb)] rfl pd_1 rfl rfl (Nat.le_of_eq rfl) 1 10 rfl rfl (by decide) (by decide) 151 rfl ?_
    rintro _ T50 _ X50 ⟨rfl, rfl⟩
    rw [show (f_at (9 : Int32) (1 : Int32) xa xb) = (f_at (9 : Int32) (1 : Int32) xa xb) from rfl]
    show OE p e room_1 below s n0 Q' T50 (mkF m 151 #[.val (.long xa), .second, .val (.int xb), .val (.int xs), .val (.int xn), .val (.int (1 : Int32)), .val (.int ((xn &&& (2147483647 : Int32)) % (9 : Int32))), .val (.ref b31), .unset, .unset, .unset, .unset] [(.int (f_at (9 : Int32) (1 : Int32) xa xb)), (.int (9 : Int32)), (.ref b31)])
    refine o_bastoreB X50 H49 0 rfl at_151 9 rfl (by show 9 < 10; decide) (f_at (9 : Int32) (1 : Int32) xa xb) (v_atn _ _ _ _) 152 rfl ?_
    intro T51 h51 X51 H51
    replace H51 : OL n0 h51 ((b31, OA Z .byte [(f_at (0 : Int32) (1 : Int32) xa xb), (f_by xa (56 : Int32)), (f_by xa (48 : Int32)), (f_by xa (40 : Int32)), (f_by xa (32 : Int32)), (f_by xa (24 : Int32)), (f_by xa (16 : Int32)), (f_by xa (8 : Int32)), (f_by xa (0 : Int32)), (f_at (9 : Int32) (1 : Int32) xa xb)]) :: []) := H51
    rcases v_l xn with hv | hv | hv | hv | hv | hv | hv | hv | hv
    · rw [hv]
      refine o_aload X51 at_152 rfl rfl 154 rfl ?_
      refine o_iload X51 at_154 rfl 156 rfl ?_
      refine o_iload X51 at_156 rfl 158 rfl ?_
      refine o_iload X51 at_158 rfl 160 rfl ?_
      refine o_iadd X51 at_160 161 rfl ?_
      refine o_callS X51 at_161 (rest := []) (c_pack_1_0 l Z a0 hw [] n0 _ X51.size b31 (f_at (0 : Int32) (1 : Int32) xa xb) (f_by xa (56 : Int32)) (f_by xa (48 : Int32)) (f_by xa (40 : Int32)) (f_by xa (32 : Int32)) (f_by xa (24 : Int32)) (f_by xa (16 : Int32)) (f_by xa (8 : Int32)) (f_by xa (0 : Int32)) (f_at (9 : Int32) (1 : Int32) xa xb) [] H51) (hw _ (List.mem_of_getElem? (i := 6) rfl)) (hw _ (List.mem_of_getElem? (i := 7) rfl)) (hw _ (List.mem_of_getElem? (i := 8) rfl)) (hw _ (List.mem_of_getElem? (i := 9) rfl)) (by decide) 0 (by decide) (by decide) rfl [(.ref b31), (.int (1 : Int32)), (.int ((1 : Int32) + (0 : Int32)))] rfl pd_2 rfl rfl (Nat.le_of_eq rfl) 1 10 rfl rfl (by decide) (by decide) 164 rfl ?_
      rintro _ T52 _ X52 ⟨rfl, rfl⟩
      rw [show (0 : Int64) = (0 : Int64) from rfl]
      show OE p e room_1 below s n0 Q' T52 (mkF m 164 #[.val (.long xa), .second, .val (.int xb), .val (.int xs), .val (.int xn), .val (.int (1 : Int32)), .val (.int (0 : Int32)), .val (.ref b31), .unset, .unset, .unset, .unset] [(.long (0 : Int64))])
      refine o_lstore X52 at_164 #[.val (.long xa), .second, .val (.int xb), .val (.int xs), .val (.int xn), .val (.int (1 : Int32)), .val (.int (0 : Int32)), .val (.ref b31), .val (.long (0 : Int64)), .second, .unset, .unset] rfl 166 rfl ?_
      refine o_iload X52 at_166 rfl 168 rfl ?_
      refine o_ifNe X52 at_168 175 171 (by decide) (by decide) rfl (fun q => by exfalso; exact absurd q (by decide)) ?_
      intro hc168
      refine o_lconst (v := (0 : Int64)) X52 at_171 rfl 172 rfl ?_
      refine o_goto X52 at_172 185 (by decide) (by decide) ?_
      refine o_lstore X52 at_185 #[.val (.long xa), .second, .val (.int xb), .val (.int xs), .val (.int xn), .val (.int (1 : Int32)), .val (.int (0 : Int32)), .val (.ref b31), .val (.long (0 : Int64)), .second, .val (.long (0 : Int64)), .second] rfl 187 rfl ?_
      refine o_lload X52 at_187 rfl 189 rfl ?_
      refine o_lload X52 at_189 rfl 191 rfl ?_
      refine o_lcmp X52 at_191 192 rfl ?_
      refine o_ifNe X52 at_192 199 195 (by decide) (by decide) rfl (fun q => by exfalso; exact q ((v_cmp0 _ _).mpr rfl)) ?_
      intro hc192
      refine o_iconst (v := (1 : Int32)) X52 at_195 rfl 196 rfl ?_
      refine o_goto X52 at_196 200 (by decide) (by decide) ?_
      exact o_retZ X52 at_200 (by decide) (by decide) (hQ _ _ rfl)
    · rw [hv]
      refine o_aload X51 at_152 rfl rfl 154 rfl ?_
      refine o_iload X51 at_154 rfl 156 rfl ?_
      refine o_iload X51 at_156 rfl 158 rfl ?_
      refine o_iload X51 at_158 rfl 160 rfl ?_
      refine o_iadd X51 at_160 161 rfl ?_
      refine o_callS X51 at_161 (rest := []) (c_pack_1_1 l Z a0 hw [] n0 _ X51.size b31 (f_at (0 : Int32) (1 : Int32) xa xb) (f_by xa (56 : Int32)) (f_by xa (48 : Int32)) (f_by xa (40 : Int32)) (f_by xa (32 : Int32)) (f_by xa (24 : Int32)) (f_by xa (16 : Int32)) (f_by xa (8 : Int32)) (f_by xa (0 : Int32)) (f_at (9 : Int32) (1 : Int32) xa xb) [] H51) (hw _ (List.mem_of_getElem? (i := 6) rfl)) (hw _ (List.mem_of_getElem? (i := 7) rfl)) (hw _ (List.mem_of_getElem? (i := 8) rfl)) (hw _ (List.mem_of_getElem? (i := 9) rfl)) (by decide) 0 (by decide) (by decide) rfl [(.ref b31), (.int (1 : Int32)), (.int ((1 : Int32) + (1 : Int32)))] rfl pd_2 rfl rfl (Nat.le_of_eq rfl) 1 10 rfl rfl (by decide) (by decide) 164 rfl ?_
      rintro _ T53 _ X53 ⟨rfl, rfl⟩
      rw [show (((0 : Int64) <<< (Int32.toInt64 (8 : Int32) &&& 63)) ||| (Int32.toInt64 ((f_by xa (56 : Int32)) &&& (255 : Int32)))) = (XT.ushrL xa (56 : Int32)) from by rw [v_p1]]
      show OE p e room_1 below s n0 Q' T53 (mkF m 164 #[.val (.long xa), .second, .val (.int xb), .val (.int xs), .val (.int xn), .val (.int (1 : Int32)), .val (.int (1 : Int32)), .val (.ref b31), .unset, .unset, .unset, .unset] [(.long (XT.ushrL xa (56 : Int32)))])
      refine o_lstore X53 at_164 #[.val (.long xa), .second, .val (.int xb), .val (.int xs), .val (.int xn), .val (.int (1 : Int32)), .val (.int (1 : Int32)), .val (.ref b31), .val (.long (XT.ushrL xa (56 : Int32))), .second, .unset, .unset] rfl 166 rfl ?_
      refine o_iload X53 at_166 rfl 168 rfl ?_
      refine o_ifNe X53 at_168 175 171 (by decide) (by decide) rfl ?_ (fun q => by exfalso; exact absurd q (by decide))
      intro hc168
      refine o_lloadN X53 at_175 rfl 176 rfl ?_
      refine o_bipush (v := (64 : Int32)) X53 at_176 rfl 178 rfl ?_
      refine o_bipush (v := (8 : Int32)) X53 at_178 rfl 180 rfl ?_
      refine o_iload X53 at_180 rfl 182 rfl ?_
      refine o_imul X53 at_182 183 rfl ?_
      refine o_isub X53 at_183 184 rfl ?_
      refine o_lushr X53 at_184 185 rfl ?_
      refine o_lstore X53 at_185 #[.val (.long xa), .second, .val (.int xb), .val (.int xs), .val (.int xn), .val (.int (1 : Int32)), .val (.int (1 : Int32)), .val (.ref b31), .val (.long (XT.ushrL xa (56 : Int32))), .second, .val (.long (XT.ushrL xa ((64 : Int32) - ((8 : Int32) * (1 : Int32))))), .second] rfl 187 rfl ?_
      refine o_lload X53 at_187 rfl 189 rfl ?_
      refine o_lload X53 at_189 rfl 191 rfl ?_
      refine o_lcmp X53 at_191 192 rfl ?_
      refine o_ifNe X53 at_192 199 195 (by decide) (by decide) rfl (fun q => by exfalso; exact q ((v_cmp0 _ _).mpr rfl)) ?_
      intro hc192
      refine o_iconst (v := (1 : Int32)) X53 at_195 rfl 196 rfl ?_
      refine o_goto X53 at_196 200 (by decide) (by decide) ?_
      exact o_retZ X53 at_200 (by decide) (by decide) (hQ _ _ rfl)
    · rw [hv]
      refine o_aload X51 at_152 rfl rfl 154 rfl ?_
      refine o_iload X51 at_154 rfl 156 rfl ?_
      refine o_iload X51 at_156 rfl 158 rfl ?_
      refine o_iload X51 at_158 rfl 160 rfl ?_
      refine o_iadd X51 at_160 161 rfl ?_
      refine o_callS X51 at_161 (rest := []) (c_pack_1_2 l Z a0 hw [] n0 _ X51.size b31 (f_at (0 : Int32) (1 : Int32) xa xb) (f_by xa (56 : Int32)) (f_by xa (48 : Int32)) (f_by xa (40 : Int32)) (f_by xa (32 : Int32)) (f_by xa (24 : Int32)) (f_by xa (16 : Int32)) (f_by xa (8 : Int32)) (f_by xa (0 : Int32)) (f_at (9 : Int32) (1 : Int32) xa xb) [] H51) (hw _ (List.mem_of_getElem? (i := 6) rfl)) (hw _ (List.mem_of_getElem? (i := 7) rfl)) (hw _ (List.mem_of_getElem? (i := 8) rfl)) (hw _ (List.mem_of_getElem? (i := 9) rfl)) (by decide) 0 (by decide) (by decide) rfl [(.ref b31), (.int (1 : Int32)), (.int ((1 : Int32) + (2 : Int32)))] rfl pd_2 rfl rfl (Nat.le_of_eq rfl) 1 10 rfl rfl (by decide) (by decide) 164 rfl ?_
      rintro _ T54 _ X54 ⟨rfl, rfl⟩
      rw [show (((((0 : Int64) <<< (Int32.toInt64 (8 : Int32) &&& 63)) ||| (Int32.toInt64 ((f_by xa (56 : Int32)) &&& (255 : Int32)))) <<< (Int32.toInt64 (8 : Int32) &&& 63)) ||| (Int32.toInt64 ((f_by xa (48 : Int32)) &&& (255 : Int32)))) = (XT.ushrL xa (48 : Int32)) from by rw [v_p1, v_p2]]
      show OE p e room_1 below s n0 Q' T54 (mkF m 164 #[.val (.long xa), .second, .val (.int xb), .val (.int xs), .val (.int xn), .val (.int (1 : Int32)), .val (.int (2 : Int32)), .val (.ref b31), .unset, .unset, .unset, .unset] [(.long (XT.ushrL xa (48 : Int32)))])
      refine o_lstore X54 at_164 #[.val (.long xa), .second, .val (.int xb), .val (.int xs), .val (.int xn), .val (.int (1 : Int32)), .val (.int (2 : Int32)), .val (.ref b31), .val (.long (XT.ushrL xa (48 : Int32))), .second, .unset, .unset] rfl 166 rfl ?_
      refine o_iload X54 at_166 rfl 168 rfl ?_
      refine o_ifNe X54 at_168 175 171 (by decide) (by decide) rfl ?_ (fun q => by exfalso; exact absurd q (by decide))
      intro hc168
      refine o_lloadN X54 at_175 rfl 176 rfl ?_
      refine o_bipush (v := (64 : Int32)) X54 at_176 rfl 178 rfl ?_
      refine o_bipush (v := (8 : Int32)) X54 at_178 rfl 180 rfl ?_
      refine o_iload X54 at_180 rfl 182 rfl ?_
      refine o_imul X54 at_182 183 rfl ?_
      refine o_isub X54 at_183 184 rfl ?_
      refine o_lushr X54 at_184 185 rfl ?_
      refine o_lstore X54 at_185 #[.val (.long xa), .second, .val (.int xb), .val (.int xs), .val (.int xn), .val (.int (1 : Int32)), .val (.int (2 : Int32)), .val (.ref b31), .val (.long (XT.ushrL xa (48 : Int32))), .second, .val (.long (XT.ushrL xa ((64 : Int32) - ((8 : Int32) * (2 : Int32))))), .second] rfl 187 rfl ?_
      refine o_lload X54 at_187 rfl 189 rfl ?_
      refine o_lload X54 at_189 rfl 191 rfl ?_
      refine o_lcmp X54 at_191 192 rfl ?_
      refine o_ifNe X54 at_192 199 195 (by decide) (by decide) rfl (fun q => by exfalso; exact q ((v_cmp0 _ _).mpr rfl)) ?_
      intro hc192
      refine o_iconst (v := (1 : Int32)) X54 at_195 rfl 196 rfl ?_
      refine o_goto X54 at_196 200 (by decide) (by decide) ?_
      exact o_retZ X54 at_200 (by decide) (by decide) (hQ _ _ rfl)
    · rw [hv]
      refine o_aload X51 at_152 rfl rfl 154 rfl ?_
      refine o_iload X51 at_154 rfl 156 rfl ?_
      refine o_iload X51 at_156 rfl 158 rfl ?_
      refine o_iload X51 at_158 rfl 160 rfl ?_
      refine o_iadd X51 at_160 161 rfl ?_
      refine o_callS X51 at_161 (rest := []) (c_pack_1_3 l Z a0 hw [] n0 _ X51.size b31 (f_at (0 : Int32) (1 : Int32) xa xb) (f_by xa (56 : Int32)) (f_by xa (48 : Int32)) (f_by xa (40 : Int32)) (f_by xa (32 : Int32)) (f_by xa (24 : Int32)) (f_by xa (16 : Int32)) (f_by xa (8 : Int32)) (f_by xa (0 : Int32)) (f_at (9 : Int32) (1 : Int32) xa xb) [] H51) (hw _ (List.mem_of_getElem? (i := 6) rfl)) (hw _ (List.mem_of_getElem? (i := 7) rfl)) (hw _ (List.mem_of_getElem? (i := 8) rfl)) (hw _ (List.mem_of_getElem? (i := 9) rfl)) (by decide) 0 (by decide) (by decide) rfl [(.ref b31), (.int (1 : Int32)), (.int ((1 : Int32) + (3 : Int32)))] rfl pd_2 rfl rfl (Nat.le_of_eq rfl) 1 10 rfl rfl (by decide) (by decide) 164 rfl ?_
      rintro _ T55 _ X55 ⟨rfl, rfl⟩
      rw [show (((((((0 : Int64) <<< (Int32.toInt64 (8 : Int32) &&& 63)) ||| (Int32.toInt64 ((f_by xa (56 : Int32)) &&& (255 : Int32)))) <<< (Int32.toInt64 (8 : Int32) &&& 63)) ||| (Int32.toInt64 ((f_by xa (48 : Int32)) &&& (255 : Int32)))) <<< (Int32.toInt64 (8 : Int32) &&& 63)) ||| (Int32.toInt64 ((f_by xa (40 : Int32)) &&& (255 : Int32)))) = (XT.ushrL xa (40 : Int32)) from by rw [v_p1, v_p2, v_p3]]
      show OE p e room_1 below s n0 Q' T55 (mkF m 164 #[.val (.long xa), .second, .val (.int xb), .val (.int xs), .val (.int xn), .val (.int (1 : Int32)), .val (.int (3 : Int32)), .val (.ref b31), .unset, .unset, .unset, .unset] [(.long (XT.ushrL xa (40 : Int32)))])
      refine o_lstore X55 at_164 #[.val (.long xa), .second, .val (.int xb), .val (.int xs), .val (.int xn), .val (.int (1 : Int32)), .val (.int (3 : Int32)), .val (.ref b31), .val (.long (XT.ushrL xa (40 : Int32))), .second, .unset, .unset] rfl 166 rfl ?_
      refine o_iload X55 at_166 rfl 168 rfl ?_
      refine o_ifNe X55 at_168 175 171 (by decide) (by decide) rfl ?_ (fun q => by exfalso; exact absurd q (by decide))
      intro hc168
      refine o_lloadN X55 at_175 rfl 176 rfl ?_
      refine o_bipush (v := (64 : Int32)) X55 at_176 rfl 178 rfl ?_
      refine o_bipush (v := (8 : Int32)) X55 at_178 rfl 180 rfl ?_
      refine o_iload X55 at_180 rfl 182 rfl ?_
      refine o_imul X55 at_182 183 rfl ?_
      refine o_isub X55 at_183 184 rfl ?_
      refine o_lushr X55 at_184 185 rfl ?_
      refine o_lstore X55 at_185 #[.val (.long xa), .second, .val (.int xb), .val (.int xs), .val (.int xn), .val (.int (1 : Int32)), .val (.int (3 : Int32)), .val (.ref b31), .val (.long (XT.ushrL xa (40 : Int32))), .second, .val (.long (XT.ushrL xa ((64 : Int32) - ((8 : Int32) * (3 : Int32))))), .second] rfl 187 rfl ?_
      refine o_lload X55 at_187 rfl 189 rfl ?_
      refine o_lload X55 at_189 rfl 191 rfl ?_
      refine o_lcmp X55 at_191 192 rfl ?_
      refine o_ifNe X55 at_192 199 195 (by decide) (by decide) rfl (fun q => by exfalso; exact q ((v_cmp0 _ _).mpr rfl)) ?_
      intro hc192
      refine o_iconst (v := (1 : Int32)) X55 at_195 rfl 196 rfl ?_
      refine o_goto X55 at_196 200 (by decide) (by decide) ?_
      exact o_retZ X55 at_200 (by decide) (by decide) (hQ _ _ rfl)
    · rw [hv]
      refine o_aload X51 at_152 rfl rfl 154 rfl ?_
      refine o_iload X51 at_154 rfl 156 rfl ?_
      refine o_iload X51 at_156 rfl 158 rfl ?_
      refine o_iload X51 at_158 rfl 160 rfl ?_
      refine o_iadd X51 at_160 161 rfl ?_
      refine o_callS X51 at_161 (rest := []) (c_pack_1_4 l Z a0 hw [] n0 _ X51.size b31 (f_at (0 : Int32) (1 : Int32) xa xb) (f_by xa (56 : Int32)) (f_by xa (48 : Int32)) (f_by xa (40 : Int32)) (f_by xa (32 : Int32)) (f_by xa (24 : Int32)) (f_by xa (16 : Int32)) (f_by xa (8 : Int32)) (f_by xa (0 : Int32)) (f_at (9 : Int32) (1 : Int32) xa xb) [] H51) (hw _ (List.mem_of_getElem? (i := 6) rfl)) (hw _ (List.mem_of_getElem? (i := 7) rfl)) (hw _ (List.mem_of_getElem? (i := 8) rfl)) (hw _ (List.mem_of_getElem? (i := 9) rfl)) (by decide) 0 (by decide) (by decide) rfl [(.ref b31), (.int (1 : Int32)), (.int ((1 : Int32) + (4 : Int32)))] rfl pd_2 rfl rfl (Nat.le_of_eq rfl) 1 10 rfl rfl (by decide) (by decide) 164 rfl ?_
      rintro _ T56 _ X56 ⟨rfl, rfl⟩
      rw [show (((((((((0 : Int64) <<< (Int32.toInt64 (8 : Int32) &&& 63)) ||| (Int32.toInt64 ((f_by xa (56 : Int32)) &&& (255 : Int32)))) <<< (Int32.toInt64 (8 : Int32) &&& 63)) ||| (Int32.toInt64 ((f_by xa (48 : Int32)) &&& (255 : Int32)))) <<< (Int32.toInt64 (8 : Int32) &&& 63)) ||| (Int32.toInt64 ((f_by xa (40 : Int32)) &&& (255 : Int32)))) <<< (Int32.toInt64 (8 : Int32) &&& 63)) ||| (Int32.toInt64 ((f_by xa (32 : Int32)) &&& (255 : Int32)))) = (XT.ushrL xa (32 : Int32)) from by rw [v_p1, v_p2, v_p3, v_p4]]
      show OE p e room_1 below s n0 Q' T56 (mkF m 164 #[.val (.long xa), .second, .val (.int xb), .val (.int xs), .val (.int xn), .val (.int (1 : Int32)), .val (.int (4 : Int32)), .val (.ref b31), .unset, .unset, .unset, .unset] [(.long (XT.ushrL xa (32 : Int32)))])
      refine o_lstore X56 at_164 #[.val (.long xa), .second, .val (.int xb), .val (.int xs), .val (.int xn), .val (.int (1 : Int32)), .val (.int (4 : Int32)), .val (.ref b31), .val (.long (XT.ushrL xa (32 : Int32))), .second, .unset, .unset] rfl 166 rfl ?_
      refine o_iload X56 at_166 rfl 168 rfl ?_
      refine o_ifNe X56 at_168 175 171 (by decide) (by decide) rfl ?_ (fun q => by exfalso; exact absurd q (by decide))
      intro hc168
      refine o_lloadN X56 at_175 rfl 176 rfl ?_
      refine o_bipush (v := (64 : Int32)) X56 at_176 rfl 178 rfl ?_
      refine o_bipush (v := (8 : Int32)) X56 at_178 rfl 180 rfl ?_
      refine o_iload X56 at_180 rfl 182 rfl ?_
      refine o_imul X56 at_182 183 rfl ?_
      refine o_isub X56 at_183 184 rfl ?_
      refine o_lushr X56 at_184 185 rfl ?_
      refine o_lstore X56 at_185 #[.val (.long xa), .second, .val (.int xb), .val (.int xs), .val (.int xn), .val (.int (1 : Int32)), .val (.int (4 : Int32)), .val (.ref b31), .val (.long (XT.ushrL xa (32 : Int32))), .second, .val (.long (XT.ushrL xa ((64 : Int32) - ((8 : Int32) * (4 : Int32))))), .second] rfl 187 rfl ?_
      refine o_lload X56 at_187 rfl 189 rfl ?_
      refine o_lload X56 at_189 rfl 191 rfl ?_
      refine o_lcmp X56 at_191 192 rfl ?_
      refine o_ifNe X56 at_192 199 195 (by decide) (by decide) rfl (fun q => by exfalso; exact q ((v_cmp0 _ _).mpr rfl)) ?_
      intro hc192
      refine o_iconst (v := (1 : Int32)) X56 at_195 rfl 196 rfl ?_
      refine o_goto X56 at_196 200 (by decide) (by decide) ?_
      exact o_retZ X56 at_200 (by decide) (by decide) (hQ _ _ rfl)
    · rw [hv]
      refine o_aload X51 at_152 rfl rfl 154 rfl ?_
      refine o_iload X51 at_154 rfl 156 rfl ?_
      refine o_iload X51 at_156 rfl 158 rfl ?_
      refine o_iload X51 at_158 rfl 160 rfl ?_
      refine o_iadd X51 at_160 161 rfl ?_
      refine o_callS X51 at_161 (rest := []) (c_pack_1_5 l Z a0 hw [] n0 _ X51.size b31 (f_at (0 : Int32) (1 : Int32) xa xb) (f_by xa (56 : Int32)) (f_by xa (48 : Int32)) (f_by xa (40 : Int32)) (f_by xa (32 : Int32)) (f_by xa (24 : Int32)) (f_by xa (16 : Int32)) (f_by xa (8 : Int32)) (f_by xa (0 : Int32)) (f_at (9 : Int32) (1 : Int32) xa xb) [] H51) (hw _ (List.mem_of_getElem? (i := 6) rfl)) (hw _ (List.mem_of_getElem? (i := 7) rfl)) (hw _ (List.mem_of_getElem? (i := 8) rfl)) (hw _ (List.mem_of_getElem? (i := 9) rfl)) (by decide) 0 (by decide) (by decide) rfl [(.ref b31), (.int (1 : Int32)), (.int ((1 : Int32) + (5 : Int32)))] rfl pd_2 rfl rfl (Nat.le_of_eq rfl) 1 10 rfl rfl (by decide) (by decide) 164 rfl ?_
      rintro _ T57 _ X57 ⟨rfl, rfl⟩
      rw [show (((((((((((0 : Int64) <<< (Int32.toInt64 (8 : Int32) &&& 63)) ||| (Int32.toInt64 ((f_by xa (56 : Int32)) &&& (255 : Int32)))) <<< (Int32.toInt64 (8 : Int32) &&& 63)) ||| (Int32.toInt64 ((f_by xa (48 : Int32)) &&& (255 : Int32)))) <<< (Int32.toInt64 (8 : Int32) &&& 63)) ||| (Int32.toInt64 ((f_by xa (40 : Int32)) &&& (255 : Int32)))) <<< (Int32.toInt64 (8 : Int32) &&& 63)) ||| (Int32.toInt64 ((f_by xa (32 : Int32)) &&& (255 : Int32)))) <<< (Int32.toInt64 (8 : Int32) &&& 63)) ||| (Int32.toInt64 ((f_by xa (24 : Int32)) &&& (255 : Int32)))) = (XT.ushrL xa (24 : Int32)) from by rw [v_p1, v_p2, v_p3, v_p4, v_p5]]
      show OE p e room_1 below s n0 Q' T57 (mkF m 164 #[.val (.long xa), .second, .val (.int xb), .val (.int xs), .val (.int xn), .val (.int (1 : Int32)), .val (.int (5 : Int32)), .val (.ref b31), .unset, .unset, .unset, .unset] [(.long (XT.ushrL xa (24 : Int32)))])
      refine o_lstore X57 at_164 #[.val (.long xa), .second, .val (.int xb), .val (.int xs), .val (.int xn), .val (.int (1 : Int32)), .val (.int (5 : Int32)), .val (.ref b31), .val (.long (XT.ushrL xa (24 : Int32))), .second, .unset, .unset] rfl 166 rfl ?_
      refine o_iload X57 at_166 rfl 168 rfl ?_
      refine o_ifNe X57 at_168 175 171 (by decide) (by decide) rfl ?_ (fun q => by exfalso; exact absurd q (by decide))
      intro hc168
      refine o_lloadN X57 at_175 rfl 176 rfl ?_
      refine o_bipush (v := (64 : Int32)) X57 at_176 rfl 178 rfl ?_
      refine o_bipush (v := (8 : Int32)) X57 at_178 rfl 180 rfl ?_
      refine o_iload X57 at_180 rfl 182 rfl ?_
      refine o_imul X57 at_182 183 rfl ?_
      refine o_isub X57 at_183 184 rfl ?_
      refine o_lushr X57 at_184 185 rfl ?_
      refine o_lstore X57 at_185 #[.val (.long xa), .second, .val (.int xb), .val (.int xs), .val (.int xn), .val (.int (1 : Int32)), .val (.int (5 : Int32)), .val (.ref b31), .val (.long (XT.ushrL xa (24 : Int32))), .second, .val (.long (XT.ushrL xa ((64 : Int32) - ((8 : Int32) * (5 : Int32))))), .second] rfl 187 rfl ?_
      refine o_lload X57 at_187 rfl 189 rfl ?_
      refine o_lload X57 at_189 rfl 191 rfl ?_
      refine o_lcmp X57 at_191 192 rfl ?_
      refine o_ifNe X57 at_192 199 195 (by decide) (by decide) rfl (fun q => by exfalso; exact q ((v_cmp0 _ _).mpr rfl)) ?_
      intro hc192
      refine o_iconst (v := (1 : Int32)) X57 at_195 rfl 196 rfl ?_
      refine o_goto X57 at_196 200 (by decide) (by decide) ?_
      exact o_retZ X57 at_200 (by decide) (by decide) (hQ _ _ rfl)
    · rw [hv]
      refine o_aload X51 at_152 rfl rfl 154 rfl ?_
      refine o_iload X51 at_154 rfl 156 rfl ?_
      refine o_iload X51 at_156 rfl 158 rfl ?_
      refine o_iload X51 at_158 rfl 160 rfl ?_
      refine o_iadd X51 at_160 161 rfl ?_
      refine o_callS X51 at_161 (rest := []) (c_pack_1_6 l Z a0 hw [] n0 _ X51.size b31 (f_at (0 : Int32) (1 : Int32) xa xb) (f_by xa (56 : Int32)) (f_by xa (48 : Int32)) (f_by xa (40 : Int32)) (f_by xa (32 : Int32)) (f_by xa (24 : Int32)) (f_by xa (16 : Int32)) (f_by xa (8 : Int32)) (f_by xa (0 : Int32)) (f_at (9 : Int32) (1 : Int32) xa xb) [] H51) (hw _ (List.mem_of_getElem? (i := 6) rfl)) (hw _ (List.mem_of_getElem? (i := 7) rfl)) (hw _ (List.mem_of_getElem? (i := 8) rfl)) (hw _ (List.mem_of_getElem? (i := 9) rfl)) (by decide) 0 (by decide) (by decide) rfl [(.ref b31), (.int (1 : Int32)), (.int ((1 : Int32) + (6 : Int32)))] rfl pd_2 rfl rfl (Nat.le_of_eq rfl) 1 10 rfl rfl (by decide) (by decide) 164 rfl ?_
      rintro _ T58 _ X58 ⟨rfl, rfl⟩
      rw [show (((((((((((((0 : Int64) <<< (Int32.toInt64 (8 : Int32) &&& 63)) ||| (Int32.toInt64 ((f_by xa (56 : Int32)) &&& (255 : Int32)))) <<< (Int32.toInt64 (8 : Int32) &&& 63)) ||| (Int32.toInt64 ((f_by xa (48 : Int32)) &&& (255 : Int32)))) <<< (Int32.toInt64 (8 : Int32) &&& 63)) ||| (Int32.toInt64 ((f_by xa (40 : Int32)) &&& (255 : Int32)))) <<< (Int32.toInt64 (8 : Int32) &&& 63)) ||| (Int32.toInt64 ((f_by xa (32 : Int32)) &&& (255 : Int32)))) <<< (Int32.toInt64 (8 : Int32) &&& 63)) ||| (Int32.toInt64 ((f_by xa (24 : Int32)) &&& (255 : Int32)))) <<< (Int32.toInt64 (8 : Int32) &&& 63)) ||| (Int32.toInt64 ((f_by xa (16 : Int32)) &&& (255 : Int32)))) = (XT.ushrL xa (16 : Int32)) from by rw [v_p1, v_p2, v_p3, v_p4, v_p5, v_p6]]
      show OE p e room_1 below s n0 Q' T58 (mkF m 164 #[.val (.long xa), .second, .val (.int xb), .val (.int xs), .val (.int xn), .val (.int (1 : Int32)), .val (.int (6 : Int32)), .val (.ref b31), .unset, .unset, .unset, .unset] [(.long (XT.ushrL xa (16 : Int32)))])
      refine o_lstore X58 at_164 #[.val (.long xa), .second, .val (.int xb), .val (.int xs), .val (.int xn), .val (.int (1 : Int32)), .val (.int (6 : Int32)), .val (.ref b31), .val (.long (XT.ushrL xa (16 : Int32))), .second, .unset, .unset] rfl 166 rfl ?_
      refine o_iload X58 at_166 rfl 168 rfl ?_
      refine o_ifNe X58 at_168 175 171 (by decide) (by decide) rfl ?_ (fun q => by exfalso; exact absurd q (by decide))
      intro hc168
      refine o_lloadN X58 at_175 rfl 176 rfl ?_
      refine o_bipush (v := (64 : Int32)) X58 at_176 rfl 178 rfl ?_
      refine o_bipush (v := (8 : Int32)) X58 at_178 rfl 180 rfl ?_
      refine o_iload X58 at_180 rfl 182 rfl ?_
      refine o_imul X58 at_182 183 rfl ?_
      refine o_isub X58 at_183 184 rfl ?_
      refine o_lushr X58 at_184 185 rfl ?_
      refine o_lstore X58 at_185 #[.val (.long xa), .second, .val (.int xb), .val (.int xs), .val (.int xn), .val (.int (1 : Int32)), .val (.int (6 : Int32)), .val (.ref b31), .val (.long (XT.ushrL xa (16 : Int32))), .second, .val (.long (XT.ushrL xa ((64 : Int32) - ((8 : Int32) * (6 : Int32))))), .second] rfl 187 rfl ?_
      refine o_lload X58 at_187 rfl 189 rfl ?_
      refine o_lload X58 at_189 rfl 191 rfl ?_
      refine o_lcmp X58 at_191 192 rfl ?_
      refine o_ifNe X58 at_192 199 195 (by decide) (by decide) rfl (fun q => by exfalso; exact q ((v_cmp0 _ _).mpr rfl)) ?_
      intro hc192
      refine o_iconst (v := (1 : Int32)) X58 at_195 rfl 196 rfl ?_
      refine o_goto X58 at_196 200 (by decide) (by decide) ?_
      exact o_retZ X58 at_200 (by decide) (by decide) (hQ _ _ rfl)
    · rw [hv]
      refine o_aload X51 at_152 rfl rfl 154 rfl ?_
      refine o_iload X51 at_154 rfl 156 rfl ?_
      refine o_iload X51 at_156 rfl 158 rfl ?_
      refine o_iload X51 at_158 rfl 160 rfl ?_
      refine o_iadd X51 at_160 161 rfl ?_
      refine o_callS X51 at_161 (rest := []) (c_pack_1_7 l Z a0 hw [] n0 _ X51.size b31 (f_at (0 : Int32) (1 : Int32) xa xb) (f_by xa (56 : Int32)) (f_by xa (48 : Int32)) (f_by xa (40 : Int32)) (f_by xa (32 : Int32)) (f_by xa (24 : Int32)) (f_by xa (16 : Int32)) (f_by xa (8 : Int32)) (f_by xa (0 : Int32)) (f_at (9 : Int32) (1 : Int32) xa xb) [] H51) (hw _ (List.mem_of_getElem? (i := 6) rfl)) (hw _ (List.mem_of_getElem? (i := 7) rfl)) (hw _ (List.mem_of_getElem? (i := 8) rfl)) (hw _ (List.mem_of_getElem? (i := 9) rfl)) (by decide) 0 (by decide) (by decide) rfl [(.ref b31), (.int (1 : Int32)), (.int ((1 : Int32) + (7 : Int32)))] rfl pd_2 rfl rfl (Nat.le_of_eq rfl) 1 10 rfl rfl (by decide) (by decide) 164 rfl ?_
      rintro _ T59 _ X59 ⟨rfl, rfl⟩
      rw [show (((((((((((((((0 : Int64) <<< (Int32.toInt64 (8 : Int32) &&& 63)) ||| (Int32.toInt64 ((f_by xa (56 : Int32)) &&& (255 : Int32)))) <<< (Int32.toInt64 (8 : Int32) &&& 63)) ||| (Int32.toInt64 ((f_by xa (48 : Int32)) &&& (255 : Int32)))) <<< (Int32.toInt64 (8 : Int32) &&& 63)) ||| (Int32.toInt64 ((f_by xa (40 : Int32)) &&& (255 : Int32)))) <<< (Int32.toInt64 (8 : Int32) &&& 63)) ||| (Int32.toInt64 ((f_by xa (32 : Int32)) &&& (255 : Int32)))) <<< (Int32.toInt64 (8 : Int32) &&& 63)) ||| (Int32.toInt64 ((f_by xa (24 : Int32)) &&& (255 : Int32)))) <<< (Int32.toInt64 (8 : Int32) &&& 63)) ||| (Int32.toInt64 ((f_by xa (16 : Int32)) &&& (255 : Int32)))) <<< (Int32.toInt64 (8 : Int32) &&& 63)) ||| (Int32.toInt64 ((f_by xa (8 : Int32)) &&& (255 : Int32)))) = (XT.ushrL xa (8 : Int32)) from by rw [v_p1, v_p2, v_p3, v_p4, v_p5, v_p6, v_p7]]
      show OE p e room_1 below s n0 Q' T59 (mkF m 164 #[.val (.long xa), .second, .val (.int xb), .val (.int xs), .val (.int xn), .val (.int (1 : Int32)), .val (.int (7 : Int32)), .val (.ref b31), .unset, .unset, .unset, .unset] [(.long (XT.ushrL xa (8 : Int32)))])
      refine o_lstore X59 at_164 #[.val (.long xa), .second, .val (.int xb), .val (.int xs), .val (.int xn), .val (.int (1 : Int32)), .val (.int (7 : Int32)), .val (.ref b31), .val (.long (XT.ushrL xa (8 : Int32))), .second, .unset, .unset] rfl 166 rfl ?_
      refine o_iload X59 at_166 rfl 168 rfl ?_
      refine o_ifNe X59 at_168 175 171 (by decide) (by decide) rfl ?_ (fun q => by exfalso; exact absurd q (by decide))
      intro hc168
      refine o_lloadN X59 at_175 rfl 176 rfl ?_
      refine o_bipush (v := (64 : Int32)) X59 at_176 rfl 178 rfl ?_
      refine o_bipush (v := (8 : Int32)) X59 at_178 rfl 180 rfl ?_
      refine o_iload X59 at_180 rfl 182 rfl ?_
      refine o_imul X59 at_182 183 rfl ?_
      refine o_isub X59 at_183 184 rfl ?_
      refine o_lushr X59 at_184 185 rfl ?_
      refine o_lstore X59 at_185 #[.val (.long xa), .second, .val (.int xb), .val (.int xs), .val (.int xn), .val (.int (1 : Int32)), .val (.int (7 : Int32)), .val (.ref b31), .val (.long (XT.ushrL xa (8 : Int32))), .second, .val (.long (XT.ushrL xa ((64 : Int32) - ((8 : Int32) * (7 : Int32))))), .second] rfl 187 rfl ?_
      refine o_lload X59 at_187 rfl 189 rfl ?_
      refine o_lload X59 at_189 rfl 191 rfl ?_
      refine o_lcmp X59 at_191 192 rfl ?_
      refine o_ifNe X59 at_192 199 195 (by decide) (by decide) rfl (fun q => by exfalso; exact q ((v_cmp0 _ _).mpr rfl)) ?_
      intro hc192
      refine o_iconst (v := (1 : Int32)) X59 at_195 rfl 196 rfl ?_
      refine o_goto X59 at_196 200 (by decide) (by decide) ?_
      exact o_retZ X59 at_200 (by decide) (by decide) (hQ _ _ rfl)
    · rw [hv]
      refine o_aload X51 at_152 rfl rfl 154 rfl ?_
      refine o_iload X51 at_154 rfl 156 rfl ?_
      refine o_iload X51 at_156 rfl 158 rfl ?_
      refine o_iload X51 at_158 rfl 160 rfl ?_
      refine o_iadd X51 at_160 161 rfl ?_
      refine o_callS X51 at_161 (rest := []) (c_pack_1_8 l Z a0 hw [] n0 _ X51.size b31 (f_at (0 : Int32) (1 : Int32) xa xb) (f_by xa (56 : Int32)) (f_by xa (48 : Int32)) (f_by xa (40 : Int32)) (f_by xa (32 : Int32)) (f_by xa (24 : Int32)) (f_by xa (16 : Int32)) (f_by xa (8 : Int32)) (f_by xa (0 : Int32)) (f_at (9 : Int32) (1 : Int32) xa xb) [] H51) (hw _ (List.mem_of_getElem? (i := 6) rfl)) (hw _ (List.mem_of_getElem? (i := 7) rfl)) (hw _ (List.mem_of_getElem? (i := 8) rfl)) (hw _ (List.mem_of_getElem? (i := 9) rfl)) (by decide) 0 (by decide) (by decide) rfl [(.ref b31), (.int (1 : Int32)), (.int ((1 : Int32) + (8 : Int32)))] rfl pd_2 rfl rfl (Nat.le_of_eq rfl) 1 10 rfl rfl (by decide) (by decide) 164 rfl ?_
      rintro _ T60 _ X60 ⟨rfl, rfl⟩
      rw [show (((((((((((((((((0 : Int64) <<< (Int32.toInt64 (8 : Int32) &&& 63)) ||| (Int32.toInt64 ((f_by xa (56 : Int32)) &&& (255 : Int32)))) <<< (Int32.toInt64 (8 : Int32) &&& 63)) ||| (Int32.toInt64 ((f_by xa (48 : Int32)) &&& (255 : Int32)))) <<< (Int32.toInt64 (8 : Int32) &&& 63)) ||| (Int32.toInt64 ((f_by xa (40 : Int32)) &&& (255 : Int32)))) <<< (Int32.toInt64 (8 : Int32) &&& 63)) ||| (Int32.toInt64 ((f_by xa (32 : Int32)) &&& (255 : Int32)))) <<< (Int32.toInt64 (8 : Int32) &&& 63)) ||| (Int32.toInt64 ((f_by xa (24 : Int32)) &&& (255 : Int32)))) <<< (Int32.toInt64 (8 : Int32) &&& 63)) ||| (Int32.toInt64 ((f_by xa (16 : Int32)) &&& (255 : Int32)))) <<< (Int32.toInt64 (8 : Int32) &&& 63)) ||| (Int32.toInt64 ((f_by xa (8 : Int32)) &&& (255 : Int32)))) <<< (Int32.toInt64 (8 : Int32) &&& 63)) ||| (Int32.toInt64 ((f_by xa (0 : Int32)) &&& (255 : Int32)))) = (XT.ushrL xa (0 : Int32)) from by rw [v_p1, v_p2, v_p3, v_p4, v_p5, v_p6, v_p7, v_p8]]
      show OE p e room_1 below s n0 Q' T60 (mkF m 164 #[.val (.long xa), .second, .val (.int xb), .val (.int xs), .val (.int xn), .val (.int (1 : Int32)), .val (.int (8 : Int32)), .val (.ref b31), .unset, .unset, .unset, .unset] [(.long (XT.ushrL xa (0 : Int32)))])
      refine o_lstore X60 at_164 #[.val (.long xa), .second, .val (.int xb), .val (.int xs), .val (.int xn), .val (.int (1 : Int32)), .val (.int (8 : Int32)), .val (.ref b31), .val (.long (XT.ushrL xa (0 : Int32))), .second, .unset, .unset] rfl 166 rfl ?_
      refine o_iload X60 at_166 rfl 168 rfl ?_
      refine o_ifNe X60 at_168 175 171 (by decide) (by decide) rfl ?_ (fun q => by exfalso; exact absurd q (by decide))
      intro hc168
      refine o_lloadN X60 at_175 rfl 176 rfl ?_
      refine o_bipush (v := (64 : Int32)) X60 at_176 rfl 178 rfl ?_
      refine o_bipush (v := (8 : Int32)) X60 at_178 rfl 180 rfl ?_
      refine o_iload X60 at_180 rfl 182 rfl ?_
      refine o_imul X60 at_182 183 rfl ?_
      refine o_isub X60 at_183 184 rfl ?_
      refine o_lushr X60 at_184 185 rfl ?_
      refine o_lstore X60 at_185 #[.val (.long xa), .second, .val (.int xb), .val (.int xs), .val (.int xn), .val (.int (1 : Int32)), .val (.int (8 : Int32)), .val (.ref b31), .val (.long (XT.ushrL xa (0 : Int32))), .second, .val (.long (XT.ushrL xa ((64 : Int32) - ((8 : Int32) * (8 : Int32))))), .second] rfl 187 rfl ?_
      refine o_lload X60 at_187 rfl 189 rfl ?_
      refine o_lload X60 at_189 rfl 191 rfl ?_
      refine o_lcmp X60 at_191 192 rfl ?_
      refine o_ifNe X60 at_192 199 195 (by decide) (by decide) rfl (fun q => by exfalso; exact q ((v_cmp0 _ _).mpr rfl)) ?_
      intro hc192
      refine o_iconst (v := (1 : Int32)) X60 at_195 rfl 196 rfl ?_
      refine o_goto X60 at_196 200 (by decide) (by decide) ?_
      exact o_retZ X60 at_200 (by decide) (by decide) (hQ _ _ rfl)
  · rw [hv]
    refine o_iload X0 at_8 rfl 10 rfl ?_
    refine o_ldc (v := (2147483647 : Int32)) X0 at_10 (hw _ (List.mem_of_getElem? (i := 0) rfl)) 12 rfl ?_
    refine o_iand X0 at_12 13 rfl ?_
    refine o_bipush (v := (9 : Int32)) X0 at_13 rfl 15 rfl ?_
    refine o_irem X0 at_15 (by decide) 16 rfl ?_
    refine o_istore X0 at_16 #[.val (.long xa), .second, .val (.int xb), .val (.int xs), .val (.int xn), .val (.int (2 : Int32)), .val (.int ((xn &&& (2147483647 : Int32)) % (9 : Int32))), .unset, .unset, .unset, .unset, .unset] rfl 18 rfl ?_
    refine o_bipush (v := (10 : Int32)) X0 at_18 rfl 20 rfl ?_
    refine o_newarray (L := []) X0 OL.nil at_20 (hw _ (List.mem_of_getElem? (i := 1) rfl)) rfl rfl 10 10 rfl (by decide) (by decide) 1 10 rfl rfl (by decide) (by decide) 22 rfl ?_
    intro T61 h61 b61 X61 H61
    replace H61 : OL n0 h61 ((b61, OA Z .byte [(0 : Int32), (0 : Int32), (0 : Int32), (0 : Int32), (0 : Int32), (0 : Int32), (0 : Int32), (0 : Int32), (0 : Int32), (0 : Int32)]) :: []) := H61
    refine o_astore X61 at_22 rfl #[.val (.long xa), .second, .val (.int xb), .val (.int xs), .val (.int xn), .val (.int (2 : Int32)), .val (.int ((xn &&& (2147483647 : Int32)) % (9 : Int32))), .val (.ref b61), .unset, .unset, .unset, .unset] rfl 24 rfl ?_
    refine o_aload X61 at_24 rfl rfl 26 rfl ?_
    refine o_iconst (v := (0 : Int32)) X61 at_26 rfl 27 rfl ?_
    refine o_iconst (v := (0 : Int32)) X61 at_27 rfl 28 rfl ?_
    refine o_iload X61 at_28 rfl 30 rfl ?_
    refine o_lloadN X61 at_30 rfl 31 rfl ?_
    refine o_iloadN X61 at_31 rfl 32 rfl ?_
    refine o_callS X61 at_32 (rest := [(.int (0 : Int32)), (.ref b61)]) (c_at l Z a0 hw [] n0 _ X61.size (0 : Int32) (2 : Int32) xa xb ) (hw _ (List.mem_of_getElem? (i := 2) rfl)) (hw _ (List.mem_of_getElem? (i := 3) rfl)) (hw _ (List.mem_of_getElem? (i := 4) rfl)) (hw _ (List.mem_of_getElem? (i := 5) rfl)) (by decide) 2 (by decide) (by decide) rfl [(.int (0 : Int32)), (.int (2 : Int32)), (.long xa), (.int xb)] rfl pd_1 rfl rfl (Nat.le_of_eq rfl) 1 10 rfl rfl (by decide) (by decide) 35 rfl ?_
    rintro _ T62 _ X62 ⟨rfl, rfl⟩
    rw [show (f_at (0 : Int32) (2 : Int32) xa xb) = (f_at (0 : Int32) (2 : Int32) xa xb) from rfl]
    show OE p e room_1 below s n0 Q' T62 (mkF m 35 #[.val (.long xa), .second, .val (.int xb), .val (.int xs), .val (.int xn), .val (.int (2 : Int32)), .val (.int ((xn &&& (2147483647 : Int32)) % (9 : Int32))), .val (.ref b61), .unset, .unset, .unset, .unset] [(.int (f_at (0 : Int32) (2 : Int32) xa xb)), (.int (0 : Int32)), (.ref b61)])
    refine o_bastoreB X62 H61 0 rfl at_35 0 rfl (by show 0 < 10; decide) (f_at (0 : Int32) (2 : Int32) xa xb) (v_atn _ _ _ _) 36 rfl ?_
    intro T63 h63 X63 H63
    replace H63 : OL n0 h63 ((b61, OA Z .byte [(f_at (0 : Int32) (2 : Int32) xa xb), (0 : Int32), (0 : Int32), (0 : Int32), (0 : Int32), (0 : Int32), (0 : Int32), (0 : Int32), (0 : Int32), (0 : Int32)]) :: []) := H63
    refine o_aload X63 at_36 rfl rfl 38 rfl ?_
    refine o_iconst (v := (1 : Int32)) X63 at_38 rfl 39 rfl ?_
    refine o_iconst (v := (1 : Int32)) X63 at_39 rfl 40 rfl ?_
    refine o_iload X63 at_40 rfl 42 rfl ?_
    refine o_lloadN X63 at_42 rfl 43 rfl ?_
    refine o_iloadN X63 at_43 rfl 44 rfl ?_
    refine o_callS X63 at_44 (rest := [(.int (1 : Int32)), (.ref b61)]) (c_at l Z a0 hw [] n0 _ X63.size (1 : Int32) (2 : Int32) xa xb ) (hw _ (List.mem_of_getElem? (i := 2) rfl)) (hw _ (List.mem_of_getElem? (i := 3) rfl)) (hw _ (List.mem_of_getElem? (i := 4) rfl)) (hw _ (List.mem_of_getElem? (i := 5) rfl)) (by decide) 2 (by decide) (by decide) rfl [(.int (1 : Int32)), (.int (2 : Int32)), (.long xa), (.int xb)] rfl pd_1 rfl rfl (Nat.le_of_eq rfl) 1 10 rfl rfl (by decide) (by decide) 47 rfl ?_
    rintro _ T64 _ X64 ⟨rfl, rfl⟩
    rw [show (f_at (1 : Int32) (2 : Int32) xa xb) = (f_at (1 : Int32) (2 : Int32) xa xb) from rfl]
    show OE p e room_1 below s n0 Q' T64 (mkF m 47 #[.val (.long xa), .second, .val (.int xb), .val (.int xs), .val (.int xn), .val (.int (2 : Int32)), .val (.int ((xn &&& (2147483647 : Int32)) % (9 : Int32))), .val (.ref b61), .unset, .unset, .unset, .unset] [(.int (f_at (1 : Int32) (2 : Int32) xa xb)), (.int (1 : Int32)), (.ref b61)])
    refine o_bastoreB X64 H63 0 rfl at_47 1 rfl (by show 1 < 10; decide) (f_at (1 : Int32) (2 : Int32) xa xb) (v_atn _ _ _ _) 48 rfl ?_
    intro T65 h65 X65 H65
    replace H65 : OL n0 h65 ((b61, OA Z .byte [(f_at (0 : Int32) (2 : Int32) xa xb), (f_at (1 : Int32) (2 : Int32) xa xb), (0 : Int32), (0 : Int32), (0 : Int32), (0 : Int32), (0 : Int32), (0 : Int32), (0 : Int32), (0 : Int32)]) :: []) := H65
    refine o_aload X65 at_48 rfl rfl 50 rfl ?_
    refine o_iconst (v := (2 : Int32)) X65 at_50 rfl 51 rfl ?_
    refine o_iconst (v := (2 : Int32)) X65 at_51 rfl 52 rfl ?_
    refine o_iload X65 at_52 rfl 54 rfl ?_
    refine o_lloadN X65 at_54 rfl 55 rfl ?_
    refine o_iloadN X65 at_55 rfl 56 rfl ?_
    refine o_callS X65 at_56 (rest := [(.int (2 : Int32)), (.ref b61)]) (c_at l Z a0 hw [] n0 _ X65.size (2 : Int32) (2 : Int32) xa xb ) (hw _ (List.mem_of_getElem? (i := 2) rfl)) (hw _ (List.mem_of_getElem? (i := 3) rfl)) (hw _ (List.mem_of_getElem? (i := 4) rfl)) (hw _ (List.mem_of_getElem? (i := 5) rfl)) (by decide) 2 (by decide) (by decide) rfl [(.int (2 : Int32)), (.int (2 : Int32)), (.long xa), (.int xb)] rfl pd_1 rfl rfl (Nat.le_of_eq rfl) 1 10 rfl rfl (by decide) (by decide) 59 rfl ?_
    rintro _ T66 _ X66 ⟨rfl, rfl⟩
    rw [show (f_at (2 : Int32) (2 : Int32) xa xb) = (f_by xa (56 : Int32)) from rfl]
    show OE p e room_1 below s n0 Q' T66 (mkF m 59 #[.val (.long xa), .second, .val (.int xb), .val (.int xs), .val (.int xn), .val (.int (2 : Int32)), .val (.int ((xn &&& (2147483647 : Int32)) % (9 : Int32))), .val (.ref b61), .unset, .unset, .unset, .unset] [(.int (f_by xa (56 : Int32))), (.int (2 : Int32)), (.ref b61)])
    refine o_bastoreB X66 H65 0 rfl at_59 2 rfl (by show 2 < 10; decide) (f_by xa (56 : Int32)) (v_byn _ _) 60 rfl ?_
    intro T67 h67 X67 H67
    replace H67 : OL n0 h67 ((b61, OA Z .byte [(f_at (0 : Int32) (2 : Int32) xa xb), (f_at (1 : Int32) (2 : Int32) xa xb), (f_by xa (56 : Int32)), (0 : Int32), (0 : Int32), (0 : Int32), (0 : Int32), (0 : Int32), (0 : Int32), (0 : Int32)]) :: []) := H67
    refine o_aload X67 at_60 rfl rfl 62 rfl ?_
    refine o_iconst (v := (3 : Int32)) X67 at_62 rfl 63 rfl ?_
    refine o_iconst (v := (3 : Int32)) X67 at_63 rfl 64 rfl ?_
    refine o_iload X67 at_64 rfl 66 rfl ?_
    refine o_lloadN X67 at_66 rfl 67 rfl ?_
    refine o_iloadN X67 at_67 rfl 68 rfl ?_
    refine o_callS X67 at_68 (rest := [(.int (3 : Int32)), (.ref b61)]) (c_at l Z a0 hw [] n0 _ X67.size (3 : Int32) (2 : Int32) xa xb ) (hw _ (List.mem_of_getElem? (i := 2) rfl)) (hw _ (List.mem_of_getElem? (i := 3) rfl)) (hw _ (List.mem_of_getElem? (i := 4) rfl)) (hw _ (List.mem_of_getElem? (i := 5) rfl)) (by decide) 2 (by decide) (by decide) rfl [(.int (3 : Int32)), (.int (2 : Int32)), (.long xa), (.int xb)] rfl pd_1 rfl rfl (Nat.le_of_eq rfl) 1 10 rfl rfl (by decide) (by decide) 71 rfl ?_
    rintro _ T68 _ X68 ⟨rfl, rfl⟩
    rw [show (f_at (3 : Int32) (2 : Int32) xa xb) = (f_by xa (48 : Int32)) from rfl]
    show OE p e room_1 below s n0 Q' T68 (mkF m 71 #[.val (.long xa), .second, .val (.int xb), .val (.int xs), .val (.int xn), .val (.int (2 : Int32)), .val (.int ((xn &&& (2147483647 : Int32)) % (9 : Int32))), .val (.ref b61), .unset, .unset, .unset, .unset] [(.int (f_by xa (48 : Int32))), (.int (3 : Int32)), (.ref b61)])
    refine o_bastoreB X68 H67 0 rfl at_71 3 rfl (by show 3 < 10; decide) (f_by xa (48 : Int32)) (v_byn _ _) 72 rfl ?_
    intro T69 h69 X69 H69
    replace H69 : OL n0 h69 ((b61, OA Z .byte [(f_at (0 : Int32) (2 : Int32) xa xb), (f_at (1 : Int32) (2 : Int32) xa xb), (f_by xa (56 : Int32)), (f_by xa (48 : Int32)), (0 : Int32), (0 : Int32), (0 : Int32), (0 : Int32), (0 : Int32), (0 : Int32)]) :: []) := H69
    refine o_aload X69 at_72 rfl rfl 74 rfl ?_
    refine o_iconst (v := (4 : Int32)) X69 at_74 rfl 75 rfl ?_
    refine o_iconst (v := (4 : Int32)) X69 at_75 rfl 76 rfl ?_
    refine o_iload X69 at_76 rfl 78 rfl ?_
    refine o_lloadN X69 at_78 rfl 79 rfl ?_
    refine o_iloadN X69 at_79 rfl 80 rfl ?_
    refine o_callS X69 at_80 (rest := [(.int (4 : Int32)), (.ref b61)]) (c_at l Z a0 hw [] n0 _ X69.size (4 : Int32) (2 : Int32) xa xb ) (hw _ (List.mem_of_getElem? (i := 2) rfl)) (hw _ (List.mem_of_getElem? (i := 3) rfl)) (hw _ (List.mem_of_getElem? (i := 4) rfl)) (hw _ (List.mem_of_getElem? (i := 5) rfl)) (by decide) 2 (by decide) (by decide) rfl [(.int (4 : Int32)), (.int (2 : Int32)), (.long xa), (.int xb)] rfl pd_1 rfl rfl (Nat.le_of_eq rfl) 1 10 rfl rfl (by decide) (by decide) 83 rfl ?_
    rintro _ T70 _ X70 ⟨rfl, rfl⟩
    rw [show (f_at (4 : Int32) (2 : Int32) xa xb) = (f_by xa (40 : Int32)) from rfl]
    show OE p e room_1 below s n0 Q' T70 (mkF m 83 #[.val (.long xa), .second, .val (.int xb), .val (.int xs), .val (.int xn), .val (.int (2 : Int32)), .val (.int ((xn &&& (2147483647 : Int32)) % (9 : Int32))), .val (.ref b61), .unset, .unset, .unset, .unset] [(.int (f_by xa (40 : Int32))), (.int (4 : Int32)), (.ref b61)])
    refine o_bastoreB X70 H69 0 rfl at_83 4 rfl (by show 4 < 10; decide) (f_by xa (40 : Int32)) (v_byn _ _) 84 rfl ?_
    intro T71 h71 X71 H71
    replace H71 : OL n0 h71 ((b61, OA Z .byte [(f_at (0 : Int32) (2 : Int32) xa xb), (f_at (1 : Int32) (2 : Int32) xa xb), (f_by xa (56 : Int32)), (f_by xa (48 : Int32)), (f_by xa (40 : Int32)), (0 : Int32), (0 : Int32), (0 : Int32), (0 : Int32), (0 : Int32)]) :: []) := H71
    refine o_aload X71 at_84 rfl rfl 86 rfl ?_
    refine o_iconst (v := (5 : Int32)) X71 at_86 rfl 87 rfl ?_
    refine o_iconst (v := (5 : Int32)) X71 at_87 rfl 88 rfl ?_
    refine o_iload X71 at_88 rfl 90 rfl ?_
    refine o_lloadN X71 at_90 rfl 91 rfl ?_
    refine o_iloadN X71 at_91 rfl 92 rfl ?_
    refine o_callS X71 at_92 (rest := [(.int (5 : Int32)), (.ref b61)]) (c_at l Z a0 hw [] n0 _ X71.size (5 : Int32) (2 : Int32) xa xb ) (hw _ (List.mem_of_getElem? (i := 2) rfl)) (hw _ (List.mem_of_getElem? (i := 3) rfl)) (hw _ (List.mem_of_getElem? (i := 4) rfl)) (hw _ (List.mem_of_getElem? (i := 5) rfl)) (by decide) 2 (by decide) (by decide) rfl [(.int (5 : Int32)), (.int (2 : Int32)), (.long xa), (.int xb)] rfl pd_1 rfl rfl (Nat.le_of_eq rfl) 1 10 rfl rfl (by decide) (by decide) 95 rfl ?_
    rintro _ T72 _ X72 ⟨rfl, rfl⟩
    rw [show (f_at (5 : Int32) (2 : Int32) xa xb) = (f_by xa (32 : Int32)) from rfl]
    show OE p e room_1 below s n0 Q' T72 (mkF m 95 #[.val (.long xa), .second, .val (.int xb), .val (.int xs), .val (.int xn), .val (.int (2 : Int32)), .val (.int ((xn &&& (2147483647 : Int32)) % (9 : Int32))), .val (.ref b61), .unset, .unset, .unset, .unset] [(.int (f_by xa (32 : Int32))), (.int (5 : Int32)), (.ref b61)])
    refine o_bastoreB X72 H71 0 rfl at_95 5 rfl (by show 5 < 10; decide) (f_by xa (32 : Int32)) (v_byn _ _) 96 rfl ?_
    intro T73 h73 X73 H73
    replace H73 : OL n0 h73 ((b61, OA Z .byte [(f_at (0 : Int32) (2 : Int32) xa xb), (f_at (1 : Int32) (2 : Int32) xa xb), (f_by xa (56 : Int32)), (f_by xa (48 : Int32)), (f_by xa (40 : Int32)), (f_by xa (32 : Int32)), (0 : Int32), (0 : Int32), (0 : Int32), (0 : Int32)]) :: []) := H73
    refine o_aload X73 at_96 rfl rfl 98 rfl ?_
    refine o_bipush (v := (6 : Int32)) X73 at_98 rfl 100 rfl ?_
    refine o_bipush (v := (6 : Int32)) X73 at_100 rfl 102 rfl ?_
    refine o_iload X73 at_102 rfl 104 rfl ?_
    refine o_lloadN X73 at_104 rfl 105 rfl ?_
    refine o_iloadN X73 at_105 rfl 106 rfl ?_
    refine o_callS X73 at_106 (rest := [(.int (6 : Int32)), (.ref b61)]) (c_at l Z a0 hw [] n0 _ X73.size (6 : Int32) (2 : Int32) xa xb ) (hw _ (List.mem_of_getElem? (i := 2) rfl)) (hw _ (List.mem_of_getElem? (i := 3) rfl)) (hw _ (List.mem_of_getElem? (i := 4) rfl)) (hw _ (List.mem_of_getElem? (i := 5) rfl)) (by decide) 2 (by decide) (by decide) rfl [(.int (6 : Int32)), (.int (2 : Int32)), (.long xa), (.int xb)] rfl pd_1 rfl rfl (Nat.le_of_eq rfl) 1 10 rfl rfl (by decide) (by decide) 109 rfl ?_
    rintro _ T74 _ X74 ⟨rfl, rfl⟩
    rw [show (f_at (6 : Int32) (2 : Int32) xa xb) = (f_by xa (24 : Int32)) from rfl]
    show OE p e room_1 below s n0 Q' T74 (mkF m 109 #[.val (.long xa), .second, .val (.int xb), .val (.int xs), .val (.int xn), .val (.int (2 : Int32)), .val (.int ((xn &&& (2147483647 : Int32)) % (9 : Int32))), .val (.ref b61), .unset, .unset, .unset, .unset] [(.int (f_by xa (24 : Int32))), (.int (6 : Int32)), (.ref b61)])
    refine o_bastoreB X74 H73 0 rfl at_109 6 rfl (by show 6 < 10; decide) (f_by xa (24 : Int32)) (v_byn _ _) 110 rfl ?_
    intro T75 h75 X75 H75
    replace H75 : OL n0 h75 ((b61, OA Z .byte [(f_at (0 : Int32) (2 : Int32) xa xb), (f_at (1 : Int32) (2 : Int32) xa xb), (f_by xa (56 : Int32)), (f_by xa (48 : Int32)), (f_by xa (40 : Int32)), (f_by xa (32 : Int32)), (f_by xa (24 : Int32)), (0 : Int32), (0 : Int32), (0 : Int32)]) :: []) := H75
    refine o_aload X75 at_110 rfl rfl 112 rfl ?_
    refine o_bipush (v := (7 : Int32)) X75 at_112 rfl 114 rfl ?_
    refine o_bipush (v := (7 : Int32)) X75 at_114 rfl 116 rfl ?_
    refine o_iload X75 at_116 rfl 118 rfl ?_
    refine o_lloadN X75 at_118 rfl 119 rfl ?_
    refine o_iloadN X75 at_119 rfl 120 rfl ?_
    refine o_callS X75 at_120 (rest := [(.int (7 : Int32)), (.ref b61)]) (c_at l Z a0 hw [] n0 _ X75.size (7 : Int32) (2 : Int32) xa xb ) (hw _ (List.mem_of_getElem? (i := 2) rfl)) (hw _ (List.mem_of_getElem? (i := 3) rfl)) (hw _ (List.mem_of_getElem? (i := 4) rfl)) (hw _ (List.mem_of_getElem? (i := 5) rfl)) (by decide) 2 (by decide) (by decide) rfl [(.int (7 : Int32)), (.int (2 : Int32)), (.long xa), (.int xb)] rfl pd_1 rfl rfl (Nat.le_of_eq rfl) 1 10 rfl rfl (by decide) (by decide) 123 rfl ?_
    rintro _ T76 _ X76 ⟨rfl, rfl⟩
    rw [show (f_at (7 : Int32) (2 : Int32) xa xb) = (f_by xa (16 : Int32)) from rfl]
    show OE p e room_1 below s n0 Q' T76 (mkF m 123 #[.val (.long xa), .second, .val (.int xb), .val (.int xs), .val (.int xn), .val (.int (2 : Int32)), .val (.int ((xn &&& (2147483647 : Int32)) % (9 : Int32))), .val (.ref b61), .unset, .unset, .unset, .unset] [(.int (f_by xa (16 : Int32))), (.int (7 : Int32)), (.ref b61)])
    refine o_bastoreB X76 H75 0 rfl at_123 7 rfl (by show 7 < 10; decide) (f_by xa (16 : Int32)) (v_byn _ _) 124 rfl ?_
    intro T77 h77 X77 H77
    replace H77 : OL n0 h77 ((b61, OA Z .byte [(f_at (0 : Int32) (2 : Int32) xa xb), (f_at (1 : Int32) (2 : Int32) xa xb), (f_by xa (56 : Int32)), (f_by xa (48 : Int32)), (f_by xa (40 : Int32)), (f_by xa (32 : Int32)), (f_by xa (24 : Int32)), (f_by xa (16 : Int32)), (0 : Int32), (0 : Int32)]) :: []) := H77
    refine o_aload X77 at_124 rfl rfl 126 rfl ?_
    refine o_bipush (v := (8 : Int32)) X77 at_126 rfl 128 rfl ?_
    refine o_bipush (v := (8 : Int32)) X77 at_128 rfl 130 rfl ?_
    refine o_iload X77 at_130 rfl 132 rfl ?_
    refine o_lloadN X77 at_132 rfl 133 rfl ?_
    refine o_iloadN X77 at_133 rfl 134 rfl ?_
    refine o_callS X77 at_134 (rest := [(.int (8 : Int32)), (.ref b61)]) (c_at l Z a0 hw [] n0 _ X77.size (8 : Int32) (2 : Int32) xa xb ) (hw _ (List.mem_of_getElem? (i := 2) rfl)) (hw _ (List.mem_of_getElem? (i := 3) rfl)) (hw _ (List.mem_of_getElem? (i := 4) rfl)) (hw _ (List.mem_of_getElem? (i := 5) rfl)) (by decide) 2 (by decide) (by decide) rfl [(.int (8 : Int32)), (.int (2 : Int32)), (.long xa), (.int xb)] rfl pd_1 rfl rfl (Nat.le_of_eq rfl) 1 10 rfl rfl (by decide) (by decide) 137 rfl ?_
    rintro _ T78 _ X78 ⟨rfl, rfl⟩
    rw [show (f_at (8 : Int32) (2 : Int32) xa xb) = (f_by xa (8 : Int32)) from rfl]
    show OE p e room_1 below s n0 Q' T78 (mkF m 137 #[.val (.long xa), .second, .val (.int xb), .val (.int xs), .val (.int xn), .val (.int (2 : Int32)), .val (.int ((xn &&& (2147483647 : Int32)) % (9 : Int32))), .val (.ref b61), .unset, .unset, .unset, .unset] [(.int (f_by xa (8 : Int32))), (.int (8 : Int32)), (.ref b61)])
    refine o_bastoreB X78 H77 0 rfl at_137 8 rfl (by show 8 < 10; decide) (f_by xa (8 : Int32)) (v_byn _ _) 138 rfl ?_
    intro T79 h79 X79 H79
    replace H79 : OL n0 h79 ((b61, OA Z .byte [(f_at (0 : Int32) (2 : Int32) xa xb), (f_at (1 : Int32) (2 : Int32) xa xb), (f_by xa (56 : Int32)), (f_by xa (48 : Int32)), (f_by xa (40 : Int32)), (f_by xa (32 : Int32)), (f_by xa (24 : Int32)), (f_by xa (16 : Int32)), (f_by xa (8 : Int32)), (0 : Int32)]) :: []) := H79
    refine o_aload X79 at_138 rfl rfl 140 rfl ?_
    refine o_bipush (v := (9 : Int32)) X79 at_140 rfl 142 rfl ?_
    refine o_bipush (v := (9 : Int32)) X79 at_142 rfl 144 rfl ?_
    refine o_iload X79 at_144 rfl 146 rfl ?_
    refine o_lloadN X79 at_146 rfl 147 rfl ?_
    refine o_iloadN X79 at_147 rfl 148 rfl ?_
    refine o_callS X79 at_148 (rest := [(.int (9 : Int32)), (.ref b61)]) (c_at l Z a0 hw [] n0 _ X79.size (9 : Int32) (2 : Int32) xa xb ) (hw _ (List.mem_of_getElem? (i := 2) rfl)) (hw _ (List.mem_of_getElem? (i := 3) rfl)) (hw _ (List.mem_of_getElem? (i := 4) rfl)) (hw _ (List.mem_of_getElem? (i := 5) rfl)) (by decide) 2 (by decide) (by decide) rfl [(.int (9 : Int32)), (.int (2 : Int32)), (.long xa), (.int xb)] rfl pd_1 rfl rfl (Nat.le_of_eq rfl) 1 10 rfl rfl (by decide) (by decide) 151 rfl ?_
    rintro _ T80 _ X80 ⟨rfl, rfl⟩
    rw [show (f_at (9 : Int32) (2 : Int32) xa xb) = (f_by xa (0 : Int32)) from rfl]
    show OE p e room_1 below s n0 Q' T80 (mkF m 151 #[.val (.long xa), .second, .val (.int xb), .val (.int xs), .val (.int xn), .val (.int (2 : Int32)), .val (.int ((xn &&& (2147483647 : Int32)) % (9 : Int32))), .val (.ref b61), .unset, .unset, .unset, .unset] [(.int (f_by xa (0 : Int32))), (.int (9 : Int32)), (.ref b61)])
    refine o_bastoreB X80 H79 0 rfl at_151 9 rfl (by show 9 < 10; decide) (f_by xa (0 : Int32)) (v_byn _ _) 152 rfl ?_
    intro T81 h81 X81 H81
    replace H81 : OL n0 h81 ((b61, OA Z .byte [(f_at (0 : Int32) (2 : Int32) xa xb), (f_at (1 : Int32) (2 : Int32) xa xb), (f_by xa (56 : Int32)), (f_by xa (48 : Int32)), (f_by xa (40 : Int32)), (f_by xa (32 : Int32)), (f_by xa (24 : Int32)), (f_by xa (16 : Int32)), (f_by xa (8 : Int32)), (f_by xa (0 : Int32))]) :: []) := H81
    rcases v_l xn with hv | hv | hv | hv | hv | hv | hv | hv | hv
    · rw [hv]
      refine o_aload X81 at_152 rfl rfl 154 rfl ?_
      refine o_iload X81 at_154 rfl 156 rfl ?_
      refine o_iload X81 at_156 rfl 158 rfl ?_
      refine o_iload X81 at_158 rfl 160 rfl ?_
      refine o_iadd X81 at_160 161 rfl ?_
      refine o_callS X81 at_161 (rest := []) (c_pack_2_0 l Z a0 hw [] n0 _ X81.size b61 (f_at (0 : Int32) (2 : Int32) xa xb) (f_at (1 : Int32) (2 : Int32) xa xb) (f_by xa (56 : Int32)) (f_by xa (48 : Int32)) (f_by xa (40 : Int32)) (f_by xa (32 : Int32)) (f_by xa (24 : Int32)) (f_by xa (16 : Int32)) (f_by xa (8 : Int32)) (f_by xa (0 : Int32)) [] H81) (hw _ (List.mem_of_getElem? (i := 6) rfl)) (hw _ (List.mem_of_getElem? (i := 7) rfl)) (hw _ (List.mem_of_getElem? (i := 8) rfl)) (hw _ (List.mem_of_getElem? (i := 9) rfl)) (by decide) 0 (by decide) (by decide) rfl [(.ref b61), (.int (2 : Int32)), (.int ((2 : Int32) + (0 : Int32)))] rfl pd_2 rfl rfl (Nat.le_of_eq rfl) 1 10 rfl rfl (by decide) (by decide) 164 rfl ?_
      rintro _ T82 _ X82 ⟨rfl, rfl⟩
      rw [show (0 : Int64) = (0 : Int64) from rfl]
      show OE p e room_1 below s n0 Q' T82 (mkF m 164 #[.val (.long xa), .second, .val (.int xb), .val (.int xs), .val (.int xn), .val (.int (2 : Int32)), .val (.int (0 : Int32)), .val (.ref b61), .unset, .unset, .unset, .unset] [(.long (0 : Int64))])
      refine o_lstore X82 at_164 #[.val (.long xa), .second, .val (.int xb), .val (.int xs), .val (.int xn), .val (.int (2 : Int32)), .val (.int (0 : Int32)), .val (.ref b61), .val (.long (0 : Int64)), .second, .unset, .unset] rfl 166 rfl ?_
      refine o_iload X82 at_166 rfl 168 rfl ?_
      refine o_ifNe X82 at_168 175 171 (by decide) (by decide) rfl (fun q => by exfalso; exact absurd q (by decide)) ?_
      intro hc168
      refine o_lconst (v := (0 : Int64)) X82 at_171 rfl 172 rfl ?_
      refine o_goto X82 at_172 185 (by decide) (by decide) ?_
      refine o_lstore X82 at_185 #[.val (.long xa), .second, .val (.int xb), .val (.int xs), .val (.int xn), .val (.int (2 : Int32)), .val (.int (0 : Int32)), .val (.ref b61), .val (.long (0 : Int64)), .second, .val (.long (0 : Int64)), .second] rfl 187 rfl ?_
      refine o_lload X82 at_187 rfl 189 rfl ?_
      refine o_lload X82 at_189 rfl 191 rfl ?_
      refine o_lcmp X82 at_191 192 rfl ?_
      refine o_ifNe X82 at_192 199 195 (by decide) (by decide) rfl (fun q => by exfalso; exact q ((v_cmp0 _ _).mpr rfl)) ?_
      intro hc192
      refine o_iconst (v := (1 : Int32)) X82 at_195 rfl 196 rfl ?_
      refine o_goto X82 at_196 200 (by decide) (by decide) ?_
      exact o_retZ X82 at_200 (by decide) (by decide) (hQ _ _ rfl)
    · rw [hv]
      refine o_aload X81 at_152 rfl rfl 154 rfl ?_
      refine o_iload X81 at_154 rfl 156 rfl ?_
      refine o_iload X81 at_156 rfl 158 rfl ?_
      refine o_iload X81 at_158 rfl 160 rfl ?_
      refine o_iadd X81 at_160 161 rfl ?_
      refine o_callS X81 at_161 (rest := []) (c_pack_2_1 l Z a0 hw [] n0 _ X81.size b61 (f_at (0 : Int32) (2 : Int32) xa xb) (f_at (1 : Int32) (2 : Int32) xa xb) (f_by xa (56 : Int32)) (f_by xa (48 : Int32)) (f_by xa (40 : Int32)) (f_by xa (32 : Int32)) (f_by xa (24 : Int32)) (f_by xa (16 : Int32)) (f_by xa (8 : Int32)) (f_by xa (0 : Int32)) [] H81) (hw _ (List.mem_of_getElem? (i := 6) rfl)) (hw _ (List.mem_of_getElem? (i := 7) rfl)) (hw _ (List.mem_of_getElem? (i := 8) rfl)) (hw _ (List.mem_of_getElem? (i := 9) rfl)) (by decide) 0 (by decide) (by decide) rfl [(.ref b61), (.int (2 : Int32)), (.int ((2 : Int32) + (1 : Int32)))] rfl pd_2 rfl rfl (Nat.le_of_eq rfl) 1 10 rfl rfl (by decide) (by decide) 164 rfl ?_
      rintro _ T83 _ X83 ⟨rfl, rfl⟩
      rw [show (((0 : Int64) <<< (Int32.toInt64 (8 : Int32) &&& 63)) ||| (Int32.toInt64 ((f_by xa (56 : Int32)) &&& (255 : Int32)))) = (XT.ushrL xa (56 : Int32)) from by rw [v_p1]]
      show OE p e room_1 below s n0 Q' T83 (mkF m 164 #[.val (.long xa), .second, .val (.int xb), .val (.int xs), .val (.int xn), .val (.int (2 : Int32)), .val (.int (1 : Int32)), .val (.ref b61), .unset, .unset, .unset, .unset] [(.long (XT.ushrL xa (56 : Int32)))])
      refine o_lstore X83 at_164 #[.val (.long xa), .second, .val (.int xb), .val (.int xs), .val (.int xn), .val (.int (2 : Int32)), .val (.int (1 : Int32)), .val (.ref b61), .val (.long (XT.ushrL xa (56 : Int32))), .second, .unset, .unset] rfl 166 rfl ?_
      refine o_iload X83 at_166 rfl 168 rfl ?_
      refine o_ifNe X83 at_168 175 171 (by decide) (by decide) rfl ?_ (fun q => by exfalso; exact absurd q (by decide))
      intro hc168
      refine o_lloadN X83 at_175 rfl 176 rfl ?_
      refine o_bipush (v := (64 : Int32)) X83 at_176 rfl 178 rfl ?_
      refine o_bipush (v := (8 : Int32)) X83 at_178 rfl 180 rfl ?_
      refine o_iload X83 at_180 rfl 182 rfl ?_
      refine o_imul X83 at_182 183 rfl ?_
      refine o_isub X83 at_183 184 rfl ?_
      refine o_lushr X83 at_184 185 rfl ?_
      refine o_lstore X83 at_185 #[.val (.long xa), .second, .val (.int xb), .val (.int xs), .val (.int xn), .val (.int (2 : Int32)), .val (.int (1 : Int32)), .val (.ref b61), .val (.long (XT.ushrL xa (56 : Int32))), .second, .val (.long (XT.ushrL xa ((64 : Int32) - ((8 : Int32) * (1 : Int32))))), .second] rfl 187 rfl ?_
      refine o_lload X83 at_187 rfl 189 rfl ?_
      refine o_lload X83 at_189 rfl 191 rfl ?_
      refine o_lcmp X83 at_191 192 rfl ?_
      refine o_ifNe X83 at_192 199 195 (by decide) (by decide) rfl (fun q => by exfalso; exact q ((v_cmp0 _ _).mpr rfl)) ?_
      intro hc192
      refine o_iconst (v := (1 : Int32)) X83 at_195 rfl 196 rfl ?_
      refine o_goto X83 at_196 200 (by decide) (by decide) ?_
      exact o_retZ X83 at_200 (by decide) (by decide) (hQ _ _ rfl)
    · rw [hv]
      refine o_aload X81 at_152 rfl rfl 154 rfl ?_
      refine o_iload X81 at_154 rfl 156 rfl ?_
      refine o_iload X81 at_156 rfl 158 rfl ?_
      refine o_iload X81 at_158 rfl 160 rfl ?_
      refine o_iadd X81 at_160 161 rfl ?_
      refine o_callS X81 at_161 (rest := []) (c_pack_2_2 l Z a0 hw [] n0 _ X81.size b61 (f_at (0 : Int32) (2 : Int32) xa xb) (f_at (1 : Int32) (2 : Int32) xa xb) (f_by xa (56 : Int32)) (f_by xa (48 : Int32)) (f_by xa (40 : Int32)) (f_by xa (32 : Int32)) (f_by xa (24 : Int32)) (f_by xa (16 : Int32)) (f_by xa (8 : Int32)) (f_by xa (0 : Int32)) [] H81) (hw _ (List.mem_of_getElem? (i := 6) rfl)) (hw _ (List.mem_of_getElem? (i := 7) rfl)) (hw _ (List.mem_of_getElem? (i := 8) rfl)) (hw _ (List.mem_of_getElem? (i := 9) rfl)) (by decide) 0 (by decide) (by decide) rfl [(.ref b61), (.int (2 : Int32)), (.int ((2 : Int32) + (2 : Int32)))] rfl pd_2 rfl rfl (Nat.le_of_eq rfl) 1 10 rfl rfl (by decide) (by decide) 164 rfl ?_
      rintro _ T84 _ X84 ⟨rfl, rfl⟩
      rw [show (((((0 : Int64) <<< (Int32.toInt64 (8 : Int32) &&& 63)) ||| (Int32.toInt64 ((f_by xa (56 : Int32)) &&& (255 : Int32)))) <<< (Int32.toInt64 (8 : Int32) &&& 63)) ||| (Int32.toInt64 ((f_by xa (48 : Int32)) &&& (255 : Int32)))) = (XT.ushrL xa (48 : Int32)) from by rw [v_p1, v_p2]]
      show OE p e room_1 below s n0 Q' T84 (mkF m 164 #[.val (.long xa), .second, .val (.int xb), .val (.int xs), .val (.int xn), .val (.int (2 : Int32)), .val (.int (2 : Int32)), .val (.ref b61), .unset, .unset, .unset, .unset] [(.long (XT.ushrL xa (48 : Int32)))])
      refine o_lstore X84 at_164 #[.val (.long xa), .second, .val (.int xb), .val (.int xs), .val (.int xn), .val (.int (2 : Int32)), .val (.int (2 : Int32)), .val (.ref b61), .val (.long (XT.ushrL xa (48 : Int32))), .second, .unset, .unset] rfl 166 rfl ?_
      refine o_iload X84 at_166 rfl 168 rfl ?_
      refine o_ifNe X84 at_168 175 171 (by decide) (by decide) rfl ?_ (fun q => by exfalso; exact absurd q (by decide))
      intro hc168
      refine o_lloadN X84 at_175 rfl 176 rfl ?_
      refine o_bipush (v := (64 : Int32)) X84 at_176 rfl 178 rfl ?_
      refine o_bipush (v := (8 : Int32)) X84 at_178 rfl 180 rfl ?_
      refine o_iload X84 at_180 rfl 182 rfl ?_
      refine o_imul X84 at_182 183 rfl ?_
      refine o_isub X84 at_183 184 rfl ?_
      refine o_lushr X84 at_184 185 rfl ?_
      refine o_lstore X84 at_185 #[.val (.long xa), .second, .val (.int xb), .val (.int xs), .val (.int xn), .val (.int (2 : Int32)), .val (.int (2 : Int32)), .val (.ref b61), .val (.long (XT.ushrL xa (48 : Int32))), .second, .val (.long (XT.ushrL xa ((64 : Int32) - ((8 : Int32) * (2 : Int32))))), .second] rfl 187 rfl ?_
      refine o_lload X84 at_187 rfl 189 rfl ?_
      refine o_lload X84 at_189 rfl 191 rfl ?_
      refine o_lcmp X84 at_191 192 rfl ?_
      refine o_ifNe X84 at_192 199 195 (by decide) (by decide) rfl (fun q => by exfalso; exact q ((v_cmp0 _ _).mpr rfl)) ?_
      intro hc192
      refine o_iconst (v := (1 : Int32)) X84 at_195 rfl 196 rfl ?_
      refine o_goto X84 at_196 200 (by decide) (by decide) ?_
      exact o_retZ X84 at_200 (by decide) (by decide) (hQ _ _ rfl)
    · rw [hv]
      refine o_aload X81 at_152 rfl rfl 154 rfl ?_
      refine o_iload X81 at_154 rfl 156 rfl ?_
      refine o_iload X81 at_156 rfl 158 rfl ?_
      refine o_iload X81 at_158 rfl 160 rfl ?_
      refine o_iadd X81 at_160 161 rfl ?_
      refine o_callS X81 at_161 (rest := []) (c_pack_2_3 l Z a0 hw [] n0 _ X81.size b61 (f_at (0 : Int32) (2 : Int32) xa xb) (f_at (1 : Int32) (2 : Int32) xa xb) (f_by xa (56 : Int32)) (f_by xa (48 : Int32)) (f_by xa (40 : Int32)) (f_by xa (32 : Int32)) (f_by xa (24 : Int32)) (f_by xa (16 : Int32)) (f_by xa (8 : Int32)) (f_by xa (0 : Int32)) [] H81) (hw _ (List.mem_of_getElem? (i := 6) rfl)) (hw _ (List.mem_of_getElem? (i := 7) rfl)) (hw _ (List.mem_of_getElem? (i := 8) rfl)) (hw _ (List.mem_of_getElem? (i := 9) rfl)) (by decide) 0 (by decide) (by decide) rfl [(.ref b61), (.int (2 : Int32)), (.int ((2 : Int32) + (3 : Int32)))] rfl pd_2 rfl rfl (Nat.le_of_eq rfl) 1 10 rfl rfl (by decide) (by decide) 164 rfl ?_
      rintro _ T85 _ X85 ⟨rfl, rfl⟩
      rw [show (((((((0 : Int64) <<< (Int32.toInt64 (8 : Int32) &&& 63)) ||| (Int32.toInt64 ((f_by xa (56 : Int32)) &&& (255 : Int32)))) <<< (Int32.toInt64 (8 : Int32) &&& 63)) ||| (Int32.toInt64 ((f_by xa (48 : Int32)) &&& (255 : Int32)))) <<< (Int32.toInt64 (8 : Int32) &&& 63)) ||| (Int32.toInt64 ((f_by xa (40 : Int32)) &&& (255 : Int32)))) = (XT.ushrL xa (40 : Int32)) from by rw [v_p1, v_p2, v_p3]]
      show OE p e room_1 below s n0 Q' T85 (mkF m 164 #[.val (.long xa), .second, .val (.int xb), .val (.int xs), .val (.int xn), .val (.int (2 : Int32)), .val (.int (3 : Int32)), .val (.ref b61), .unset, .unset, .unset, .unset] [(.long (XT.ushrL xa (40 : Int32)))])
      refine o_lstore X85 at_164 #[.val (.long xa), .second, .val (.int xb), .val (.int xs), .val (.int xn), .val (.int (2 : Int32)), .val (.int (3 : Int32)), .val (.ref b61), .val (.long (XT.ushrL xa (40 : Int32))), .second, .unset, .unset] rfl 166 rfl ?_
      refine o_iload X85 at_166 rfl 168 rfl ?_
      refine o_ifNe X85 at_168 175 171 (by decide) (by decide) rfl ?_ (fun q => by exfalso; exact absurd q (by decide))
      intro hc168
      refine o_lloadN X85 at_175 rfl 176 rfl ?_
      refine o_bipush (v := (64 : Int32)) X85 at_176 rfl 178 rfl ?_
      refine o_bipush (v := (8 : Int32)) X85 at_178 rfl 180 rfl ?_
      refine o_iload X85 at_180 rfl 182 rfl ?_
      refine o_imul X85 at_182 183 rfl ?_
      refine o_isub X85 at_183 184 rfl ?_
      refine o_lushr X85 at_184 185 rfl ?_
      refine o_lstore X85 at_185 #[.val (.long xa), .second, .val (.int xb), .val (.int xs), .val (.int xn), .val (.int (2 : Int32)), .val (.int (3 : Int32)), .val (.ref b61), .val (.long (XT.ushrL xa (40 : Int32))), .second, .val (.long (XT.ushrL xa ((64 : Int32) - ((8 : Int32) * (3 : Int32))))), .second] rfl 187 rfl ?_
      refine o_lload X85 at_187 rfl 189 rfl ?_
      refine o_lload X85 at_189 rfl 191 rfl ?_
      refine o_lcmp X85 at_191 192 rfl ?_
      refine o_ifNe X85 at_192 199 195 (by decide) (by decide) rfl (fun q => by exfalso; exact q ((v_cmp0 _ _).mpr rfl)) ?_
      intro hc192
      refine o_iconst (v := (1 : Int32)) X85 at_195 rfl 196 rfl ?_
      refine o_goto X85 at_196 200 (by decide) (by decide) ?_
      exact o_retZ X85 at_200 (by decide) (by decide) (hQ _ _ rfl)
    · rw [hv]
      refine o_aload X81 at_152 rfl rfl 154 rfl ?_
      refine o_iload X81 at_154 rfl 156 rfl ?_
      refine o_iload X81 at_156 rfl 158 rfl ?_
      refine o_iload X81 at_158 rfl 160 rfl ?_
      refine o_iadd X81 at_160 161 rfl ?_
      refine o_callS X81 at_161 (rest := []) (c_pack_2_4 l Z a0 hw [] n0 _ X81.size b61 (f_at (0 : Int32) (2 : Int32) xa xb) (f_at (1 : Int32) (2 : Int32) xa xb) (f_by xa (56 : Int32)) (f_by xa (48 : Int32)) (f_by xa (40 : Int32)) (f_by xa (32 : Int32)) (f_by xa (24 : Int32)) (f_by xa (16 : Int32)) (f_by xa (8 : Int32)) (f_by xa (0 : Int32)) [] H81) (hw _ (List.mem_of_getElem? (i := 6) rfl)) (hw _ (List.mem_of_getElem? (i := 7) rfl)) (hw _ (List.mem_of_getElem? (i := 8) rfl)) (hw _ (List.mem_of_getElem? (i := 9) rfl)) (by decide) 0 (by decide) (by decide) rfl [(.ref b61), (.int (2 : Int32)), (.int ((2 : Int32) + (4 : Int32)))] rfl pd_2 rfl rfl (Nat.le_of_eq rfl) 1 10 rfl rfl (by decide) (by decide) 164 rfl ?_
      rintro _ T86 _ X86 ⟨rfl, rfl⟩
      rw [show (((((((((0 : Int64) <<< (Int32.toInt64 (8 : Int32) &&& 63)) ||| (Int32.toInt64 ((f_by xa (56 : Int32)) &&& (255 : Int32)))) <<< (Int32.toInt64 (8 : Int32) &&& 63)) ||| (Int32.toInt64 ((f_by xa (48 : Int32)) &&& (255 : Int32)))) <<< (Int32.toInt64 (8 : Int32) &&& 63)) ||| (Int32.toInt64 ((f_by xa (40 : Int32)) &&& (255 : Int32)))) <<< (Int32.toInt64 (8 : Int32) &&& 63)) ||| (Int32.toInt64 ((f_by xa (32 : Int32)) &&& (255 : Int32)))) = (XT.ushrL xa (32 : Int32)) from by rw [v_p1, v_p2, v_p3, v_p4]]
      show OE p e room_1 below s n0 Q' T86 (mkF m 164 #[.val (.long xa), .second, .val (.int xb), .val (.int xs), .val (.int xn), .val (.int (2 : Int32)), .val (.int (4 : Int32)), .val (.ref b61), .unset, .unset, .unset, .unset] [(.long (XT.ushrL xa (32 : Int32)))])
      refine o_lstore X86 at_164 #[.val (.long xa), .second, .val (.int xb), .val (.int xs), .val (.int xn), .val (.int (2 : Int32)), .val (.int (4 : Int32)), .val (.ref b61), .val (.long (XT.ushrL xa (32 : Int32))), .second, .unset, .unset] rfl 166 rfl ?_
      refine o_iload X86 at_166 rfl 168 rfl ?_
      refine o_ifNe X86 at_168 175 171 (by decide) (by decide) rfl ?_ (fun q => by exfalso; exact absurd q (by decide))
      intro hc168
      refine o_lloadN X86 at_175 rfl 176 rfl ?_
      refine o_bipush (v := (64 : Int32)) X86 at_176 rfl 178 rfl ?_
      refine o_bipush (v := (8 : Int32)) X86 at_178 rfl 180 rfl ?_
      refine o_iload X86 at_180 rfl 182 rfl ?_
      refine o_imul X86 at_182 183 rfl ?_
      refine o_isub X86 at_183 184 rfl ?_
      refine o_lushr X86 at_184 185 rfl ?_
      refine o_lstore X86 at_185 #[.val (.long xa), .second, .val (.int xb), .val (.int xs), .val (.int xn), .val (.int (2 : Int32)), .val (.int (4 : Int32)), .val (.ref b61), .val (.long (XT.ushrL xa (32 : Int32))), .second, .val (.long (XT.ushrL xa ((64 : Int32) - ((8 : Int32) * (4 : Int32))))), .second] rfl 187 rfl ?_
      refine o_lload X86 at_187 rfl 189 rfl ?_
      refine o_lload X86 at_189 rfl 191 rfl ?_
      refine o_lcmp X86 at_191 192 rfl ?_
      refine o_ifNe X86 at_192 199 195 (by decide) (by decide) rfl (fun q => by exfalso; exact q ((v_cmp0 _ _).mpr rfl)) ?_
      intro hc192
      refine o_iconst (v := (1 : Int32)) X86 at_195 rfl 196 rfl ?_
      refine o_goto X86 at_196 200 (by decide) (by decide) ?_
      exact o_retZ X86 at_200 (by decide) (by decide) (hQ _ _ rfl)
    · rw [hv]
      refine o_aload X81 at_152 rfl rfl 154 rfl ?_
      refine o_iload X81 at_154 rfl 156 rfl ?_
      refine o_iload X81 at_156 rfl 158 rfl ?_
      refine o_iload X81 at_158 rfl 160 rfl ?_
      refine o_iadd X81 at_160 161 rfl ?_
      refine o_callS X81 at_161 (rest := []) (c_pack_2_5 l Z a0 hw [] n0 _ X81.size b61 (f_at (0 : Int32) (2 : Int32) xa xb) (f_at (1 : Int32) (2 : Int32) xa xb) (f_by xa (56 : Int32)) (f_by xa (48 : Int32)) (f_by xa (40 : Int32)) (f_by xa (32 : Int32)) (f_by xa (24 : Int32)) (f_by xa (16 : Int32)) (f_by xa (8 : Int32)) (f_by xa (0 : Int32)) [] H81) (hw _ (List.mem_of_getElem? (i := 6) rfl)) (hw _ (List.mem_of_getElem? (i := 7) rfl)) (hw _ (List.mem_of_getElem? (i := 8) rfl)) (hw _ (List.mem_of_getElem? (i := 9) rfl)) (by decide) 0 (by decide) (by decide) rfl [(.ref b61), (.int (2 : Int32)), (.int ((2 : Int32) + (5 : Int32)))] rfl pd_2 rfl rfl (Nat.le_of_eq rfl) 1 10 rfl rfl (by decide) (by decide) 164 rfl ?_
      rintro _ T87 _ X87 ⟨rfl, rfl⟩
      rw [show (((((((((((0 : Int64) <<< (Int32.toInt64 (8 : Int32) &&& 63)) ||| (Int32.toInt64 ((f_by xa (56 : Int32)) &&& (255 : Int32)))) <<< (Int32.toInt64 (8 : Int32) &&& 63)) ||| (Int32.toInt64 ((f_by xa (48 : Int32)) &&& (255 : Int32)))) <<< (Int32.toInt64 (8 : Int32) &&& 63)) ||| (Int32.toInt64 ((f_by xa (40 : Int32)) &&& (255 : Int32)))) <<< (Int32.toInt64 (8 : Int32) &&& 63)) ||| (Int32.toInt64 ((f_by xa (32 : Int32)) &&& (255 : Int32)))) <<< (Int32.toInt64 (8 : Int32) &&& 63)) ||| (Int32.toInt64 ((f_by xa (24 : Int32)) &&& (255 : Int32)))) = (XT.ushrL xa (24 : Int32)) from by rw [v_p1, v_p2, v_p3, v_p4, v_p5]]
      show OE p e room_1 below s n0 Q' T87 (mkF m 164 #[.val (.long xa), .second, .val (.int xb), .val (.int xs), .val (.int xn), .val (.int (2 : Int32)), .val (.int (5 : Int32)), .val (.ref b61), .unset, .unset, .unset, .unset] [(.long (XT.ushrL xa (24 : Int32)))])
      refine o_lstore X87 at_164 #[.val (.long xa), .second, .val (.int xb), .val (.int xs), .val (.int xn), .val (.int (2 : Int32)), .val (.int (5 : Int32)), .val (.ref b61), .val (.long (XT.ushrL xa (24 : Int32))), .second, .unset, .unset] rfl 166 rfl ?_
      refine o_iload X87 at_166 rfl 168 rfl ?_
      refine o_ifNe X87 at_168 175 171 (by decide) (by decide) rfl ?_ (fun q => by exfalso; exact absurd q (by decide))
      intro hc168
      refine o_lloadN X87 at_175 rfl 176 rfl ?_
      refine o_bipush (v := (64 : Int32)) X87 at_176 rfl 178 rfl ?_
      refine o_bipush (v := (8 : Int32)) X87 at_178 rfl 180 rfl ?_
      refine o_iload X87 at_180 rfl 182 rfl ?_
      refine o_imul X87 at_182 183 rfl ?_
      refine o_isub X87 at_183 184 rfl ?_
      refine o_lushr X87 at_184 185 rfl ?_
      refine o_lstore X87 at_185 #[.val (.long xa), .second, .val (.int xb), .val (.int xs), .val (.int xn), .val (.int (2 : Int32)), .val (.int (5 : Int32)), .val (.ref b61), .val (.long (XT.ushrL xa (24 : Int32))), .second, .val (.long (XT.ushrL xa ((64 : Int32) - ((8 : Int32) * (5 : Int32))))), .second] rfl 187 rfl ?_
      refine o_lload X87 at_187 rfl 189 rfl ?_
      refine o_lload X87 at_189 rfl 191 rfl ?_
      refine o_lcmp X87 at_191 192 rfl ?_
      refine o_ifNe X87 at_192 199 195 (by decide) (by decide) rfl (fun q => by exfalso; exact q ((v_cmp0 _ _).mpr rfl)) ?_
      intro hc192
      refine o_iconst (v := (1 : Int32)) X87 at_195 rfl 196 rfl ?_
      refine o_goto X87 at_196 200 (by decide) (by decide) ?_
      exact o_retZ X87 at_200 (by decide) (by decide) (hQ _ _ rfl)
    · rw [hv]
      refine o_aload X81 at_152 rfl rfl 154 rfl ?_
      refine o_iload X81 at_154 rfl 156 rfl ?_
      refine o_iload X81 at_156 rfl 158 rfl ?_
      refine o_iload X81 at_158 rfl 160 rfl ?_
      refine o_iadd X81 at_160 161 rfl ?_
      refine o_callS X81 at_161 (rest := []) (c_pack_2_6 l Z a0 hw [] n0 _ X81.size b61 (f_at (0 : Int32) (2 : Int32) xa xb) (f_at (1 : Int32) (2 : Int32) xa xb) (f_by xa (56 : Int32)) (f_by xa (48 : Int32)) (f_by xa (40 : Int32)) (f_by xa (32 : Int32)) (f_by xa (24 : Int32)) (f_by xa (16 : Int32)) (f_by xa (8 : Int32)) (f_by xa (0 : Int32)) [] H81) (hw _ (List.mem_of_getElem? (i := 6) rfl)) (hw _ (List.mem_of_getElem? (i := 7) rfl)) (hw _ (List.mem_of_getElem? (i := 8) rfl)) (hw _ (List.mem_of_getElem? (i := 9) rfl)) (by decide) 0 (by decide) (by decide) rfl [(.ref b61), (.int (2 : Int32)), (.int ((2 : Int32) + (6 : Int32)))] rfl pd_2 rfl rfl (Nat.le_of_eq rfl) 1 10 rfl rfl (by decide) (by decide) 164 rfl ?_
      rintro _ T88 _ X88 ⟨rfl, rfl⟩
      rw [show (((((((((((((0 : Int64) <<< (Int32.toInt64 (8 : Int32) &&& 63)) ||| (Int32.toInt64 ((f_by xa (56 : Int32)) &&& (255 : Int32)))) <<< (Int32.toInt64 (8 : Int32) &&& 63)) ||| (Int32.toInt64 ((f_by xa (48 : Int32)) &&& (255 : Int32)))) <<< (Int32.toInt64 (8 : Int32) &&& 63)) ||| (Int32.toInt64 ((f_by xa (40 : Int32)) &&& (255 : Int32)))) <<< (Int32.toInt64 (8 : Int32) &&& 63)) ||| (Int32.toInt64 ((f_by xa (32 : Int32)) &&& (255 : Int32)))) <<< (Int32.toInt64 (8 : Int32) &&& 63)) ||| (Int32.toInt64 ((f_by xa (24 : Int32)) &&& (255 : Int32)))) <<< (Int32.toInt64 (8 : Int32) &&& 63)) ||| (Int32.toInt64 ((f_by xa (16 : Int32)) &&& (255 : Int32)))) = (XT.ushrL xa (16 : Int32)) from by rw [v_p1, v_p2, v_p3, v_p4, v_p5, v_p6]]
      show OE p e room_1 below s n0 Q' T88 (mkF m 164 #[.val (.long xa), .second, .val (.int xb), .val (.int xs), .val (.int xn), .val (.int (2 : Int32)), .val (.int (6 : Int32)), .val (.ref b61), .unset, .unset, .unset, .unset] [(.long (XT.ushrL xa (16 : Int32)))])
      refine o_lstore X88 at_164 #[.val (.long xa), .second, .val (.int xb), .val (.int xs), .val (.int xn), .val (.int (2 : Int32)), .val (.int (6 : Int32)), .val (.ref b61), .val (.long (XT.ushrL xa (16 : Int32))), .second, .unset, .unset] rfl 166 rfl ?_
      refine o_iload X88 at_166 rfl 168 rfl ?_
      refine o_ifNe X88 at_168 175 171 (by decide) (by decide) rfl ?_ (fun q => by exfalso; exact absurd q (by decide))
      intro hc168
      refine o_lloadN X88 at_175 rfl 176 rfl ?_
      refine o_bipush (v := (64 : Int32)) X88 at_176 rfl 178 rfl ?_
      refine o_bipush (v := (8 : Int32)) X88 at_178 rfl 180 rfl ?_
      refine o_iload X88 at_180 rfl 182 rfl ?_
      refine o_imul X88 at_182 183 rfl ?_
      refine o_isub X88 at_183 184 rfl ?_
      refine o_lushr X88 at_184 185 rfl ?_
      refine o_lstore X88 at_185 #[.val (.long xa), .second, .val (.int xb), .val (.int xs), .val (.int xn), .val (.int (2 : Int32)), .val (.int (6 : Int32)), .val (.ref b61), .val (.long (XT.ushrL xa (16 : Int32))), .second, .val (.long (XT.ushrL xa ((64 : Int32) - ((8 : Int32) * (6 : Int32))))), .second] rfl 187 rfl ?_
      refine o_lload X88 at_187 rfl 189 rfl ?_
      refine o_lload X88 at_189 rfl 191 rfl ?_
      refine o_lcmp X88 at_191 192 rfl ?_
      refine o_ifNe X88 at_192 199 195 (by decide) (by decide) rfl (fun q => by exfalso; exact q ((v_cmp0 _ _).mpr rfl)) ?_
      intro hc192
      refine o_iconst (v := (1 : Int32)) X88 at_195 rfl 196 rfl ?_
      refine o_goto X88 at_196 200 (by decide) (by decide) ?_
      exact o_retZ X88 at_200 (by decide) (by decide) (hQ _ _ rfl)
    · rw [hv]
      refine o_aload X81 at_152 rfl rfl 154 rfl ?_
      refine o_iload X81 at_154 rfl 156 rfl ?_
      refine o_iload X81 at_156 rfl 158 rfl ?_
      refine o_iload X81 at_158 rfl 160 rfl ?_
      refine o_iadd X81 at_160 161 rfl ?_
      refine o_callS X81 at_161 (rest := []) (c_pack_2_7 l Z a0 hw [] n0 _ X81.size b61 (f_at (0 : Int32) (2 : Int32) xa xb) (f_at (1 : Int32) (2 : Int32) xa xb) (f_by xa (56 : Int32)) (f_by xa (48 : Int32)) (f_by xa (40 : Int32)) (f_by xa (32 : Int32)) (f_by xa (24 : Int32)) (f_by xa (16 : Int32)) (f_by xa (8 : Int32)) (f_by xa (0 : Int32)) [] H81) (hw _ (List.mem_of_getElem? (i := 6) rfl)) (hw _ (List.mem_of_getElem? (i := 7) rfl)) (hw _ (List.mem_of_getElem? (i := 8) rfl)) (hw _ (List.mem_of_getElem? (i := 9) rfl)) (by decide) 0 (by decide) (by decide) rfl [(.ref b61), (.int (2 : Int32)), (.int ((2 : Int32) + (7 : Int32)))] rfl pd_2 rfl rfl (Nat.le_of_eq rfl) 1 10 rfl rfl (by decide) (by decide) 164 rfl ?_
      rintro _ T89 _ X89 ⟨rfl, rfl⟩
      rw [show (((((((((((((((0 : Int64) <<< (Int32.toInt64 (8 : Int32) &&& 63)) ||| (Int32.toInt64 ((f_by xa (56 : Int32)) &&& (255 : Int32)))) <<< (Int32.toInt64 (8 : Int32) &&& 63)) ||| (Int32.toInt64 ((f_by xa (48 : Int32)) &&& (255 : Int32)))) <<< (Int32.toInt64 (8 : Int32) &&& 63)) ||| (Int32.toInt64 ((f_by xa (40 : Int32)) &&& (255 : Int32)))) <<< (Int32.toInt64 (8 : Int32) &&& 63)) ||| (Int32.toInt64 ((f_by xa (32 : Int32)) &&& (255 : Int32)))) <<< (Int32.toInt64 (8 : Int32) &&& 63)) ||| (Int32.toInt64 ((f_by xa (24 : Int32)) &&& (255 : Int32)))) <<< (Int32.toInt64 (8 : Int32) &&& 63)) ||| (Int32.toInt64 ((f_by xa (16 : Int32)) &&& (255 : Int32)))) <<< (Int32.toInt64 (8 : Int32) &&& 63)) ||| (Int32.toInt64 ((f_by xa (8 : Int32)) &&& (255 : Int32)))) = (XT.ushrL xa (8 : Int32)) from by rw [v_p1, v_p2, v_p3, v_p4, v_p5, v_p6, v_p7]]
      show OE p e room_1 below s n0 Q' T89 (mkF m 164 #[.val (.long xa), .second, .val (.int xb), .val (.int xs), .val (.int xn), .val (.int (2 : Int32)), .val (.int (7 : Int32)), .val (.ref b61), .unset, .unset, .unset, .unset] [(.long (XT.ushrL xa (8 : Int32)))])
      refine o_lstore X89 at_164 #[.val (.long xa), .second, .val (.int xb), .val (.int xs), .val (.int xn), .val (.int (2 : Int32)), .val (.int (7 : Int32)), .val (.ref b61), .val (.long (XT.ushrL xa (8 : Int32))), .second, .unset, .unset] rfl 166 rfl ?_
      refine o_iload X89 at_166 rfl 168 rfl ?_
      refine o_ifNe X89 at_168 175 171 (by decide) (by decide) rfl ?_ (fun q => by exfalso; exact absurd q (by decide))
      intro hc168
      refine o_lloadN X89 at_175 rfl 176 rfl ?_
      refine o_bipush (v := (64 : Int32)) X89 at_176 rfl 178 rfl ?_
      refine o_bipush (v := (8 : Int32)) X89 at_178 rfl 180 rfl ?_
      refine o_iload X89 at_180 rfl 182 rfl ?_
      refine o_imul X89 at_182 183 rfl ?_
      refine o_isub X89 at_183 184 rfl ?_
      refine o_lushr X89 at_184 185 rfl ?_
      refine o_lstore X89 at_185 #[.val (.long xa), .second, .val (.int xb), .val (.int xs), .val (.int xn), .val (.int (2 : Int32)), .val (.int (7 : Int32)), .val (.ref b61), .val (.long (XT.ushrL xa (8 : Int32))), .second, .val (.long (XT.ushrL xa ((64 : Int32) - ((8 : Int32) * (7 : Int32))))), .second] rfl 187 rfl ?_
      refine o_lload X89 at_187 rfl 189 rfl ?_
      refine o_lload X89 at_189 rfl 191 rfl ?_
      refine o_lcmp X89 at_191 192 rfl ?_
      refine o_ifNe X89 at_192 199 195 (by decide) (by decide) rfl (fun q => by exfalso; exact q ((v_cmp0 _ _).mpr rfl)) ?_
      intro hc192
      refine o_iconst (v := (1 : Int32)) X89 at_195 rfl 196 rfl ?_
      refine o_goto X89 at_196 200 (by decide) (by decide) ?_
      exact o_retZ X89 at_200 (by decide) (by decide) (hQ _ _ rfl)
    · rw [hv]
      refine o_aload X81 at_152 rfl rfl 154 rfl ?_
      refine o_iload X81 at_154 rfl 156 rfl ?_
      refine o_iload X81 at_156 rfl 158 rfl ?_
      refine o_iload X81 at_158 rfl 160 rfl ?_
      refine o_iadd X81 at_160 161 rfl ?_
      refine o_callS X81 at_161 (rest := []) (c_pack_2_8 l Z a0 hw [] n0 _ X81.size b61 (f_at (0 : Int32) (2 : Int32) xa xb) (f_at (1 : Int32) (2 : Int32) xa xb) (f_by xa (56 : Int32)) (f_by xa (48 : Int32)) (f_by xa (40 : Int32)) (f_by xa (32 : Int32)) (f_by xa (24 : Int32)) (f_by xa (16 : Int32)) (f_by xa (8 : Int32)) (f_by xa (0 : Int32)) [] H81) (hw _ (List.mem_of_getElem? (i := 6) rfl)) (hw _ (List.mem_of_getElem? (i := 7) rfl)) (hw _ (List.mem_of_getElem? (i := 8) rfl)) (hw _ (List.mem_of_getElem? (i := 9) rfl)) (by decide) 0 (by decide) (by decide) rfl [(.ref b61), (.int (2 : Int32)), (.int ((2 : Int32) + (8 : Int32)))] rfl pd_2 rfl rfl (Nat.le_of_eq rfl) 1 10 rfl rfl (by decide) (by decide) 164 rfl ?_
      rintro _ T90 _ X90 ⟨rfl, rfl⟩
      rw [show (((((((((((((((((0 : Int64) <<< (Int32.toInt64 (8 : Int32) &&& 63)) ||| (Int32.toInt64 ((f_by xa (56 : Int32)) &&& (255 : Int32)))) <<< (Int32.toInt64 (8 : Int32) &&& 63)) ||| (Int32.toInt64 ((f_by xa (48 : Int32)) &&& (255 : Int32)))) <<< (Int32.toInt64 (8 : Int32) &&& 63)) ||| (Int32.toInt64 ((f_by xa (40 : Int32)) &&& (255 : Int32)))) <<< (Int32.toInt64 (8 : Int32) &&& 63)) ||| (Int32.toInt64 ((f_by xa (32 : Int32)) &&& (255 : Int32)))) <<< (Int32.toInt64 (8 : Int32) &&& 63)) ||| (Int32.toInt64 ((f_by xa (24 : Int32)) &&& (255 : Int32)))) <<< (Int32.toInt64 (8 : Int32) &&& 63)) ||| (Int32.toInt64 ((f_by xa (16 : Int32)) &&& (255 : Int32)))) <<< (Int32.toInt64 (8 : Int32) &&& 63)) ||| (Int32.toInt64 ((f_by xa (8 : Int32)) &&& (255 : Int32)))) <<< (Int32.toInt64 (8 : Int32) &&& 63)) ||| (Int32.toInt64 ((f_by xa (0 : Int32)) &&& (255 : Int32)))) = (XT.ushrL xa (0 : Int32)) from by rw [v_p1, v_p2, v_p3, v_p4, v_p5, v_p6, v_p7, v_p8]]
      show OE p e room_1 below s n0 Q' T90 (mkF m 164 #[.val (.long xa), .second, .val (.int xb), .val (.int xs), .val (.int xn), .val (.int (2 : Int32)), .val (.int (8 : Int32)), .val (.ref b61), .unset, .unset, .unset, .unset] [(.long (XT.ushrL xa (0 : Int32)))])
      refine o_lstore X90 at_164 #[.val (.long xa), .second, .val (.int xb), .val (.int xs), .val (.int xn), .val (.int (2 : Int32)), .val (.int (8 : Int32)), .val (.ref b61), .val (.long (XT.ushrL xa (0 : Int32))), .second, .unset, .unset] rfl 166 rfl ?_
      refine o_iload X90 at_166 rfl 168 rfl ?_
      refine o_ifNe X90 at_168 175 171 (by decide) (by decide) rfl ?_ (fun q => by exfalso; exact absurd q (by decide))
      intro hc168
      refine o_lloadN X90 at_175 rfl 176 rfl ?_
      refine o_bipush (v := (64 : Int32)) X90 at_176 rfl 178 rfl ?_
      refine o_bipush (v := (8 : Int32)) X90 at_178 rfl 180 rfl ?_
      refine o_iload X90 at_180 rfl 182 rfl ?_
      refine o_imul X90 at_182 183 rfl ?_
      refine o_isub X90 at_183 184 rfl ?_
      refine o_lushr X90 at_184 185 rfl ?_
      refine o_lstore X90 at_185 #[.val (.long xa), .second, .val (.int xb), .val (.int xs), .val (.int xn), .val (.int (2 : Int32)), .val (.int (8 : Int32)), .val (.ref b61), .val (.long (XT.ushrL xa (0 : Int32))), .second, .val (.long (XT.ushrL xa ((64 : Int32) - ((8 : Int32) * (8 : Int32))))), .second] rfl 187 rfl ?_
      refine o_lload X90 at_187 rfl 189 rfl ?_
      refine o_lload X90 at_189 rfl 191 rfl ?_
      refine o_lcmp X90 at_191 192 rfl ?_
      refine o_ifNe X90 at_192 199 195 (by decide) (by decide) rfl (fun q => by exfalso; exact q ((v_cmp0 _ _).mpr rfl)) ?_
      intro hc192
      refine o_iconst (v := (1 : Int32)) X90 at_195 rfl 196 rfl ?_
      refine o_goto X90 at_196 200 (by decide) (by decide) ?_
      exact o_retZ X90 at_200 (by decide) (by decide) (hQ _ _ rfl)
set_option maxRecDepth 65536 in
set_option maxHeartbeats 40000000 in
theorem comes_1 {Post : Tables → Env → Array Value → State → Outcome → State → Prop} (hpost : ∀ tb e args s v u, (limb_1_1.after args s (.returned v) u = true ∧ limb_1_2.after args s (.returned v) u = true ∧ True) → FrameEnd s (.returned v) u (Jvm.fieldLocs frame_1_writes args s ++ Jvm.arrayLocs frame_1_arrays args s ++ Jvm.staticLocs frame_1_statics s) 16 128 → Post tb e args s (.returned v) u) :
    ArmFor flags0 classFile x code maxLocals ret World_1 tables_1 room_1 Calls_1 rest_1 Pre_1 Post := by
  intro l hfl _ _ p e ha hc hk s m args below hf hA hF happ hP
  obtain ⟨hcalls, hrest, hpre⟩ := hP
  obtain ⟨-, -, -, hnamed, -, -, -, hat⟩ := (Spec.applies_iff hf).mp happ
  obtain ⟨hg, hn⟩ := and_e (Cond.before_iff.mp (show (Jvm.Cond.and given_1 narrow_1).before args s = true from hpre))
  obtain ⟨hcnt, hg0⟩ := and_e hg
  obtain ⟨ha0, hg1⟩ := and_e hg0
  obtain ⟨ha1, hg2⟩ := and_e hg1
  obtain ⟨ha2, hg3⟩ := and_e hg2
  have ha3 := hg3
  obtain ⟨w0, w1, w2, w3, rfl⟩ : ∃ w0 w1 w2 w3 : Value, args = #[w0, w1, w2, w3] := by
    have hs : args.size = 4 := by simpa [Cond.value, given_1] using hcnt
    obtain ⟨L⟩ := args
    match L, hs with
    | [w0, w1, w2, w3], _ => exact ⟨w0, w1, w2, w3, rfl⟩
  have hw := fun d (hd : d ∈ tables_1) => atoms_spec (ws := Jvm.Cond.code x code maxLocals ret :: tables_1) hat d (List.mem_cons_of_mem _ hd)
  obtain ⟨i0, ei0⟩ := isL_v ha0
  obtain rfl : w0 = (.long i0) := Option.some.inj ei0
  obtain ⟨i1, ei1⟩ := is_v ha1
  obtain rfl : w1 = (.int i1) := Option.some.inj ei1
  obtain ⟨i2, ei2⟩ := is_v ha2
  obtain rfl : w2 = (.int i2) := Option.some.inj ei2
  obtain ⟨i3, ei3⟩ := is_v ha3
  obtain rfl : w3 = (.int i3) := Option.some.inj ei3
  obtain ⟨n, o, h1, h2, h3, _, L, rfl, ⟨rfl, N⟩, hq⟩ := c_law l s _ hw tables_1 s.heap.size s.heap (Nat.le_refl _) i0 i1 i2 i3 p e ha hc hk s m _ below hf ((Spec.applies_iff_loose hf).mp happ).1 ⟨rfl, State.Warmed39.refl s, rfl⟩ trivial
  refine ⟨n, _, h1, h2, h3, hpost _ _ _ _ _ _ ⟨Cond.after_iff.mpr rfl, Cond.after_iff.mpr (eq_i res_at (Term.int_eval (1)) rfl), trivial⟩ ⟨hq.1, hq.2.1, (hq.2.2.sift fun y hy => Or.inr (N y hy)).mono (by decide) (by decide)⟩⟩
theorem main_1_1 : Claimed_1_1 := comes_1 fun _ _ _ _ _ _ h hF => ⟨h.1, hF⟩
theorem main_1_2 : Claimed_1_2 := comes_1 fun _ _ _ _ _ _ h hF => ⟨h.2.1, hF⟩
end Jvm.Pilot.@@N@@
namespace Jvm.Pilot.@@N@@
open Jvm Jvm.ClassFile Sem Op Lib Jvm.Free Jvm.Stand Jvm.Pilot.@@N@@.Jvm.D
/-! MADE BY PROGRAM (witnessworld.py) out of the Statement's table words and the real class files: 9 classes; the members and pool entries that the words name. The judged class is class 1, her method 1. -/
namespace start1
open Jvm.ClassFile
def u (s : String) : CpInfo := .utf8 (stringToUtf16 s)
/-- a pool by its gaps: so many unusable entries, then the entry; so many at the end -/
def gap : Nat → List CpInfo → List CpInfo
  | 0, r => r
  | n + 1, r => .unusable :: gap n r
def poolList (es : List (Nat × CpInfo)) (last : Nat) : List CpInfo := es.foldr (fun e r => gap e.1 (e.2 :: r)) (gap last [])
def pool (es : List (Nat × CpInfo)) (last : Nat) : Array CpInfo := ⟨poolList es last⟩
def fileOf (pool : Array CpInfo) (this : Nat) (attrs : Array Attribute := #[]) (ms : Array MethodInfo := #[]) (fl : Nat := 33) (sup : Nat := 0) (ifs : Array Nat := #[]) (fds : Array FieldInfo := #[]) : ClassFile where
  minorVersion := 0
  majorVersion := 65
  constantPool := pool
  accessFlags := fl
  thisClass := this
  superClass := sup
  interfaces := ifs
  fields := fds
  methods := ms
  attributes := attrs
def plain (name : String) (sup : Option ClassId) : Class where
  name := name
  kind := .ordinary
  loader := none
  accessFlags := 33
  super := sup
  interfaces := #[]
  cf := none
  fields := #[]
  methods := #[]
  instanceTypes := #[]
  staticTypes := #[]
  resolved := #[]
  callSites := []
  init := .initialized
  statics := none
  mirror := none

def pool0 : Array CpInfo := pool [(5, u "<init>"), (0, u "()V"), (1, .class_ 10), (1, u "java/lang/Object")] 113

def k0m0 : Method := { name := "<init>", desc := "()V", sig := { parameters := [], returnType := none }, accessFlags := 1, code := none }
/-- java/lang/Object -/
def k0 : Class := { plain "java/lang/Object" none with
  accessFlags := 33
  interfaces := #[]
  cf := some (fileOf pool0 8 #[] #[{ accessFlags := 1, nameIndex := 5, descriptorIndex := 6, attributes := #[] }] 33 0 #[] #[])
  fields := #[]
  methods := #[k0m0]
  instanceTypes := #[]
  staticTypes := #[]
  resolved := Array.replicate 124 none
  statics := none }

def pool1 : Array CpInfo := pool [(2, .class_ 4), (1, u "java/lang/Object"), (0, u "<init>"), (0, u "()V"), (0, .integer 2147483647), (0, .methodref 9 10), (0, .class_ 11), (0, .nameAndType 12 13), (0, u "com/example/vestbook/vestbook/member/MemberIdsPackedPinLaw"), (0, u "at"), (0, u "(IIJI)B"), (0, .methodref 15 16), (0, .class_ 17), (0, .nameAndType 18 19), (0, u "com/example/vestbook/vestbook/member/MemberIds"), (0, u "packed"), (0, u "([BII)J"), (2, u "law"), (0, u "(JIII)Z")] 5

def k1m0 : Method := { name := "<init>", desc := "()V", sig := { parameters := [], returnType := none }, accessFlags := 1, code := none }
def k1c1 : Code := { maxStack := 7, maxLocals := 12, code := code, exceptionTable := #[], attributes := #[] }
def k1m1 : Method := { name := "law", desc := "(JIII)Z", sig := { parameters := [.long, .int, .int, .int], returnType := some .boolean }, accessFlags := 9, code := some k1c1 }
def k1c2 : Code := { maxStack := 5, maxLocals := 6, code := method_3_code, exceptionTable := #[], attributes := #[] }
def k1m2 : Method := { name := "at", desc := "(IIJI)B", sig := { parameters := [.int, .int, .long, .int], returnType := some .byte }, accessFlags := 10, code := some k1c2 }
/-- com/example/vestbook/vestbook/member/MemberIdsPackedPinLaw -/
def k1 : Class := { plain "com/example/vestbook/vestbook/member/MemberIdsPackedPinLaw" (some 0) with
  accessFlags := 49
  interfaces := #[]
  cf := some (fileOf pool1 9 #[] #[{ accessFlags := 1, nameIndex := 5, descriptorIndex := 6, attributes := #[] }, { accessFlags := 9, nameIndex := 22, descriptorIndex := 23, attributes := #[] }, { accessFlags := 10, nameIndex := 12, descriptorIndex := 13, attributes := #[] }] 49 2 #[] #[])
  fields := #[]
  methods := #[k1m0, k1m1, k1m2]
  instanceTypes := #[]
  staticTypes := #[]
  resolved := Array.replicate 29 none
  statics := none }

def pool2 : Array CpInfo := pool [(1, .class_ 2), (0, u "com/example/vestbook/vestbook/member/MemberIds"), (3, .class_ 8), (1, u "java/lang/Object"), (10, u "ids"), (0, u "Ljava/util/List;"), (6, u "starts"), (0, u "[I"), (1, u "[B"), (18, u "bytes"), (20, u "table"), (2, u "mask"), (0, u "I"), (55, u "packed"), (0, u "([BII)J"), (1, u "KEY_BYTES"), (2, u "KEY_LENGTH_SHIFT"), (1, u "NO_KEY"), (0, u "J")] 17

def k2c0 : Code := { maxStack := 4, maxLocals := 6, code := prog_68_method_8_code, exceptionTable := #[], attributes := #[] }
def k2m0 : Method := { name := "packed", desc := "([BII)J", sig := { parameters := [(.array .byte), .int, .int], returnType := some .long }, accessFlags := 8, code := some k2c0 }
/-- com/example/vestbook/vestbook/member/MemberIds -/
def k2 : Class := { plain "com/example/vestbook/vestbook/member/MemberIds" (some 0) with
  accessFlags := 48
  interfaces := #[]
  cf := some (fileOf pool2 1 #[] #[{ accessFlags := 8, nameIndex := 130, descriptorIndex := 131, attributes := #[] }] 48 6 #[] #[{ accessFlags := 24, nameIndex := 133, descriptorIndex := 74, attributes := #[] }, { accessFlags := 24, nameIndex := 136, descriptorIndex := 74, attributes := #[] }, { accessFlags := 24, nameIndex := 138, descriptorIndex := 139, attributes := #[] }, { accessFlags := 18, nameIndex := 19, descriptorIndex := 20, attributes := #[] }, { accessFlags := 18, nameIndex := 49, descriptorIndex := 30, attributes := #[] }, { accessFlags := 18, nameIndex := 27, descriptorIndex := 28, attributes := #[] }, { accessFlags := 18, nameIndex := 70, descriptorIndex := 28, attributes := #[] }, { accessFlags := 18, nameIndex := 73, descriptorIndex := 74, attributes := #[] }])
  fields := #[{ name := "KEY_BYTES", type := .int, accessFlags := 24, slot := 0, constantValue := 0 }, { name := "KEY_LENGTH_SHIFT", type := .int, accessFlags := 24, slot := 1, constantValue := 0 }, { name := "NO_KEY", type := .long, accessFlags := 24, slot := 2, constantValue := 0 }, { name := "ids", type := (.object "java/util/List"), accessFlags := 18, slot := 0, constantValue := 0 }, { name := "bytes", type := (.array .byte), accessFlags := 18, slot := 1, constantValue := 0 }, { name := "starts", type := (.array .int), accessFlags := 18, slot := 2, constantValue := 0 }, { name := "table", type := (.array .int), accessFlags := 18, slot := 3, constantValue := 0 }, { name := "mask", type := .int, accessFlags := 18, slot := 4, constantValue := 0 }]
  methods := #[k2m0]
  instanceTypes := #[(.object "java/util/List"), (.array .byte), (.array .int), (.array .int), .int]
  staticTypes := #[.int, .int, .long]
  resolved := Array.replicate 157 none
  statics := none }

def pool3 : Array CpInfo := pool [(1, u "java/lang/Cloneable"), (0, .class_ 1), (0, u "java/lang/Object"), (0, .class_ 3)] 3

/-- java/lang/Cloneable -/
def k3 : Class := { plain "java/lang/Cloneable" (some 0) with
  accessFlags := 1537
  interfaces := #[]
  cf := some (fileOf pool3 2 #[] #[] 1537 4 #[] #[])
  fields := #[]
  methods := #[]
  instanceTypes := #[]
  staticTypes := #[]
  resolved := Array.replicate 8 none
  statics := none }

def pool4 : Array CpInfo := pool [(1, u "java/io/Serializable"), (0, .class_ 1), (0, u "java/lang/Object"), (0, .class_ 3)] 3

/-- java/io/Serializable -/
def k4 : Class := { plain "java/io/Serializable" (some 0) with
  accessFlags := 1537
  interfaces := #[]
  cf := some (fileOf pool4 2 #[] #[] 1537 4 #[] #[])
  fields := #[]
  methods := #[]
  instanceTypes := #[]
  staticTypes := #[]
  resolved := Array.replicate 8 none
  statics := none }

/-- the primitive byte -/
def k5 : Class := { plain "byte" none with kind := .primitive 'B', accessFlags := 0x411 }
/-- [B -/
def k6 : Class := { plain "[B" (some 0) with kind := .array 5 .byte, interfaces := #[3, 4], accessFlags := 1041 }

/-- the primitive int -/
def k7 : Class := { plain "int" none with kind := .primitive 'I', accessFlags := 0x411 }
/-- [I -/
def k8 : Class := { plain "[I" (some 0) with kind := .array 7 .int, interfaces := #[3, 4], accessFlags := 1041 }

def heap : Heap := #[]
def classes : Array Class := #[k0, k1, k2, k3, k4, k5, k6, k7, k8]
def interned : List (Array UInt16 × Addr) := []
def slotsUsed : Nat := 0
def theMethod : MethodId := ⟨1, 1⟩
def args0 : Array Value := #[.long 5, .int 3, .int 4, .int 2]
def aboutOver (below : List Frame) : State where
  vm := { classes := classes, interned := interned.toArray }
  heap := heap
  slotsUsed := slotsUsed
  threads := #[{ frames := .invoking theMethod args0 :: below }]
def below0 : List Frame := [.native { method := ⟨0, 0⟩, args := #[] }]
def about1 : State := aboutOver below0
def p0 : Program := .bare "" "" ""
def e0 : Env := launch0.env 0 0 0
theorem w_frames : about1.frames = Frame.invoking theMethod args0 :: below0 := rfl
set_option maxRecDepth 65536 in
theorem w_args : argsFit about1.vm theMethod args0 = true := by decide +kernel
set_option maxRecDepth 65536 in
theorem w_heap : heapFits about1 = true := by decide +kernel
set_option maxRecDepth 65536 in
theorem w_runnable : about1.curStatus? = some .runnable := by decide +kernel
set_option maxRecDepth 65536 in
theorem w_alone : about1.alone = true := by decide +kernel
set_option maxRecDepth 65536 in
theorem w_named : about1.methodNamed? x = some theMethod := by decide +kernel
set_option maxRecDepth 65536 in
theorem w_hears : about1.hears theMethod below0 = true := by decide +kernel
set_option maxRecDepth 65536 in
theorem w_ripe : about1.ripe theMethod args0 below0 = true := by decide +kernel
theorem w_running : about1.status = .running := rfl
set_option maxRecDepth 65536 in
theorem w_room : about1.hasRoom e0.platform room_1 = true :=
  launch0.hasRoom_least _ room_1 (by decide +kernel) (by decide +kernel) (by decide +kernel) (by decide +kernel) (by decide +kernel) (by decide +kernel)
theorem allAtoms_all (ts : List Jvm.Cond) (a : Array Jvm.Value) (st : Jvm.State) : (allAtoms ts).before a st = ts.all (fun c => c.before a st) := by
  induction ts with
  | nil => rfl
  | cons c t ih =>
    show (Jvm.Cond.and c (allAtoms t)).before a st = _
    rw [Jvm.Cond.before_and, ih, List.all_cons]
def words1 : List Jvm.Cond := Jvm.Cond.code x code maxLocals ret :: tables_1
/-- a 'code' word, met by the world's own term for the bytes: nothing is compared byte by byte -/
theorem code_word {y : MethodName} {bytes : ByteArray} {mx : Nat} {rt : Option FieldType} {a : Array Value} {s : State} {m : MethodId} {meth : Method} {c : Code} (h1 : s.methodNamed? y = some m) (h2 : s.vm.method? m = some meth) (h3 : meth.code = some c) (h4 : c.code = bytes)
    (h5 : (c.maxLocals == mx && c.exceptionTable.isEmpty && decide (c.maxStack ≤ mostOperands) && decide (meth.sig.returnType = rt) && !meth.locks && decide (parseMethodDescriptor y.desc = some meth.sig)) = true) : (Jvm.Cond.code y bytes mx rt).before a s = true := by
  simp only [Bool.and_eq_true, beq_iff_eq, Bool.not_eq_true', decide_eq_true_eq] at h5
  obtain ⟨⟨⟨⟨⟨g1, g2⟩, g3⟩, g4⟩, g5⟩, g6⟩ := h5
  simp [Cond.before, Cond.holds, Cond.value, h1, h2, h3, h4, g1, g2, g3, g4, g5, g6]
def isCode : Jvm.Cond → Bool
  | .code _ _ _ _ => true
  | _ => false
theorem all_split {L : List Jvm.Cond} {P : Jvm.Cond → Bool} (h1 : L.all (fun c => isCode c || P c) = true) (h2 : ∀ c ∈ L.filter isCode, P c = true) : L.all P = true := by
  refine List.all_eq_true.mpr fun c hc => ?_
  have h := List.all_eq_true.mp h1 c hc
  rcases Bool.eq_false_or_eq_true (isCode c) with hi | hi
  · exact h2 c (List.mem_filter.mpr ⟨hc, hi⟩)
  · simpa [hi] using h
set_option maxRecDepth 65536 in
theorem w_c0 : (Jvm.Cond.code x code maxLocals ret).before args0 about1 = true := code_word (m := ⟨1, 1⟩) (meth := k1m1) (c := k1c1) (by decide +kernel) rfl rfl rfl (by decide +kernel)
set_option maxRecDepth 65536 in
theorem w_c1 : (Jvm.Cond.code ({ cls := "com/example/vestbook/vestbook/member/MemberIdsPackedPinLaw", name := "at", desc := "(IIJI)B" } : Jvm.MethodName) method_3_code (6 : Nat) (Option.some Jvm.ClassFile.FieldType.byte)).before args0 about1 = true := code_word (m := ⟨1, 2⟩) (meth := k1m2) (c := k1c2) (by decide +kernel) rfl rfl rfl (by decide +kernel)
set_option maxRecDepth 65536 in
theorem w_c2 : (Jvm.Cond.code ({ cls := "com/example/vestbook/vestbook/member/MemberIds", name := "packed", desc := "([BII)J" } : Jvm.MethodName) prog_68_method_8_code (6 : Nat) (Option.some Jvm.ClassFile.FieldType.long)).before args0 about1 = true := code_word (m := ⟨2, 0⟩) (meth := k2m0) (c := k2c0) (by decide +kernel) rfl rfl rfl (by decide +kernel)
def codes1 : List Jvm.Cond := [Jvm.Cond.code x code maxLocals ret, Jvm.Cond.code ({ cls := "com/example/vestbook/vestbook/member/MemberIdsPackedPinLaw", name := "at", desc := "(IIJI)B" } : Jvm.MethodName) method_3_code (6 : Nat) (Option.some Jvm.ClassFile.FieldType.byte), Jvm.Cond.code ({ cls := "com/example/vestbook/vestbook/member/MemberIds", name := "packed", desc := "([BII)J" } : Jvm.MethodName) prog_68_method_8_code (6 : Nat) (Option.some Jvm.ClassFile.FieldType.long)]
set_option maxRecDepth 65536 in
theorem codes_eq : words1.filter isCode = codes1 := rfl
theorem w_codes : ∀ c ∈ words1.filter isCode, c.before args0 about1 = true := by
  rw [codes_eq]
  intro c hc
  simp only [codes1, List.mem_cons, List.not_mem_nil, or_false] at hc
  rcases hc with rfl | rfl | rfl
  · exact w_c0
  · exact w_c1
  · exact w_c2
set_option maxRecDepth 65536 in
theorem w_t1 : words1.all (fun c => isCode c || c.before args0 about1) = true := by decide +kernel
theorem w_tables : (allAtoms (Jvm.Cond.code x code maxLocals ret :: tables_1)).before args0 about1 = true := by
  rw [allAtoms_all]
  show words1.all (fun c => c.before args0 about1) = true
  refine all_split ?_ w_codes
  rw [w_t1]
set_option maxRecDepth 65536 in
theorem w_case : (Jvm.Cond.and given_1 narrow_1).before args0 about1 = true := by decide +kernel
theorem w_applies : (headSpec (Jvm.Cond.code x code maxLocals ret :: tables_1) room_1).applies x e0.platform about1 = true :=
  (Spec.applies_iff w_frames).mpr ⟨w_running, w_runnable, w_alone, w_named, w_hears, w_ripe, w_room, w_tables⟩
theorem atStart : AtStart classFile x code maxLocals ret World_1 tables_1 room_1 Calls_1 rest_1 Pre_1 launch0 p0 e0 about1 theMethod args0 below0 :=
  ⟨lists_1, trivial, launch0.admits_env _ _ _, launch0.least_env, fairChoices_fair.cas, fairChoices_fair.clock, w_frames, w_args, w_heap, w_applies, trivial, trivial, w_case⟩
end start1
theorem witness_1 : WitnessClaimed_1 := ⟨start1.p0, start1.e0, start1.about1, start1.theMethod, start1.args0, start1.below0, start1.atStart⟩
end Jvm.Pilot.@@N@@
