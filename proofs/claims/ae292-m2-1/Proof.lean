import JvmDerived
import JvmDerived.Pilot.@@N@@Statement
import JvmDerived.Pilot.@@N@@Code
set_option linter.unusedVariables false
set_option linter.unusedSimpArgs false
@@BLOCK:NumsL.lean.txt@@
namespace Jvm.Pilot.@@N@@
open Jvm Jvm.ClassFile Sem Op Lib Jvm.Free Jvm.Stand Jvm.LawKit Jvm.RoadKit Bundle Jvm.Pilot.@@N@@.Jvm.D
section OwnKit
variable {p : Program} {l : Launch} {e : Env} {R : Room} {s : State} {m : MethodId} {args : Array Value} {below : List Frame} {meth : Method} {c : Code} {T T' : State} {Z : State} {h : Heap} {n0 k n mx : Nat} {y : MethodName} {bytes : ByteArray} {ret : Option FieldType} {Q : Option Value → Heap → Prop} {pc : Nat} {Ls : Array Slot} {st rest : List Value} {a0 : Array Value} {g g' : JFrame}
/-- where a body's walk stands: all that its steps ask, bundled -/
def OW (p : Program) (l : Launch) (e : Env) (R : Room) (s : State) (m : MethodId) (args : Array Value) (below : List Frame) (meth : Method) (c : Code) (Z : State) (y : MethodName) (bytes : ByteArray) (mx : Nat) (ret : Option FieldType) (n0 : Nat) (T : State) (h : Heap) (k n : Nat) : Prop :=
  p.tables.exec = Jvm.exec ∧ Z.Warmed39 s.vm ∧ s.vm.findClass y.cls = some m.cls ∧ c.code = bytes ∧ c.maxLocals = mx ∧ meth.sig.returnType = ret ∧ meth.name = y.name ∧ meth.locks = false ∧ n0 ≤ s.heap.size ∧ T.heap = h ∧ ∃ locs, Stand p l e R s m args below meth c T locs k n ∧ Fr n0 locs
/-- what a body owes from the frame g on: it returns, and Q holds of what it returns and of the heap -/
def OE (p : Program) (e : Env) (R : Room) (below : List Frame) (s : State) (n0 : Nat) (Q : Option Value → Heap → Prop) (T : State) (g : JFrame) : Prop :=
  ∃ t o, Steps p.tables e below (T.setTop g) t ∧ t.status = .running ∧ Ended t below o ∧ ∃ v L, o = .returned v ∧ (Q v t.heap ∧ Fr n0 L) ∧ FrameEnd s o t L R.cells R.slots
theorem OE.by (hs : ∀ t, Steps p.tables e below (T'.setTop g') t → Steps p.tables e below (T.setTop g) t) (K : OE p e R below s n0 Q T' g') : OE p e R below s n0 Q T g := by
  obtain ⟨t, o, h1, r⟩ := K; exact ⟨t, o, hs t h1, r⟩
theorem OW.size (X : OW p l e R s m args below meth c Z y bytes mx ret n0 T h k n) : n0 ≤ h.size := by
  obtain ⟨-, -, -, -, -, -, -, -, h0, rfl, locs, S, -⟩ := X
  exact Nat.le_trans h0 S.same.2.1
theorem OW.more (X : OW p l e R s m args below meth c Z y bytes mx ret n0 T h k n) {k' n' : Nat} (hk : k ≤ k') (hn : n ≤ n') : OW p l e R s m args below meth c Z y bytes mx ret n0 T h k' n' := by
  obtain ⟨h1, h2, h3, h4, h5, h6, h7, h8, h9, h10, locs, S, N⟩ := X
  exact ⟨h1, h2, h3, h4, h5, h6, h7, h8, h9, h10, locs, S.more hk hn, N⟩
theorem o_iloadN (X : OW p l e R s m args below meth c Z y bytes mx ret n0 T h k n) {j : Fin 4} {v : Int32} (hd : decode bytes pc = .ok (.iload_n j, 1)) (hl : Ls[j.val]? = some (.val (.int v))) (pc' : Nat) (hp : pc + 1 = pc') (K : OE p e R below s n0 Q T (mkF m pc' Ls (.int v :: st))) : OE p e R below s n0 Q T (mkF m pc Ls st) := by
  obtain ⟨hx, hZ, hown, hby, hmx, hret, hnm, hlk, h0, hT, locs, S, N⟩ := X; subst hp
  exact OE.by (fun t q => XS.iloadN S.here hx rfl (hb hby hd) hl q) K
theorem o_iload (X : OW p l e R s m args below meth c Z y bytes mx ret n0 T h k n) {j : Nat} {v : Int32} (hd : decode bytes pc = .ok (.iload j, 2)) (hl : Ls[j]? = some (.val (.int v))) (pc' : Nat) (hp : pc + 2 = pc') (K : OE p e R below s n0 Q T (mkF m pc' Ls (.int v :: st))) : OE p e R below s n0 Q T (mkF m pc Ls st) := by
  obtain ⟨hx, hZ, hown, hby, hmx, hret, hnm, hlk, h0, hT, locs, S, N⟩ := X; subst hp
  exact OE.by (fun t q => XS.iload S.here hx rfl (hb hby hd) hl q) K
theorem o_aloadN (X : OW p l e R s m args below meth c Z y bytes mx ret n0 T h k n) {j : Fin 4} {v : Value} (hd : decode bytes pc = .ok (.aload_n j, 1)) (hl : Ls[j.val]? = some (.val v)) (hv : v.isRef = true) (pc' : Nat) (hp : pc + 1 = pc') (K : OE p e R below s n0 Q T (mkF m pc' Ls (v :: st))) : OE p e R below s n0 Q T (mkF m pc Ls st) := by
  obtain ⟨hx, hZ, hown, hby, hmx, hret, hnm, hlk, h0, hT, locs, S, N⟩ := X; subst hp
  exact OE.by (fun t q => XS.aloadN S.here hx rfl (hb hby hd) hl hv q) K
theorem o_aload (X : OW p l e R s m args below meth c Z y bytes mx ret n0 T h k n) {j : Nat} {v : Value} (hd : decode bytes pc = .ok (.aload j, 2)) (hl : Ls[j]? = some (.val v)) (hv : v.isRef = true) (pc' : Nat) (hp : pc + 2 = pc') (K : OE p e R below s n0 Q T (mkF m pc' Ls (v :: st))) : OE p e R below s n0 Q T (mkF m pc Ls st) := by
  obtain ⟨hx, hZ, hown, hby, hmx, hret, hnm, hlk, h0, hT, locs, S, N⟩ := X; subst hp
  exact OE.by (fun t q => XS.aload S.here hx rfl (hb hby hd) hl hv q) K
theorem o_lloadN (X : OW p l e R s m args below meth c Z y bytes mx ret n0 T h k n) {j : Fin 4} {v : Int64} (hd : decode bytes pc = .ok (.lload_n j, 1)) (hl : Ls[j.val]? = some (.val (.long v))) (pc' : Nat) (hp : pc + 1 = pc') (K : OE p e R below s n0 Q T (mkF m pc' Ls (.long v :: st))) : OE p e R below s n0 Q T (mkF m pc Ls st) := by
  obtain ⟨hx, hZ, hown, hby, hmx, hret, hnm, hlk, h0, hT, locs, S, N⟩ := X; subst hp
  exact OE.by (fun t q => XT.lloadN S.here hx rfl (hb hby hd) hl q) K
theorem o_lload (X : OW p l e R s m args below meth c Z y bytes mx ret n0 T h k n) {j : Nat} {v : Int64} (hd : decode bytes pc = .ok (.lload j, 2)) (hl : Ls[j]? = some (.val (.long v))) (pc' : Nat) (hp : pc + 2 = pc') (K : OE p e R below s n0 Q T (mkF m pc' Ls (.long v :: st))) : OE p e R below s n0 Q T (mkF m pc Ls st) := by
  obtain ⟨hx, hZ, hown, hby, hmx, hret, hnm, hlk, h0, hT, locs, S, N⟩ := X; subst hp
  exact OE.by (fun t q => XT.lload S.here hx rfl (hb hby hd) hl q) K
theorem o_iconst (X : OW p l e R s m args below meth c Z y bytes mx ret n0 T h k n) {i : Int} {v : Int32} (hd : decode bytes pc = .ok (.iconst i, 1)) (hv : Int32.ofInt i = v) (pc' : Nat) (hp : pc + 1 = pc') (K : OE p e R below s n0 Q T (mkF m pc' Ls (.int v :: st))) : OE p e R below s n0 Q T (mkF m pc Ls st) := by
  obtain ⟨hx, hZ, hown, hby, hmx, hret, hnm, hlk, h0, hT, locs, S, N⟩ := X; subst hp hv
  exact OE.by (fun t q => XS.iconst S.here hx rfl (hb hby hd) q) K
theorem o_bipush (X : OW p l e R s m args below meth c Z y bytes mx ret n0 T h k n) {i : Int} {v : Int32} (hd : decode bytes pc = .ok (.bipush i, 2)) (hv : (Int8.ofInt i).toInt32 = v) (pc' : Nat) (hp : pc + 2 = pc') (K : OE p e R below s n0 Q T (mkF m pc' Ls (.int v :: st))) : OE p e R below s n0 Q T (mkF m pc Ls st) := by
  obtain ⟨hx, hZ, hown, hby, hmx, hret, hnm, hlk, h0, hT, locs, S, N⟩ := X; subst hp hv
  exact OE.by (fun t q => XS.bipush S.here hx rfl (hb hby hd) q) K
theorem o_sipush (X : OW p l e R s m args below meth c Z y bytes mx ret n0 T h k n) {i : Int} {v : Int32} (hd : decode bytes pc = .ok (.sipush i, 3)) (hv : (Int16.ofInt i).toInt32 = v) (pc' : Nat) (hp : pc + 3 = pc') (K : OE p e R below s n0 Q T (mkF m pc' Ls (.int v :: st))) : OE p e R below s n0 Q T (mkF m pc Ls st) := by
  obtain ⟨hx, hZ, hown, hby, hmx, hret, hnm, hlk, h0, hT, locs, S, N⟩ := X; subst hp hv
  exact OE.by (fun t q => XS.sipush S.here hx rfl (hb hby hd) q) K
theorem o_lconst (X : OW p l e R s m args below meth c Z y bytes mx ret n0 T h k n) {i : Fin 2} {v : Int64} (hd : decode bytes pc = .ok (.lconst i, 1)) (hv : Int64.ofNat i = v) (pc' : Nat) (hp : pc + 1 = pc') (K : OE p e R below s n0 Q T (mkF m pc' Ls (.long v :: st))) : OE p e R below s n0 Q T (mkF m pc Ls st) := by
  obtain ⟨hx, hZ, hown, hby, hmx, hret, hnm, hlk, h0, hT, locs, S, N⟩ := X; subst hp hv
  exact OE.by (fun t q => XT.lconst S.here hx rfl (hb hby hd) q) K
theorem o_iadd (X : OW p l e R s m args below meth c Z y bytes mx ret n0 T h k n) {x z : Int32} (hd : decode bytes pc = .ok (.iadd, 1))  (pc' : Nat) (hp : pc + 1 = pc') (K : OE p e R below s n0 Q T (mkF m pc' Ls (.int (x + z) :: st))) : OE p e R below s n0 Q T (mkF m pc Ls (.int z :: .int x :: st)) := by
  obtain ⟨hx, hZ, hown, hby, hmx, hret, hnm, hlk, h0, hT, locs, S, N⟩ := X; subst hp
  exact OE.by (fun t q => XS.iadd S.here hx rfl (hb hby hd) rfl q) K
theorem o_isub (X : OW p l e R s m args below meth c Z y bytes mx ret n0 T h k n) {x z : Int32} (hd : decode bytes pc = .ok (.isub, 1))  (pc' : Nat) (hp : pc + 1 = pc') (K : OE p e R below s n0 Q T (mkF m pc' Ls (.int (x - z) :: st))) : OE p e R below s n0 Q T (mkF m pc Ls (.int z :: .int x :: st)) := by
  obtain ⟨hx, hZ, hown, hby, hmx, hret, hnm, hlk, h0, hT, locs, S, N⟩ := X; subst hp
  exact OE.by (fun t q => XS.isub S.here hx rfl (hb hby hd) rfl q) K
theorem o_imul (X : OW p l e R s m args below meth c Z y bytes mx ret n0 T h k n) {x z : Int32} (hd : decode bytes pc = .ok (.imul, 1))  (pc' : Nat) (hp : pc + 1 = pc') (K : OE p e R below s n0 Q T (mkF m pc' Ls (.int (x * z) :: st))) : OE p e R below s n0 Q T (mkF m pc Ls (.int z :: .int x :: st)) := by
  obtain ⟨hx, hZ, hown, hby, hmx, hret, hnm, hlk, h0, hT, locs, S, N⟩ := X; subst hp
  exact OE.by (fun t q => XS.imul S.here hx rfl (hb hby hd) rfl q) K
theorem o_iand (X : OW p l e R s m args below meth c Z y bytes mx ret n0 T h k n) {x z : Int32} (hd : decode bytes pc = .ok (.iand, 1))  (pc' : Nat) (hp : pc + 1 = pc') (K : OE p e R below s n0 Q T (mkF m pc' Ls (.int (x &&& z) :: st))) : OE p e R below s n0 Q T (mkF m pc Ls (.int z :: .int x :: st)) := by
  obtain ⟨hx, hZ, hown, hby, hmx, hret, hnm, hlk, h0, hT, locs, S, N⟩ := X; subst hp
  exact OE.by (fun t q => XS.iand S.here hx rfl (hb hby hd) rfl q) K
theorem o_ior (X : OW p l e R s m args below meth c Z y bytes mx ret n0 T h k n) {x z : Int32} (hd : decode bytes pc = .ok (.ior, 1))  (pc' : Nat) (hp : pc + 1 = pc') (K : OE p e R below s n0 Q T (mkF m pc' Ls (.int (x ||| z) :: st))) : OE p e R below s n0 Q T (mkF m pc Ls (.int z :: .int x :: st)) := by
  obtain ⟨hx, hZ, hown, hby, hmx, hret, hnm, hlk, h0, hT, locs, S, N⟩ := X; subst hp
  exact OE.by (fun t q => XT.ior S.here hx rfl (hb hby hd) rfl q) K
theorem o_ixor (X : OW p l e R s m args below meth c Z y bytes mx ret n0 T h k n) {x z : Int32} (hd : decode bytes pc = .ok (.ixor, 1))  (pc' : Nat) (hp : pc + 1 = pc') (K : OE p e R below s n0 Q T (mkF m pc' Ls (.int (x ^^^ z) :: st))) : OE p e R below s n0 Q T (mkF m pc Ls (.int z :: .int x :: st)) := by
  obtain ⟨hx, hZ, hown, hby, hmx, hret, hnm, hlk, h0, hT, locs, S, N⟩ := X; subst hp
  exact OE.by (fun t q => XT.ixor S.here hx rfl (hb hby hd) rfl q) K
theorem o_ishl (X : OW p l e R s m args below meth c Z y bytes mx ret n0 T h k n) {x z : Int32} (hd : decode bytes pc = .ok (.ishl, 1))  (pc' : Nat) (hp : pc + 1 = pc') (K : OE p e R below s n0 Q T (mkF m pc' Ls (.int (x <<< (z &&& 31)) :: st))) : OE p e R below s n0 Q T (mkF m pc Ls (.int z :: .int x :: st)) := by
  obtain ⟨hx, hZ, hown, hby, hmx, hret, hnm, hlk, h0, hT, locs, S, N⟩ := X; subst hp
  exact OE.by (fun t q => XT.ishl S.here hx rfl (hb hby hd) rfl q) K
theorem o_ishr (X : OW p l e R s m args below meth c Z y bytes mx ret n0 T h k n) {x z : Int32} (hd : decode bytes pc = .ok (.ishr, 1))  (pc' : Nat) (hp : pc + 1 = pc') (K : OE p e R below s n0 Q T (mkF m pc' Ls (.int (x >>> (z &&& 31)) :: st))) : OE p e R below s n0 Q T (mkF m pc Ls (.int z :: .int x :: st)) := by
  obtain ⟨hx, hZ, hown, hby, hmx, hret, hnm, hlk, h0, hT, locs, S, N⟩ := X; subst hp
  exact OE.by (fun t q => XT.ishr S.here hx rfl (hb hby hd) rfl q) K
theorem o_iushr (X : OW p l e R s m args below meth c Z y bytes mx ret n0 T h k n) {x z : Int32} (hd : decode bytes pc = .ok (.iushr, 1))  (pc' : Nat) (hp : pc + 1 = pc') (K : OE p e R below s n0 Q T (mkF m pc' Ls (.int (XT.ushr x z) :: st))) : OE p e R below s n0 Q T (mkF m pc Ls (.int z :: .int x :: st)) := by
  obtain ⟨hx, hZ, hown, hby, hmx, hret, hnm, hlk, h0, hT, locs, S, N⟩ := X; subst hp
  exact OE.by (fun t q => XT.iushr S.here hx rfl (hb hby hd) rfl q) K
theorem o_idiv (X : OW p l e R s m args below meth c Z y bytes mx ret n0 T h k n) {x z : Int32} (hd : decode bytes pc = .ok (.idiv, 1)) (hz : z ≠ 0) (pc' : Nat) (hp : pc + 1 = pc') (K : OE p e R below s n0 Q T (mkF m pc' Ls (.int (x / z) :: st))) : OE p e R below s n0 Q T (mkF m pc Ls (.int z :: .int x :: st)) := by
  obtain ⟨hx, hZ, hown, hby, hmx, hret, hnm, hlk, h0, hT, locs, S, N⟩ := X; subst hp
  exact OE.by (fun t q => XS.idiv S.here hx rfl (hb hby hd) rfl hz q) K
theorem o_irem (X : OW p l e R s m args below meth c Z y bytes mx ret n0 T h k n) {x z : Int32} (hd : decode bytes pc = .ok (.irem, 1)) (hz : z ≠ 0) (pc' : Nat) (hp : pc + 1 = pc') (K : OE p e R below s n0 Q T (mkF m pc' Ls (.int (x % z) :: st))) : OE p e R below s n0 Q T (mkF m pc Ls (.int z :: .int x :: st)) := by
  obtain ⟨hx, hZ, hown, hby, hmx, hret, hnm, hlk, h0, hT, locs, S, N⟩ := X; subst hp
  exact OE.by (fun t q => iremM S hx rfl (hb hby hd) rfl hz q) K
theorem o_ladd (X : OW p l e R s m args below meth c Z y bytes mx ret n0 T h k n) {x z : Int64} (hd : decode bytes pc = .ok (.ladd, 1))  (pc' : Nat) (hp : pc + 1 = pc') (K : OE p e R below s n0 Q T (mkF m pc' Ls (.long (x + z) :: st))) : OE p e R below s n0 Q T (mkF m pc Ls (.long z :: .long x :: st)) := by
  obtain ⟨hx, hZ, hown, hby, hmx, hret, hnm, hlk, h0, hT, locs, S, N⟩ := X; subst hp
  exact OE.by (fun t q => XT.ladd S.here hx rfl (hb hby hd) rfl q) K
theorem o_lsub (X : OW p l e R s m args below meth c Z y bytes mx ret n0 T h k n) {x z : Int64} (hd : decode bytes pc = .ok (.lsub, 1))  (pc' : Nat) (hp : pc + 1 = pc') (K : OE p e R below s n0 Q T (mkF m pc' Ls (.long (x - z) :: st))) : OE p e R below s n0 Q T (mkF m pc Ls (.long z :: .long x :: st)) := by
  obtain ⟨hx, hZ, hown, hby, hmx, hret, hnm, hlk, h0, hT, locs, S, N⟩ := X; subst hp
  exact OE.by (fun t q => XT.lsub S.here hx rfl (hb hby hd) rfl q) K
theorem o_lor (X : OW p l e R s m args below meth c Z y bytes mx ret n0 T h k n) {x z : Int64} (hd : decode bytes pc = .ok (.lor, 1))  (pc' : Nat) (hp : pc + 1 = pc') (K : OE p e R below s n0 Q T (mkF m pc' Ls (.long (x ||| z) :: st))) : OE p e R below s n0 Q T (mkF m pc Ls (.long z :: .long x :: st)) := by
  obtain ⟨hx, hZ, hown, hby, hmx, hret, hnm, hlk, h0, hT, locs, S, N⟩ := X; subst hp
  exact OE.by (fun t q => XT.lor S.here hx rfl (hb hby hd) rfl q) K
theorem o_land (X : OW p l e R s m args below meth c Z y bytes mx ret n0 T h k n) {x z : Int64} (hd : decode bytes pc = .ok (.land, 1))  (pc' : Nat) (hp : pc + 1 = pc') (K : OE p e R below s n0 Q T (mkF m pc' Ls (.long (x &&& z) :: st))) : OE p e R below s n0 Q T (mkF m pc Ls (.long z :: .long x :: st)) := by
  obtain ⟨hx, hZ, hown, hby, hmx, hret, hnm, hlk, h0, hT, locs, S, N⟩ := X; subst hp
  exact OE.by (fun t q => XT.land S.here hx rfl (hb hby hd) rfl q) K
theorem o_lmul (X : OW p l e R s m args below meth c Z y bytes mx ret n0 T h k n) {x z : Int64} (hd : decode bytes pc = .ok (.lmul, 1))  (pc' : Nat) (hp : pc + 1 = pc') (K : OE p e R below s n0 Q T (mkF m pc' Ls (.long (x * z) :: st))) : OE p e R below s n0 Q T (mkF m pc Ls (.long z :: .long x :: st)) := by
  obtain ⟨hx, hZ, hown, hby, hmx, hret, hnm, hlk, h0, hT, locs, S, N⟩ := X; subst hp
  exact OE.by (fun t q => XT.lmul S.here hx rfl (hb hby hd) rfl q) K
theorem o_lshl (X : OW p l e R s m args below meth c Z y bytes mx ret n0 T h k n) {x : Int64} {z : Int32} (hd : decode bytes pc = .ok (.lshl, 1))  (pc' : Nat) (hp : pc + 1 = pc') (K : OE p e R below s n0 Q T (mkF m pc' Ls (.long (x <<< (z.toInt64 &&& 63)) :: st))) : OE p e R below s n0 Q T (mkF m pc Ls (.int z :: .long x :: st)) := by
  obtain ⟨hx, hZ, hown, hby, hmx, hret, hnm, hlk, h0, hT, locs, S, N⟩ := X; subst hp
  exact OE.by (fun t q => XT.lshl S.here hx rfl (hb hby hd) rfl q) K
theorem o_lushr (X : OW p l e R s m args below meth c Z y bytes mx ret n0 T h k n) {x : Int64} {z : Int32} (hd : decode bytes pc = .ok (.lushr, 1))  (pc' : Nat) (hp : pc + 1 = pc') (K : OE p e R below s n0 Q T (mkF m pc' Ls (.long (XT.ushrL x z) :: st))) : OE p e R below s n0 Q T (mkF m pc Ls (.int z :: .long x :: st)) := by
  obtain ⟨hx, hZ, hown, hby, hmx, hret, hnm, hlk, h0, hT, locs, S, N⟩ := X; subst hp
  exact OE.by (fun t q => XT.lushr S.here hx rfl (hb hby hd) rfl q) K
theorem o_lcmp (X : OW p l e R s m args below meth c Z y bytes mx ret n0 T h k n) {x z : Int64} (hd : decode bytes pc = .ok (.lcmp, 1))  (pc' : Nat) (hp : pc + 1 = pc') (K : OE p e R below s n0 Q T (mkF m pc' Ls (.int (XT.cmpL x z) :: st))) : OE p e R below s n0 Q T (mkF m pc Ls (.long z :: .long x :: st)) := by
  obtain ⟨hx, hZ, hown, hby, hmx, hret, hnm, hlk, h0, hT, locs, S, N⟩ := X; subst hp
  exact OE.by (fun t q => XT.lcmp S.here hx rfl (hb hby hd) rfl q) K
theorem o_i2l (X : OW p l e R s m args below meth c Z y bytes mx ret n0 T h k n) {x : Int32} (hd : decode bytes pc = .ok (.i2l, 1))  (pc' : Nat) (hp : pc + 1 = pc') (K : OE p e R below s n0 Q T (mkF m pc' Ls (.long x.toInt64 :: st))) : OE p e R below s n0 Q T (mkF m pc Ls (.int x :: st)) := by
  obtain ⟨hx, hZ, hown, hby, hmx, hret, hnm, hlk, h0, hT, locs, S, N⟩ := X; subst hp
  exact OE.by (fun t q => XT.i2l S.here hx rfl (hb hby hd) rfl q) K
theorem o_l2i (X : OW p l e R s m args below meth c Z y bytes mx ret n0 T h k n) {x : Int64} (hd : decode bytes pc = .ok (.l2i, 1))  (pc' : Nat) (hp : pc + 1 = pc') (K : OE p e R below s n0 Q T (mkF m pc' Ls (.int x.toInt32 :: st))) : OE p e R below s n0 Q T (mkF m pc Ls (.long x :: st)) := by
  obtain ⟨hx, hZ, hown, hby, hmx, hret, hnm, hlk, h0, hT, locs, S, N⟩ := X; subst hp
  exact OE.by (fun t q => XT.l2i S.here hx rfl (hb hby hd) rfl q) K
theorem o_i2b (X : OW p l e R s m args below meth c Z y bytes mx ret n0 T h k n) {x : Int32} (hd : decode bytes pc = .ok (.i2b, 1))  (pc' : Nat) (hp : pc + 1 = pc') (K : OE p e R below s n0 Q T (mkF m pc' Ls (.int x.toInt8.toInt32 :: st))) : OE p e R below s n0 Q T (mkF m pc Ls (.int x :: st)) := by
  obtain ⟨hx, hZ, hown, hby, hmx, hret, hnm, hlk, h0, hT, locs, S, N⟩ := X; subst hp
  exact OE.by (fun t q => XT.i2b S.here hx rfl (hb hby hd) rfl q) K
theorem o_i2c (X : OW p l e R s m args below meth c Z y bytes mx ret n0 T h k n) {x : Int32} (hd : decode bytes pc = .ok (.i2c, 1))  (pc' : Nat) (hp : pc + 1 = pc') (K : OE p e R below s n0 Q T (mkF m pc' Ls (.int x.toUInt32.toUInt16.toUInt32.toInt32 :: st))) : OE p e R below s n0 Q T (mkF m pc Ls (.int x :: st)) := by
  obtain ⟨hx, hZ, hown, hby, hmx, hret, hnm, hlk, h0, hT, locs, S, N⟩ := X; subst hp
  exact OE.by (fun t q => XT.i2c S.here hx rfl (hb hby hd) rfl q) K
theorem o_dup (X : OW p l e R s m args below meth c Z y bytes mx ret n0 T h k n) {v : Value} (hd : decode bytes pc = .ok (.dup, 1)) (hc : v.category = 1) (pc' : Nat) (hp : pc + 1 = pc') (K : OE p e R below s n0 Q T (mkF m pc' Ls (v :: v :: st))) : OE p e R below s n0 Q T (mkF m pc Ls (v :: st)) := by
  obtain ⟨hx, hZ, hown, hby, hmx, hret, hnm, hlk, h0, hT, locs, S, N⟩ := X; subst hp
  exact OE.by (fun t q => XS.dup S.here hx rfl (hb hby hd) rfl hc q) K
theorem o_pop (X : OW p l e R s m args below meth c Z y bytes mx ret n0 T h k n) {v : Value} (hd : decode bytes pc = .ok (.pop, 1)) (hc : v.category = 1) (pc' : Nat) (hp : pc + 1 = pc') (K : OE p e R below s n0 Q T (mkF m pc' Ls st)) : OE p e R below s n0 Q T (mkF m pc Ls (v :: st)) := by
  obtain ⟨hx, hZ, hown, hby, hmx, hret, hnm, hlk, h0, hT, locs, S, N⟩ := X; subst hp
  exact OE.by (fun t q => XT.pop S.here hx rfl (hb hby hd) rfl hc q) K
theorem o_dupX1 (X : OW p l e R s m args below meth c Z y bytes mx ret n0 T h k n) {v w : Value} (hd : decode bytes pc = .ok (.dup_x1, 1)) (hc : v.category = 1) (hc' : w.category = 1) (pc' : Nat) (hp : pc + 1 = pc') (K : OE p e R below s n0 Q T (mkF m pc' Ls (v :: w :: v :: st))) : OE p e R below s n0 Q T (mkF m pc Ls (v :: w :: st)) := by
  obtain ⟨hx, hZ, hown, hby, hmx, hret, hnm, hlk, h0, hT, locs, S, N⟩ := X; subst hp
  exact OE.by (fun t q => XT.dupX1 S.here hx rfl (hb hby hd) rfl hc hc' q) K
theorem o_dup2 (X : OW p l e R s m args below meth c Z y bytes mx ret n0 T h k n) {v w : Value} (hd : decode bytes pc = .ok (.dup2, 1)) (hc : v.category = 1) (hc' : w.category = 1) (pc' : Nat) (hp : pc + 1 = pc') (K : OE p e R below s n0 Q T (mkF m pc' Ls (v :: w :: v :: w :: st))) : OE p e R below s n0 Q T (mkF m pc Ls (v :: w :: st)) := by
  obtain ⟨hx, hZ, hown, hby, hmx, hret, hnm, hlk, h0, hT, locs, S, N⟩ := X; subst hp
  exact OE.by (fun t q => XT.dup2 S.here hx rfl (hb hby hd) rfl hc hc' q) K
theorem o_istoreN (X : OW p l e R s m args below meth c Z y bytes mx ret n0 T h k n) {j : Fin 4} {v : Int32} (hd : decode bytes pc = .ok (.istore_n j, 1)) (Ls' : Array Slot) (hl : storeLocals Ls j.val (.int v) = some Ls') (pc' : Nat) (hp : pc + 1 = pc') (K : OE p e R below s n0 Q T (mkF m pc' Ls' st)) : OE p e R below s n0 Q T (mkF m pc Ls (.int v :: st)) := by
  obtain ⟨hx, hZ, hown, hby, hmx, hret, hnm, hlk, h0, hT, locs, S, N⟩ := X; subst hp
  exact OE.by (fun t q => XS.istoreN S.here hx rfl (hb hby hd) rfl hl q) K
theorem o_istore (X : OW p l e R s m args below meth c Z y bytes mx ret n0 T h k n) {j : Nat} {v : Int32} (hd : decode bytes pc = .ok (.istore j, 2)) (Ls' : Array Slot) (hl : storeLocals Ls j (.int v) = some Ls') (pc' : Nat) (hp : pc + 2 = pc') (K : OE p e R below s n0 Q T (mkF m pc' Ls' st)) : OE p e R below s n0 Q T (mkF m pc Ls (.int v :: st)) := by
  obtain ⟨hx, hZ, hown, hby, hmx, hret, hnm, hlk, h0, hT, locs, S, N⟩ := X; subst hp
  exact OE.by (fun t q => XS.istore S.here hx rfl (hb hby hd) rfl hl q) K
theorem o_lstoreN (X : OW p l e R s m args below meth c Z y bytes mx ret n0 T h k n) {j : Fin 4} {v : Int64} (hd : decode bytes pc = .ok (.lstore_n j, 1)) (Ls' : Array Slot) (hl : storeLocals Ls j.val (.long v) = some Ls') (pc' : Nat) (hp : pc + 1 = pc') (K : OE p e R below s n0 Q T (mkF m pc' Ls' st)) : OE p e R below s n0 Q T (mkF m pc Ls (.long v :: st)) := by
  obtain ⟨hx, hZ, hown, hby, hmx, hret, hnm, hlk, h0, hT, locs, S, N⟩ := X; subst hp
  exact OE.by (fun t q => XT.lstoreN S.here hx rfl (hb hby hd) rfl hl q) K
theorem o_lstore (X : OW p l e R s m args below meth c Z y bytes mx ret n0 T h k n) {j : Nat} {v : Int64} (hd : decode bytes pc = .ok (.lstore j, 2)) (Ls' : Array Slot) (hl : storeLocals Ls j (.long v) = some Ls') (pc' : Nat) (hp : pc + 2 = pc') (K : OE p e R below s n0 Q T (mkF m pc' Ls' st)) : OE p e R below s n0 Q T (mkF m pc Ls (.long v :: st)) := by
  obtain ⟨hx, hZ, hown, hby, hmx, hret, hnm, hlk, h0, hT, locs, S, N⟩ := X; subst hp
  exact OE.by (fun t q => XT.lstore S.here hx rfl (hb hby hd) rfl hl q) K
theorem o_astoreN (X : OW p l e R s m args below meth c Z y bytes mx ret n0 T h k n) {j : Fin 4} {v : Value} (hd : decode bytes pc = .ok (.astore_n j, 1)) (hv : v.isRef = true) (Ls' : Array Slot) (hl : storeLocals Ls j.val v = some Ls') (pc' : Nat) (hp : pc + 1 = pc') (K : OE p e R below s n0 Q T (mkF m pc' Ls' st)) : OE p e R below s n0 Q T (mkF m pc Ls (v :: st)) := by
  obtain ⟨hx, hZ, hown, hby, hmx, hret, hnm, hlk, h0, hT, locs, S, N⟩ := X; subst hp
  exact OE.by (fun t q => XS.astoreN S.here hx rfl (hb hby hd) rfl hv hl q) K
theorem o_astore (X : OW p l e R s m args below meth c Z y bytes mx ret n0 T h k n) {j : Nat} {v : Value} (hd : decode bytes pc = .ok (.astore j, 2)) (hv : v.isRef = true) (Ls' : Array Slot) (hl : storeLocals Ls j v = some Ls') (pc' : Nat) (hp : pc + 2 = pc') (K : OE p e R below s n0 Q T (mkF m pc' Ls' st)) : OE p e R below s n0 Q T (mkF m pc Ls (v :: st)) := by
  obtain ⟨hx, hZ, hown, hby, hmx, hret, hnm, hlk, h0, hT, locs, S, N⟩ := X; subst hp
  exact OE.by (fun t q => XS.astore S.here hx rfl (hb hby hd) rfl hv hl q) K
theorem o_iinc (X : OW p l e R s m args below meth c Z y bytes mx ret n0 T h k n) {j : Nat} {i : Int} {v w : Int32} (hd : decode bytes pc = .ok (.iinc j i, 3)) (hg : Ls[j]? = some (.val (.int v))) (hw : v + Int32.ofInt i = w) (Ls' : Array Slot) (hl : storeLocals Ls j (.int w) = some Ls') (pc' : Nat) (hp : pc + 3 = pc') (K : OE p e R below s n0 Q T (mkF m pc' Ls' st)) : OE p e R below s n0 Q T (mkF m pc Ls st) := by
  obtain ⟨hx, hZ, hown, hby, hmx, hret, hnm, hlk, h0, hT, locs, S, N⟩ := X; subst hp hw
  exact OE.by (fun t q => XS.iinc S.here hx rfl (hb hby hd) hg hl q) K
theorem o_goto (X : OW p l e R s m args below meth c Z y bytes mx ret n0 T h k n) {o : Int} (hd : decode bytes pc = .ok (.goto o, 3)) (pc' : Nat) (ho : 0 ≤ (pc : Int) + o) (hp : ((pc : Int) + o).toNat = pc') (K : OE p e R below s n0 Q T (mkF m pc' Ls st)) : OE p e R below s n0 Q T (mkF m pc Ls st) := by
  obtain ⟨hx, hZ, hown, hby, hmx, hret, hnm, hlk, h0, hT, locs, S, N⟩ := X
  exact OE.by (fun t q => XS.goto S.here hx rfl rfl (hb hby hd) ho hp q) K
theorem o_icmpEq (X : OW p l e R s m args below meth c Z y bytes mx ret n0 T h k n) {o : Int} {x z : Int32} (hd : decode bytes pc = .ok (.if_icmp .eq o, 3)) (pcT pcF : Nat) (ho : 0 ≤ (pc : Int) + o) (hT : ((pc : Int) + o).toNat = pcT) (hF : pc + 3 = pcF) (KT : x = z → OE p e R below s n0 Q T (mkF m pcT Ls st)) (KF : ¬ x = z → OE p e R below s n0 Q T (mkF m pcF Ls st)) : OE p e R below s n0 Q T (mkF m pc Ls (.int z :: .int x :: st)) := by
  obtain ⟨hx, hZ, hown, hby, hmx, hret, hnm, hlk, h0, hT', locs, S, N⟩ := X; subst hF
  by_cases q : x = z
  · exact OE.by (fun t r => XS.icmpYes S.here hx rfl rfl (hb hby hd) rfl ((teq q).1) ho hT r) (KT q)
  · exact OE.by (fun t r => XS.icmpNo S.here hx rfl (hb hby hd) rfl ((feq q).1) r) (KF q)
theorem o_ifEq (X : OW p l e R s m args below meth c Z y bytes mx ret n0 T h k n) {o : Int} {x : Int32} (hd : decode bytes pc = .ok (.ifCond .eq o, 3)) (pcT pcF : Nat) (ho : 0 ≤ (pc : Int) + o) (hT : ((pc : Int) + o).toNat = pcT) (hF : pc + 3 = pcF) (KT : x = 0 → OE p e R below s n0 Q T (mkF m pcT Ls st)) (KF : ¬ x = 0 → OE p e R below s n0 Q T (mkF m pcF Ls st)) : OE p e R below s n0 Q T (mkF m pc Ls (.int x :: st)) := by
  obtain ⟨hx, hZ, hown, hby, hmx, hret, hnm, hlk, h0, hT', locs, S, N⟩ := X; subst hF
  by_cases q : x = 0
  · exact OE.by (fun t r => XS.ifYes S.here hx rfl rfl (hb hby hd) rfl ((if0 _ _).trans (teq q).1) ho hT r) (KT q)
  · exact OE.by (fun t r => XS.ifNo S.here hx rfl (hb hby hd) rfl ((if0 _ _).trans (feq q).1) r) (KF q)
theorem o_icmpNe (X : OW p l e R s m args below meth c Z y bytes mx ret n0 T h k n) {o : Int} {x z : Int32} (hd : decode bytes pc = .ok (.if_icmp .ne o, 3)) (pcT pcF : Nat) (ho : 0 ≤ (pc : Int) + o) (hT : ((pc : Int) + o).toNat = pcT) (hF : pc + 3 = pcF) (KT : ¬ x = z → OE p e R below s n0 Q T (mkF m pcT Ls st)) (KF : x = z → OE p e R below s n0 Q T (mkF m pcF Ls st)) : OE p e R below s n0 Q T (mkF m pc Ls (.int z :: .int x :: st)) := by
  obtain ⟨hx, hZ, hown, hby, hmx, hret, hnm, hlk, h0, hT', locs, S, N⟩ := X; subst hF
  by_cases q : x = z
  · exact OE.by (fun t r => XS.icmpNo S.here hx rfl (hb hby hd) rfl ((teq q).2) r) (KF q)
  · exact OE.by (fun t r => XS.icmpYes S.here hx rfl rfl (hb hby hd) rfl ((feq q).2) ho hT r) (KT q)
theorem o_ifNe (X : OW p l e R s m args below meth c Z y bytes mx ret n0 T h k n) {o : Int} {x : Int32} (hd : decode bytes pc = .ok (.ifCond .ne o, 3)) (pcT pcF : Nat) (ho : 0 ≤ (pc : Int) + o) (hT : ((pc : Int) + o).toNat = pcT) (hF : pc + 3 = pcF) (KT : ¬ x = 0 → OE p e R below s n0 Q T (mkF m pcT Ls st)) (KF : x = 0 → OE p e R below s n0 Q T (mkF m pcF Ls st)) : OE p e R below s n0 Q T (mkF m pc Ls (.int x :: st)) := by
  obtain ⟨hx, hZ, hown, hby, hmx, hret, hnm, hlk, h0, hT', locs, S, N⟩ := X; subst hF
  by_cases q : x = 0
  · exact OE.by (fun t r => XS.ifNo S.here hx rfl (hb hby hd) rfl ((if0 _ _).trans (teq q).2) r) (KF q)
  · exact OE.by (fun t r => XS.ifYes S.here hx rfl rfl (hb hby hd) rfl ((if0 _ _).trans (feq q).2) ho hT r) (KT q)
theorem o_icmpLt (X : OW p l e R s m args below meth c Z y bytes mx ret n0 T h k n) {o : Int} {x z : Int32} (hd : decode bytes pc = .ok (.if_icmp .lt o, 3)) (pcT pcF : Nat) (ho : 0 ≤ (pc : Int) + o) (hT : ((pc : Int) + o).toNat = pcT) (hF : pc + 3 = pcF) (KT : x < z → OE p e R below s n0 Q T (mkF m pcT Ls st)) (KF : ¬ x < z → OE p e R below s n0 Q T (mkF m pcF Ls st)) : OE p e R below s n0 Q T (mkF m pc Ls (.int z :: .int x :: st)) := by
  obtain ⟨hx, hZ, hown, hby, hmx, hret, hnm, hlk, h0, hT', locs, S, N⟩ := X; subst hF
  by_cases q : x < z
  · exact OE.by (fun t r => XS.icmpYes S.here hx rfl rfl (hb hby hd) rfl ((tlt q).1) ho hT r) (KT q)
  · exact OE.by (fun t r => XS.icmpNo S.here hx rfl (hb hby hd) rfl ((flt q).1) r) (KF q)
theorem o_ifLt (X : OW p l e R s m args below meth c Z y bytes mx ret n0 T h k n) {o : Int} {x : Int32} (hd : decode bytes pc = .ok (.ifCond .lt o, 3)) (pcT pcF : Nat) (ho : 0 ≤ (pc : Int) + o) (hT : ((pc : Int) + o).toNat = pcT) (hF : pc + 3 = pcF) (KT : x < 0 → OE p e R below s n0 Q T (mkF m pcT Ls st)) (KF : ¬ x < 0 → OE p e R below s n0 Q T (mkF m pcF Ls st)) : OE p e R below s n0 Q T (mkF m pc Ls (.int x :: st)) := by
  obtain ⟨hx, hZ, hown, hby, hmx, hret, hnm, hlk, h0, hT', locs, S, N⟩ := X; subst hF
  by_cases q : x < 0
  · exact OE.by (fun t r => XS.ifYes S.here hx rfl rfl (hb hby hd) rfl ((if0 _ _).trans (tlt q).1) ho hT r) (KT q)
  · exact OE.by (fun t r => XS.ifNo S.here hx rfl (hb hby hd) rfl ((if0 _ _).trans (flt q).1) r) (KF q)
theorem o_icmpGe (X : OW p l e R s m args below meth c Z y bytes mx ret n0 T h k n) {o : Int} {x z : Int32} (hd : decode bytes pc = .ok (.if_icmp .ge o, 3)) (pcT pcF : Nat) (ho : 0 ≤ (pc : Int) + o) (hT : ((pc : Int) + o).toNat = pcT) (hF : pc + 3 = pcF) (KT : ¬ x < z → OE p e R below s n0 Q T (mkF m pcT Ls st)) (KF : x < z → OE p e R below s n0 Q T (mkF m pcF Ls st)) : OE p e R below s n0 Q T (mkF m pc Ls (.int z :: .int x :: st)) := by
  obtain ⟨hx, hZ, hown, hby, hmx, hret, hnm, hlk, h0, hT', locs, S, N⟩ := X; subst hF
  by_cases q : x < z
  · exact OE.by (fun t r => XS.icmpNo S.here hx rfl (hb hby hd) rfl ((tlt q).2.1) r) (KF q)
  · exact OE.by (fun t r => XS.icmpYes S.here hx rfl rfl (hb hby hd) rfl ((flt q).2.1) ho hT r) (KT q)
theorem o_ifGe (X : OW p l e R s m args below meth c Z y bytes mx ret n0 T h k n) {o : Int} {x : Int32} (hd : decode bytes pc = .ok (.ifCond .ge o, 3)) (pcT pcF : Nat) (ho : 0 ≤ (pc : Int) + o) (hT : ((pc : Int) + o).toNat = pcT) (hF : pc + 3 = pcF) (KT : ¬ x < 0 → OE p e R below s n0 Q T (mkF m pcT Ls st)) (KF : x < 0 → OE p e R below s n0 Q T (mkF m pcF Ls st)) : OE p e R below s n0 Q T (mkF m pc Ls (.int x :: st)) := by
  obtain ⟨hx, hZ, hown, hby, hmx, hret, hnm, hlk, h0, hT', locs, S, N⟩ := X; subst hF
  by_cases q : x < 0
  · exact OE.by (fun t r => XS.ifNo S.here hx rfl (hb hby hd) rfl ((if0 _ _).trans (tlt q).2.1) r) (KF q)
  · exact OE.by (fun t r => XS.ifYes S.here hx rfl rfl (hb hby hd) rfl ((if0 _ _).trans (flt q).2.1) ho hT r) (KT q)
theorem o_icmpGt (X : OW p l e R s m args below meth c Z y bytes mx ret n0 T h k n) {o : Int} {x z : Int32} (hd : decode bytes pc = .ok (.if_icmp .gt o, 3)) (pcT pcF : Nat) (ho : 0 ≤ (pc : Int) + o) (hT : ((pc : Int) + o).toNat = pcT) (hF : pc + 3 = pcF) (KT : z < x → OE p e R below s n0 Q T (mkF m pcT Ls st)) (KF : ¬ z < x → OE p e R below s n0 Q T (mkF m pcF Ls st)) : OE p e R below s n0 Q T (mkF m pc Ls (.int z :: .int x :: st)) := by
  obtain ⟨hx, hZ, hown, hby, hmx, hret, hnm, hlk, h0, hT', locs, S, N⟩ := X; subst hF
  by_cases q : z < x
  · exact OE.by (fun t r => XS.icmpYes S.here hx rfl rfl (hb hby hd) rfl ((tlt q).2.2.1) ho hT r) (KT q)
  · exact OE.by (fun t r => XS.icmpNo S.here hx rfl (hb hby hd) rfl ((flt q).2.2.1) r) (KF q)
theorem o_ifGt (X : OW p l e R s m args below meth c Z y bytes mx ret n0 T h k n) {o : Int} {x : Int32} (hd : decode bytes pc = .ok (.ifCond .gt o, 3)) (pcT pcF : Nat) (ho : 0 ≤ (pc : Int) + o) (hT : ((pc : Int) + o).toNat = pcT) (hF : pc + 3 = pcF) (KT : 0 < x → OE p e R below s n0 Q T (mkF m pcT Ls st)) (KF : ¬ 0 < x → OE p e R below s n0 Q T (mkF m pcF Ls st)) : OE p e R below s n0 Q T (mkF m pc Ls (.int x :: st)) := by
  obtain ⟨hx, hZ, hown, hby, hmx, hret, hnm, hlk, h0, hT', locs, S, N⟩ := X; subst hF
  by_cases q : 0 < x
  · exact OE.by (fun t r => XS.ifYes S.here hx rfl rfl (hb hby hd) rfl ((if0 _ _).trans (tlt q).2.2.1) ho hT r) (KT q)
  · exact OE.by (fun t r => XS.ifNo S.here hx rfl (hb hby hd) rfl ((if0 _ _).trans (flt q).2.2.1) r) (KF q)
theorem o_icmpLe (X : OW p l e R s m args below meth c Z y bytes mx ret n0 T h k n) {o : Int} {x z : Int32} (hd : decode bytes pc = .ok (.if_icmp .le o, 3)) (pcT pcF : Nat) (ho : 0 ≤ (pc : Int) + o) (hT : ((pc : Int) + o).toNat = pcT) (hF : pc + 3 = pcF) (KT : ¬ z < x → OE p e R below s n0 Q T (mkF m pcT Ls st)) (KF : z < x → OE p e R below s n0 Q T (mkF m pcF Ls st)) : OE p e R below s n0 Q T (mkF m pc Ls (.int z :: .int x :: st)) := by
  obtain ⟨hx, hZ, hown, hby, hmx, hret, hnm, hlk, h0, hT', locs, S, N⟩ := X; subst hF
  by_cases q : z < x
  · exact OE.by (fun t r => XS.icmpNo S.here hx rfl (hb hby hd) rfl ((tlt q).2.2.2) r) (KF q)
  · exact OE.by (fun t r => XS.icmpYes S.here hx rfl rfl (hb hby hd) rfl ((flt q).2.2.2) ho hT r) (KT q)
theorem o_ifLe (X : OW p l e R s m args below meth c Z y bytes mx ret n0 T h k n) {o : Int} {x : Int32} (hd : decode bytes pc = .ok (.ifCond .le o, 3)) (pcT pcF : Nat) (ho : 0 ≤ (pc : Int) + o) (hT : ((pc : Int) + o).toNat = pcT) (hF : pc + 3 = pcF) (KT : ¬ 0 < x → OE p e R below s n0 Q T (mkF m pcT Ls st)) (KF : 0 < x → OE p e R below s n0 Q T (mkF m pcF Ls st)) : OE p e R below s n0 Q T (mkF m pc Ls (.int x :: st)) := by
  obtain ⟨hx, hZ, hown, hby, hmx, hret, hnm, hlk, h0, hT', locs, S, N⟩ := X; subst hF
  by_cases q : 0 < x
  · exact OE.by (fun t r => XS.ifNo S.here hx rfl (hb hby hd) rfl ((if0 _ _).trans (tlt q).2.2.2) r) (KF q)
  · exact OE.by (fun t r => XS.ifYes S.here hx rfl rfl (hb hby hd) rfl ((if0 _ _).trans (flt q).2.2.2) ho hT r) (KT q)
theorem o_ifnullR (X : OW p l e R s m args below meth c Z y bytes mx ret n0 T h k n) {o : Int} {a : Addr} (hd : decode bytes pc = .ok (.ifnull o, 3)) (pc' : Nat) (hp : pc + 3 = pc') (K : OE p e R below s n0 Q T (mkF m pc' Ls st)) : OE p e R below s n0 Q T (mkF m pc Ls (.ref a :: st)) := by
  obtain ⟨hx, hZ, hown, hby, hmx, hret, hnm, hlk, h0, hT, locs, S, N⟩ := X; subst hp
  exact OE.by (fun t q => XS.ifnullNo S.here hx rfl (hb hby hd) rfl q) K
theorem o_ifnonnullR (X : OW p l e R s m args below meth c Z y bytes mx ret n0 T h k n) {o : Int} {a : Addr} (hd : decode bytes pc = .ok (.ifnonnull o, 3)) (pc' : Nat) (ho : 0 ≤ (pc : Int) + o) (hp : ((pc : Int) + o).toNat = pc') (K : OE p e R below s n0 Q T (mkF m pc' Ls st)) : OE p e R below s n0 Q T (mkF m pc Ls (.ref a :: st)) := by
  obtain ⟨hx, hZ, hown, hby, hmx, hret, hnm, hlk, h0, hT, locs, S, N⟩ := X
  exact OE.by (fun t q => XT.ifnonnullYes S.here hx rfl rfl (hb hby hd) rfl ho hp q) K
theorem o_acmpEqN (X : OW p l e R s m args below meth c Z y bytes mx ret n0 T h k n) {o : Int} {a b : Addr} (hd : decode bytes pc = .ok (.if_acmp .eq o, 3)) (hab : a ≠ b) (pc' : Nat) (hp : pc + 3 = pc') (K : OE p e R below s n0 Q T (mkF m pc' Ls st)) : OE p e R below s n0 Q T (mkF m pc Ls (.ref b :: .ref a :: st)) := by
  obtain ⟨hx, hZ, hown, hby, hmx, hret, hnm, hlk, h0, hT, locs, S, N⟩ := X; subst hp
  exact OE.by (fun t q => XT.acmpNo S.here hx rfl (hb hby hd) rfl rfl rfl (decide_eq_false fun r => hab (Value.ref.inj r)) q) K
theorem o_acmpNeY (X : OW p l e R s m args below meth c Z y bytes mx ret n0 T h k n) {o : Int} {a b : Addr} (hd : decode bytes pc = .ok (.if_acmp .ne o, 3)) (hab : a ≠ b) (pc' : Nat) (ho : 0 ≤ (pc : Int) + o) (hp : ((pc : Int) + o).toNat = pc') (K : OE p e R below s n0 Q T (mkF m pc' Ls st)) : OE p e R below s n0 Q T (mkF m pc Ls (.ref b :: .ref a :: st)) := by
  obtain ⟨hx, hZ, hown, hby, hmx, hret, hnm, hlk, h0, hT, locs, S, N⟩ := X
  exact OE.by (fun t q => XT.acmpYes S.here hx rfl rfl (hb hby hd) rfl rfl rfl (decide_eq_true fun r => hab (Value.ref.inj r)) ho hp q) K
theorem o_ldc (X : OW p l e R s m args below meth c Z y bytes mx ret n0 T h k n) {i : Nat} {v : Int32} (hd : decode bytes pc = .ok (.ldc i, 2)) (w : (Cond.constant y.cls i v).before a0 Z = true) (pc' : Nat) (hp : pc + 2 = pc') (K : OE p e R below s n0 Q T (mkF m pc' Ls (.int v :: st))) : OE p e R below s n0 Q T (mkF m pc Ls st) := by
  obtain ⟨hx, hZ, hown, hby, hmx, hret, hnm, hlk, h0, hT, locs, S, N⟩ := X; subst hp
  exact OE.by (fun t q => S.ldcInt hx hown (mvT hZ w) (g := mkF m pc Ls st) rfl (hb hby hd) t q) K
theorem o_ldc2L (X : OW p l e R s m args below meth c Z y bytes mx ret n0 T h k n) {i : Nat} {v : Int64} (hd : decode bytes pc = .ok (.ldc2_w i, 3)) (w : (Cond.constantLong y.cls i v).before a0 Z = true) (pc' : Nat) (hp : pc + 3 = pc') (K : OE p e R below s n0 Q T (mkF m pc' Ls (.long v :: st))) : OE p e R below s n0 Q T (mkF m pc Ls st) := by
  obtain ⟨hx, hZ, hown, hby, hmx, hret, hnm, hlk, h0, hT, locs, S, N⟩ := X; subst hp
  exact OE.by (fun t q => S.ldc2Long hx hown (mvT hZ w) (g := mkF m pc Ls st) rfl (hb hby hd) t q) K
theorem o_retZ (X : OW p l e R s m args below meth c Z y bytes mx (some .boolean) n0 T h k n) {z : Int32} (hd : decode bytes pc = .ok (.ireturn, 1)) (hk : k ≤ R.cells) (hn : n ≤ R.slots) (hq : Q (some (.int (nar .boolean z))) h) : OE p e R below s n0 Q T (mkF m pc Ls (.int z :: st)) := by
  obtain ⟨hx, hZ, hown, hby, hmx, hret, hnm, hlk, h0, hT, locs, S, N⟩ := X
  obtain ⟨fs, hr, hrun, hended, hW, hsame⟩ := S.leave (v := some (.int (nar .boolean z))) (fun q => by rw [hret] at q; cases q) hlk
  exact ⟨_, _, retN S hx (t := .boolean) hret (by simp) (hb hby hd) hr, hrun, hended, _, _, rfl, ⟨by show Q _ T.heap; rw [hT]; exact hq, N⟩, ⟨_, rfl⟩, hW, hsame.mono hk hn⟩
theorem o_retB (X : OW p l e R s m args below meth c Z y bytes mx (some .byte) n0 T h k n) {z : Int32} (hd : decode bytes pc = .ok (.ireturn, 1)) (hk : k ≤ R.cells) (hn : n ≤ R.slots) (hq : Q (some (.int (nar .byte z))) h) : OE p e R below s n0 Q T (mkF m pc Ls (.int z :: st)) := by
  obtain ⟨hx, hZ, hown, hby, hmx, hret, hnm, hlk, h0, hT, locs, S, N⟩ := X
  obtain ⟨fs, hr, hrun, hended, hW, hsame⟩ := S.leave (v := some (.int (nar .byte z))) (fun q => by rw [hret] at q; cases q) hlk
  exact ⟨_, _, retN S hx (t := .byte) hret (by simp) (hb hby hd) hr, hrun, hended, _, _, rfl, ⟨by show Q _ T.heap; rw [hT]; exact hq, N⟩, ⟨_, rfl⟩, hW, hsame.mono hk hn⟩
theorem o_retC (X : OW p l e R s m args below meth c Z y bytes mx (some .char) n0 T h k n) {z : Int32} (hd : decode bytes pc = .ok (.ireturn, 1)) (hk : k ≤ R.cells) (hn : n ≤ R.slots) (hq : Q (some (.int (nar .char z))) h) : OE p e R below s n0 Q T (mkF m pc Ls (.int z :: st)) := by
  obtain ⟨hx, hZ, hown, hby, hmx, hret, hnm, hlk, h0, hT, locs, S, N⟩ := X
  obtain ⟨fs, hr, hrun, hended, hW, hsame⟩ := S.leave (v := some (.int (nar .char z))) (fun q => by rw [hret] at q; cases q) hlk
  exact ⟨_, _, retN S hx (t := .char) hret (by simp) (hb hby hd) hr, hrun, hended, _, _, rfl, ⟨by show Q _ T.heap; rw [hT]; exact hq, N⟩, ⟨_, rfl⟩, hW, hsame.mono hk hn⟩
theorem o_retI (X : OW p l e R s m args below meth c Z y bytes mx (some .int) n0 T h k n) {z : Int32} (hd : decode bytes pc = .ok (.ireturn, 1)) (hk : k ≤ R.cells) (hn : n ≤ R.slots) (hq : Q (some (.int z)) h) : OE p e R below s n0 Q T (mkF m pc Ls (.int z :: st)) := by
  obtain ⟨hx, hZ, hown, hby, hmx, hret, hnm, hlk, h0, hT, locs, S, N⟩ := X
  obtain ⟨fs, hr, hrun, hended, hW, hsame⟩ := S.leave (v := some (.int z)) (fun q => by rw [hret] at q; cases q) hlk
  exact ⟨_, _, retOut S hx hret rfl (Or.inl ⟨rfl, Or.inl rfl, z, rfl⟩) (hb hby hd) hr, hrun, hended, _, _, rfl, ⟨by show Q _ T.heap; rw [hT]; exact hq, N⟩, ⟨_, rfl⟩, hW, hsame.mono hk hn⟩
theorem o_retJ (X : OW p l e R s m args below meth c Z y bytes mx (some .long) n0 T h k n) {z : Int64} (hd : decode bytes pc = .ok (.lreturn, 1)) (hk : k ≤ R.cells) (hn : n ≤ R.slots) (hq : Q (some (.long z)) h) : OE p e R below s n0 Q T (mkF m pc Ls (.long z :: st)) := by
  obtain ⟨hx, hZ, hown, hby, hmx, hret, hnm, hlk, h0, hT, locs, S, N⟩ := X
  obtain ⟨fs, hr, hrun, hended, hW, hsame⟩ := S.leave (v := some (.long z)) (fun q => by rw [hret] at q; cases q) hlk
  exact ⟨_, _, retOut S hx hret rfl (Or.inr (Or.inl ⟨rfl, rfl, z, rfl⟩)) (hb hby hd) hr, hrun, hended, _, _, rfl, ⟨by show Q _ T.heap; rw [hT]; exact hq, N⟩, ⟨_, rfl⟩, hW, hsame.mono hk hn⟩
theorem o_retA {ty : FieldType} (X : OW p l e R s m args below meth c Z y bytes mx (some ty) n0 T h k n) (hty : ty.isReference = true) {a : Addr} (hnar : narrow ty (.ref a) = .ref a) (hd : decode bytes pc = .ok (.areturn, 1)) (hk : k ≤ R.cells) (hn : n ≤ R.slots) (hq : Q (some (.ref a)) h) : OE p e R below s n0 Q T (mkF m pc Ls (.ref a :: st)) := by
  obtain ⟨hx, hZ, hown, hby, hmx, hret, hnm, hlk, h0, hT, locs, S, N⟩ := X
  obtain ⟨fs, hr, hrun, hended, hW, hsame⟩ := S.leave (v := some (.ref a)) (fun q => by rw [hret] at q; cases q) hlk
  exact ⟨_, _, retOut S hx hret hnar (Or.inr (Or.inr (Or.inr (Or.inr ⟨rfl, hty, rfl⟩)))) (hb hby hd) hr, hrun, hended, _, _, rfl, ⟨by show Q _ T.heap; rw [hT]; exact hq, N⟩, ⟨_, rfl⟩, hW, hsame.mono hk hn⟩
theorem o_ret (X : OW p l e R s m args below meth c Z y bytes mx none n0 T h k n) (hd : decode bytes pc = .ok (.return_, 1)) (hk : k ≤ R.cells) (hn : n ≤ R.slots) (hq : Q none h) : OE p e R below s n0 Q T (mkF m pc Ls []) := by
  obtain ⟨hx, hZ, hown, hby, hmx, hret, hnm, hlk, h0, hT, locs, S, N⟩ := X
  obtain ⟨fs, hr, hrun, hended, hW, hsame⟩ := S.leave (v := none) (fun _ => rfl) hlk
  exact ⟨_, _, S.returnOut hx hret (hb hby hd) hr, hrun, hended, _, _, rfl, ⟨by show Q _ T.heap; rw [hT]; exact hq, N⟩, ⟨_, rfl⟩, hW, hsame.mono hk hn⟩
/-! the heap: a list of places, each with what its cell says -/
def OA (Z : State) (ty : FieldType) (vs : List Int32) (c : Cell) : Prop := Z.isArrayOf c ty ∧ c.vm ≠ .unknown ∧ c.slots = (vs.map Value.int).toArray ∧ (∀ x ∈ vs, fits ty (.int x) = true) ∧ Z.vm.findClass ("[" ++ ty.toString) = some c.cls
def OL (n0 : Nat) (h : Heap) (L : List (Addr × (Cell → Prop))) : Prop := (L.map (·.1)).Nodup ∧ ∀ q ∈ L, n0 ≤ q.1 ∧ ∃ c : Cell, h[q.1]? = some c ∧ q.2 c
variable {L : List (Addr × (Cell → Prop))} {h' : Heap} {a : Addr} {ty : FieldType} {vs : List Int32} {PP : Cell → Prop}
theorem OL.nil : OL n0 h [] := ⟨List.nodup_nil, fun _ q => nomatch q⟩
theorem OL.ext (H : OL n0 h L) (E : Ext h h') : OL n0 h' L := ⟨H.1, fun q hq => by obtain ⟨h1, c, h2, h3⟩ := H.2 q hq; exact ⟨h1, c, E.2 _ _ h2, h3⟩⟩
theorem OL.lt (H : OL n0 h L) {q : Addr × (Cell → Prop)} (hq : q ∈ L) : q.1 < h.size := by obtain ⟨-, c, h2, -⟩ := H.2 q hq; exact (Array.getElem?_eq_some_iff.mp h2).1
theorem OL.push (H : OL n0 h L) (E : Ext h h') (h0 : n0 ≤ h.size) {c : Cell} (hc : h'[h.size]? = some c) (hp : PP c) : OL n0 h' ((h.size, PP) :: L) := by
  refine ⟨?_, fun q hq => ?_⟩
  · rw [List.map_cons, List.nodup_cons]
    refine ⟨fun hx => ?_, H.1⟩
    obtain ⟨q, hq, e⟩ := List.mem_map.mp hx
    have e' : q.1 = h.size := e
    exact absurd (H.lt hq) (by rw [e']; exact Nat.lt_irrefl _)
  · rcases List.mem_cons.mp hq with hq | hq
    · cases hq; exact ⟨h0, c, hc, hp⟩
    · exact (H.ext E).2 q hq
theorem OL.perm {L' : List (Addr × (Cell → Prop))} (H : OL n0 h L) (q : L.Perm L') : OL n0 h L' := ⟨(q.map (·.1)).nodup_iff.mp H.1, fun z hz => H.2 z (q.mem_iff.mpr hz)⟩
/-- the i-th place comes to the front -/
theorem OL.front (H : OL n0 h L) (i : Nat) {q : Addr × (Cell → Prop)} (hi : L[i]? = some q) : OL n0 h (q :: L.eraseIdx i) := by
  obtain ⟨hl, e⟩ := List.getElem?_eq_some_iff.mp hi
  refine H.perm ?_
  have e1 : L = L.take i ++ q :: L.drop (i + 1) := by rw [← e, List.getElem_cons_drop]; exact (List.take_append_drop i L).symm
  have e2 : L.eraseIdx i = L.take i ++ L.drop (i + 1) := List.eraseIdx_eq_take_drop_succ L i
  rw [e2]
  exact (List.Perm.of_eq e1).trans List.perm_middle
theorem OL.get (H : OL n0 h L) {i : Nat} (hi : L[i]? = some (a, PP)) : n0 ≤ a ∧ ∃ c : Cell, h[a]? = some c ∧ PP c := H.2 (a, PP) (List.mem_of_getElem? hi)
theorem OL.ne (H : OL n0 h L) {i j : Nat} {b : Addr} {PB : Cell → Prop} (hi : L[i]? = some (a, PP)) (hj : L[j]? = some (b, PB)) (hij : i ≠ j) : a ≠ b := by
  intro e; subst e
  have h1 : (L.map (·.1))[i]? = some a := by simp [hi]
  have h2 : (L.map (·.1))[j]? = some a := by simp [hj]
  obtain ⟨l1, -⟩ := List.getElem?_eq_some_iff.mp h1
  exact hij ((List.getElem?_inj l1 H.1).mp (h1.trans h2.symm))
theorem OL.wr (H : OL n0 h L) {i sl : Nat} {v : Value} {P' : Cell → Prop} (hi : L[i]? = some (a, PP)) (W : Wr h h' a sl v) (hP : ∀ c : Cell, h[a]? = some c → PP c → P' (c.setSlot sl v)) : OL n0 h' (L.set i (a, P')) := by
  have hmap : (L.set i (a, P')).map (·.1) = L.map (·.1) := by
    apply List.ext_getElem?
    intro j
    simp only [List.getElem?_map, List.getElem?_set]
    split
    · rename_i e; subst e; rw [if_pos (List.getElem?_eq_some_iff.mp hi).1, hi]; rfl
    · rfl
  refine ⟨by rw [hmap]; exact H.1, fun q hq => ?_⟩
  obtain ⟨j, hj⟩ := List.getElem?_of_mem hq
  rw [List.getElem?_set] at hj
  split at hj
  · rename_i e; subst e
    split at hj
    · cases hj
      obtain ⟨h1, c, h2, h3⟩ := H.get hi
      obtain ⟨c', e1, -, -, -, -, -, e7⟩ := wr_at W h2
      exact ⟨h1, c', e1, by rw [(e7 rfl).1]; exact hP c h2 h3⟩
    · cases hj
  · rename_i e
    obtain ⟨b, PB⟩ := q
    obtain ⟨h1, c, h2, h3⟩ := H.get hj
    obtain ⟨c', e1, -, -, -, e5, -⟩ := wr_at W h2
    have := e5 (H.ne hj hi (fun r => e r.symm))
    subst this
    exact ⟨h1, c', e1, h3⟩
theorem OA.set {c : Cell} {j : Nat} {x : Int32} (A : OA Z ty vs c) (hf : fits ty (.int x) = true) : OA Z ty (vs.set j x) (c.setSlot j (.int x)) := by
  obtain ⟨h1, h2, h3, h4, h5⟩ := A
  refine ⟨h1, h2, ?_, fun z hz => ?_, h5⟩
  · show c.slots.setIfInBounds j (.int x) = _
    rw [h3]; simp [List.map_set]
  · rcases List.mem_or_eq_of_mem_set hz with q | q
    · exact h4 z q
    · rw [q]; exact hf
theorem OA.new {k : ClassId} {z : Int32} {N : Nat} (hN : z.toInt = N) (hd : defaultValue ty = .int 0) (hf : fits ty (.int 0) = true) (A : Arr Z h a (newA k ty z) ty) (E : Exa Z h a ("[" ++ ty.toString)) : OA Z ty (List.replicate N 0) (newA k ty z) := by
  obtain ⟨c, kk, e1, e2, -⟩ := E
  cases A.1.symm.trans e1
  refine ⟨A.2.1, A.2.2, ?_, fun x hx => by rw [List.eq_of_mem_replicate hx]; exact hf, e2⟩
  have e : z.toNatClampNeg = N := by simp only [Int32.toNatClampNeg, hN]; rfl
  show Array.replicate z.toNatClampNeg (defaultValue ty) = _
  rw [e, hd]; simp
theorem o_idx {j : Int32} {i N : Nat} (hj : j.toInt = i) (hi : i < N) : ¬ (j < 0 ∨ N ≤ j.toNatClampNeg) ∧ j.toNatClampNeg = i := by
  have e : j.toNatClampNeg = i := by simp only [Int32.toNatClampNeg, hj]; rfl
  refine ⟨?_, e⟩
  rw [e, Int32.lt_iff_toInt_lt, hj, show (0 : Int32).toInt = 0 from rfl]; omega
theorem OA.size {c : Cell} (A : OA Z ty vs c) : c.slots.size = vs.length := by rw [A.2.2.1]; simp
theorem o_newarray (X : OW p l e R s m args below meth c Z y bytes mx ret n0 T h k n) (H : OL n0 h L) {aty : ArrayType} (hd : decode bytes pc = .ok (.newarray aty, 2)) (w : (Cond.arrayClass (newarray.typeOf aty)).before a0 Z = true) (hdv : defaultValue (newarray.typeOf aty) = .int 0) (hfv : fits (newarray.typeOf aty) (.int 0) = true) {z : Int32} (N cap : Nat) (hN : z.toInt = N) (hcap : N ≤ cap) (hb8 : cap * 8 ≤ 536870912) (k2 n2 : Nat) (hk2 : k + 1 = k2) (hn2 : n + cap = n2) (hc : k2 ≤ R.cells) (hl : n2 ≤ R.slots) (pc' : Nat) (hp : pc + 2 = pc')
    (K : ∀ T' h' a, OW p l e R s m args below meth c Z y bytes mx ret n0 T' h' k2 n2 → OL n0 h' ((a, OA Z (newarray.typeOf aty) (List.replicate N 0)) :: L) → OE p e R below s n0 Q T' (mkF m pc' Ls (.ref a :: st))) : OE p e R below s n0 Q T (mkF m pc Ls (.int z :: st)) := by
  have h0 := X.size
  obtain ⟨hx, hZ, hown, hby, hmx, hret, hnm, hlk, hn0, hT, locs, S, N0⟩ := X; subst hp hk2 hn2
  obtain ⟨T', h', cA, S', hT', E, A, EX, stp⟩ := newPE S hx hZ w hT (g := mkF m pc Ls (.int z :: st)) rfl (hb hby hd) rfl (by rw [Int32.lt_iff_toInt_lt, hN, show (0 : Int32).toInt = 0 from rfl]; omega) (cap := cap) (by simp only [Int32.toNatClampNeg, hN]; exact hcap) hb8 hc hl rfl
  exact OE.by stp (K T' h' h.size ⟨hx, hZ, hown, hby, hmx, hret, hnm, hlk, hn0, hT', locs, S', N0⟩ (H.push E h0 A.1 (OA.new hN hdv hfv A EX)))
theorem o_arraylength (X : OW p l e R s m args below meth c Z y bytes mx ret n0 T h k n) (H : OL n0 h L) (i : Nat) (hi : L[i]? = some (a, OA Z ty vs)) (hd : decode bytes pc = .ok (.arraylength, 1)) (z : Int32) (hz : Int32.ofNat vs.length = z) (pc' : Nat) (hp : pc + 1 = pc')
    (K : OE p e R below s n0 Q T (mkF m pc' Ls (.int z :: st))) : OE p e R below s n0 Q T (mkF m pc Ls (.ref a :: st)) := by
  obtain ⟨hx, hZ, hown, hby, hmx, hret, hnm, hlk, hn0, hT, locs, S, N0⟩ := X; subst hp
  obtain ⟨h1, c', h2, A⟩ := H.get hi
  refine OE.by (fun t q => S.arraylength hx (by rw [hT]; exact h2) (State.isArrayOf_alike hZ.alike A.1) (g := mkF m pc Ls (.ref a :: st)) rfl rfl (hb hby hd) t ?_) K
  have e1 : c'.slots.size.toInt32 = z := by rw [A.size]; exact hz
  rw [e1]; exact q
theorem o_iaload (X : OW p l e R s m args below meth c Z y bytes mx ret n0 T h k n) (H : OL n0 h L) (i : Nat) (hi : L[i]? = some (a, OA Z .int vs)) (hd : decode bytes pc = .ok (.iaload, 1)) {j : Int32} (jn : Nat) (hj : j.toInt = jn) (v : Int32) (hv : vs[jn]? = some v) (pc' : Nat) (hp : pc + 1 = pc')
    (K : OE p e R below s n0 Q T (mkF m pc' Ls (.int v :: st))) : OE p e R below s n0 Q T (mkF m pc Ls (.int j :: .ref a :: st)) := by
  obtain ⟨hx, hZ, hown, hby, hmx, hret, hnm, hlk, hn0, hT, locs, S, N0⟩ := X; subst hp
  obtain ⟨h1, c', h2, A⟩ := H.get hi
  have hlt := (List.getElem?_eq_some_iff.mp hv).1
  obtain ⟨q1, q2⟩ := o_idx hj (N := c'.slots.size) (by rw [A.size]; exact hlt)
  exact OE.by (fun t q => S.iaload hx (by rw [hT]; exact h2) (State.isArrayOf_alike hZ.alike A.1) A.2.1 q1 (v := .int v) (by rw [q2, A.2.2.1]; simp [hv]) (g := mkF m pc Ls (.int j :: .ref a :: st)) rfl rfl (hb hby hd) t q) K
theorem o_baloadB (X : OW p l e R s m args below meth c Z y bytes mx ret n0 T h k n) (H : OL n0 h L) (i : Nat) (hi : L[i]? = some (a, OA Z .byte vs)) (hd : decode bytes pc = .ok (.baload, 1)) {j : Int32} (jn : Nat) (hj : j.toInt = jn) (v : Int32) (hv : vs[jn]? = some v) (pc' : Nat) (hp : pc + 1 = pc')
    (K : OE p e R below s n0 Q T (mkF m pc' Ls (.int v :: st))) : OE p e R below s n0 Q T (mkF m pc Ls (.int j :: .ref a :: st)) := by
  obtain ⟨hx, hZ, hown, hby, hmx, hret, hnm, hlk, hn0, hT, locs, S, N0⟩ := X; subst hp
  obtain ⟨h1, c', h2, A⟩ := H.get hi
  have hlt := (List.getElem?_eq_some_iff.mp hv).1
  obtain ⟨q1, q2⟩ := o_idx hj (N := c'.slots.size) (by rw [A.size]; exact hlt)
  exact OE.by (fun t q => S.baloadBytes hx (by rw [hT]; exact h2) (State.isArrayOf_alike hZ.alike A.1) A.2.1 q1 (v := .int v) (by rw [q2, A.2.2.1]; simp [hv]) (g := mkF m pc Ls (.int j :: .ref a :: st)) rfl rfl (hb hby hd) t q) K
theorem o_baloadZ (X : OW p l e R s m args below meth c Z y bytes mx ret n0 T h k n) (H : OL n0 h L) (i : Nat) (hi : L[i]? = some (a, OA Z .boolean vs)) (hd : decode bytes pc = .ok (.baload, 1)) {j : Int32} (jn : Nat) (hj : j.toInt = jn) (v : Int32) (hv : vs[jn]? = some v) (pc' : Nat) (hp : pc + 1 = pc')
    (K : OE p e R below s n0 Q T (mkF m pc' Ls (.int v :: st))) : OE p e R below s n0 Q T (mkF m pc Ls (.int j :: .ref a :: st)) := by
  obtain ⟨hx, hZ, hown, hby, hmx, hret, hnm, hlk, hn0, hT, locs, S, N0⟩ := X; subst hp
  obtain ⟨h1, c', h2, A⟩ := H.get hi
  have hlt := (List.getElem?_eq_some_iff.mp hv).1
  obtain ⟨q1, q2⟩ := o_idx hj (N := c'.slots.size) (by rw [A.size]; exact hlt)
  exact OE.by (fun t q => S.baloadBooleans hx (by rw [hT]; exact h2) (State.isArrayOf_alike hZ.alike A.1) A.2.1 q1 (v := .int v) (by rw [q2, A.2.2.1]; simp [hv]) (g := mkF m pc Ls (.int j :: .ref a :: st)) rfl rfl (hb hby hd) t q) K
theorem o_iastore (X : OW p l e R s m args below meth c Z y bytes mx ret n0 T h k n) (H : OL n0 h L) (i : Nat) (hi : L[i]? = some (a, OA Z .int vs)) (hd : decode bytes pc = .ok (.iastore, 1)) {j x : Int32} (jn : Nat) (hj : j.toInt = jn) (hlt : jn < vs.length) (pc' : Nat) (hp : pc + 1 = pc')
    (K : ∀ T' h', OW p l e R s m args below meth c Z y bytes mx ret n0 T' h' k n → OL n0 h' (L.set i (a, OA Z .int (vs.set jn x))) → OE p e R below s n0 Q T' (mkF m pc' Ls st)) : OE p e R below s n0 Q T (mkF m pc Ls (.int x :: .int j :: .ref a :: st)) := by
  obtain ⟨hx, hZ, hown, hby, hmx, hret, hnm, hlk, hn0, hT, locs, S, N0⟩ := X; subst hp
  obtain ⟨h1, c', h2, A⟩ := H.get hi
  obtain ⟨q1, q2⟩ := o_idx hj (N := c'.slots.size) (by rw [A.size]; exact hlt)
  obtain ⟨T', h', S', hT', W, stp⟩ := stI S hx hZ hT ⟨h2, A.1, A.2.1⟩ q1 (x := x) (g := mkF m pc Ls (.int x :: .int j :: .ref a :: st)) rfl rfl (hb hby hd)
  rw [q2] at W S'
  exact OE.by stp (K T' h' ⟨hx, hZ, hown, hby, hmx, hret, hnm, hlk, hn0, hT', _, S', N0.app fun z hz => by cases List.mem_singleton.mp hz; exact h1⟩ (H.wr hi W fun c _ B => B.set rfl))
theorem o_bastoreB (X : OW p l e R s m args below meth c Z y bytes mx ret n0 T h k n) (H : OL n0 h L) (i : Nat) (hi : L[i]? = some (a, OA Z .byte vs)) (hd : decode bytes pc = .ok (.bastore, 1)) {j x : Int32} (jn : Nat) (hj : j.toInt = jn) (hlt : jn < vs.length) (v : Int32) (hv : x.toInt8.toInt32 = v) (pc' : Nat) (hp : pc + 1 = pc')
    (K : ∀ T' h', OW p l e R s m args below meth c Z y bytes mx ret n0 T' h' k n → OL n0 h' (L.set i (a, OA Z .byte (vs.set jn v))) → OE p e R below s n0 Q T' (mkF m pc' Ls st)) : OE p e R below s n0 Q T (mkF m pc Ls (.int x :: .int j :: .ref a :: st)) := by
  obtain ⟨hx, hZ, hown, hby, hmx, hret, hnm, hlk, hn0, hT, locs, S, N0⟩ := X; subst hp hv
  obtain ⟨h1, c', h2, A⟩ := H.get hi
  obtain ⟨q1, q2⟩ := o_idx hj (N := c'.slots.size) (by rw [A.size]; exact hlt)
  obtain ⟨T', h', S', hT', W, stp⟩ := stB S hx hZ hT ⟨h2, A.1, A.2.1⟩ q1 (x := x) (g := mkF m pc Ls (.int x :: .int j :: .ref a :: st)) rfl rfl (hb hby hd)
  rw [q2] at W S'
  exact OE.by stp (K T' h' ⟨hx, hZ, hown, hby, hmx, hret, hnm, hlk, hn0, hT', _, S', N0.app fun z hz => by cases List.mem_singleton.mp hz; exact h1⟩ (H.wr hi W fun c _ B => B.set (fits_nar_byte x)))
theorem o_bastoreZ (X : OW p l e R s m args below meth c Z y bytes mx ret n0 T h k n) (H : OL n0 h L) (i : Nat) (hi : L[i]? = some (a, OA Z .boolean vs)) (hd : decode bytes pc = .ok (.bastore, 1)) {j x : Int32} (jn : Nat) (hj : j.toInt = jn) (hlt : jn < vs.length) (v : Int32) (hv : nar .boolean x = v) (pc' : Nat) (hp : pc + 1 = pc')
    (K : ∀ T' h', OW p l e R s m args below meth c Z y bytes mx ret n0 T' h' k n → OL n0 h' (L.set i (a, OA Z .boolean (vs.set jn v))) → OE p e R below s n0 Q T' (mkF m pc' Ls st)) : OE p e R below s n0 Q T (mkF m pc Ls (.int x :: .int j :: .ref a :: st)) := by
  obtain ⟨hx, hZ, hown, hby, hmx, hret, hnm, hlk, hn0, hT, locs, S, N0⟩ := X; subst hp hv
  obtain ⟨h1, c', h2, A⟩ := H.get hi
  obtain ⟨q1, q2⟩ := o_idx hj (N := c'.slots.size) (by rw [A.size]; exact hlt)
  obtain ⟨T', h', S', hT', W, stp⟩ := stZ S hx hZ hT ⟨h2, A.1, A.2.1⟩ q1 (x := x) (g := mkF m pc Ls (.int x :: .int j :: .ref a :: st)) rfl rfl (hb hby hd)
  rw [q2] at W S'
  exact OE.by stp (K T' h' ⟨hx, hZ, hown, hby, hmx, hret, hnm, hlk, hn0, hT', _, S', N0.app fun z hz => by cases List.mem_singleton.mp hz; exact h1⟩ (H.wr hi W fun c _ B => B.set (fits_nar_bool x)))
theorem o_b8 (x : Int32) : x.toInt8.toInt32.toInt8.toInt32 = x.toInt8.toInt32 := by simp
/-! contracts and calls -/
def OC (l : Launch) (Z : State) (y : MethodName) (bytes : ByteArray) (mx : Nat) (ret : Option FieldType) (ws : List Jvm.Cond) (rm : Room) (n0 : Nat) (as' : Array Value) (h0 : Heap) (Q : Option Value → Heap → Prop) : Prop :=
  MetFree l y (head1 (Jvm.Cond.code y bytes mx ret :: ws) rm) (fun a U => a = as' ∧ Z.Warmed39 U.vm ∧ U.heap = h0) (fun _ _ _ _ _ => True) (fun _ U o U' => ∃ v L, o = .returned v ∧ (Q v U'.heap ∧ Fr n0 L) ∧ FrameEnd U o U' L rm.cells rm.slots)
theorem OC.of {ws : List Jvm.Cond} {rm : Room} {as' : Array Value} {h0 : Heap} (hp : plainName y.cls = true) (hn : n0 ≤ h0.size) (Ls : Array Slot) (hef : ∀ m : MethodId, entryFrame m as' mx = mkF m 0 Ls [])
    (B : ∀ p e s m below meth c T, OW p l e rm s m as' below meth c Z y bytes mx ret n0 T h0 0 0 → ∀ Q' : Option Value → Heap → Prop, (∀ r h, Q r h → Q' r h) → OE p e rm below s n0 Q' T (mkF m 0 Ls [])) : OC l Z y bytes mx ret ws rm n0 as' h0 Q := by
  refine MetFree.of_bodySF (plainFor_of_name hp) hisR ?_
  intro p e s m args below meth c s₁ Bd hml0 hP hK
  obtain ⟨rfl, hZ, hh⟩ := hP
  have hnm := (name_of_methodNamed Bd.named Bd.method).1
  have X0 : Stand p l e rm s m args below meth c s₁ [] 0 0 := Stand.of_body Bd
  have e0 : s₁.heap = h0 := by rw [← hh, Bd.state]; rfl
  rw [hef m]
  exact B p e s m below meth c s₁ ⟨Bd.exec, hZ, findClass_of_methodNamed Bd.named, Bd.bytes, hml0, Bd.returns, hnm, Bd.notSynchronized, by rw [hh]; exact hn, e0, [], X0, Fr.nil n0⟩ Q (fun _ _ q => q)
theorem o_callS (X : OW p l e R s m args below meth c Z y bytes mx ret n0 T h k n) {i : Nat} (hd : decode bytes pc = .ok (.invokestatic i, 3)) {y' : MethodName} {bytes' : ByteArray} {mx' : Nat} {ret' : Option FieldType} {rm : Room} {as' : Array Value} {Q' : Option Value → Heap → Prop} (C : OC l Z y' bytes' mx' ret' [] rm n0 as' h Q')
    (w1 : (Cond.methodLink y.cls i y').before a0 Z = true) (w2 : (Cond.static y').before a0 Z = true) (w3 : (Cond.initialized y'.cls).before a0 Z = true) (w4 : (Cond.code y' bytes' mx' ret').before a0 Z = true) (hy : y'.cls ≠ "java/lang/invoke/MethodHandle" ∧ y'.cls ≠ "java/lang/invoke/VarHandle")
    (Wd : Nat) (hf : rm.frames + 1 ≤ R.frames) (hlo : Wd + (mx' + 11) + rm.locals ≤ R.locals) (hls : Ls.size = mx) (argsL : List Value) (has : as' = argsL.toArray) {ps : List FieldType} {r' : Option FieldType} (hpd : parseMethodDescriptor y'.desc = some ⟨ps, r'⟩) (hlen : argsL.length = ps.length) (hst : st = argsL.reverse ++ rest) (hW : (rest.map fun v => v.category).sum ≤ Wd) (k2 n2 : Nat) (hk2 : k + rm.cells = k2) (hn2 : n + rm.slots = n2) (hk : k2 ≤ R.cells) (hn : n2 ≤ R.slots) (pc' : Nat) (hp : pc + 3 = pc')
    (K : ∀ v T' h', OW p l e R s m args below meth c Z y bytes mx ret n0 T' h' k2 n2 → Q' v h' → OE p e R below s n0 Q T' (mkF m pc' Ls (v.toList ++ rest))) : OE p e R below s n0 Q T (mkF m pc Ls st) := by
  obtain ⟨hx, hZ, hown, hby, hmx, hret, hnm, hlk, hn0, hT, locs, S, N0⟩ := X; subst hp has hk2 hn2
  obtain ⟨v, _, ⟨T2, L2, k2, n2⟩, -, X2, ⟨Lc, hQ, l2, y2, z2⟩, stp⟩ := Jvm.LawKit.callS S hx (y := y') hown (mvT hZ w1) (mvT hZ w2) (mvT hZ w3) (mvT hZ w4) hy (backOf (W := Wd) (Q := fun v hh LL => Q' v hh ∧ Fr n0 LL) C hZ w4 w3 hf hlo) (g := mkF m pc Ls st) rfl (by rw [hmx]; exact hls) (argsL := argsL) (rest := rest) (lenOf hpd hlen) hst (by show 2 * 0 + _ ≤ _; omega) (hb hby hd) (fun _ _ => ⟨rfl, hT, hk, hn⟩)
  dsimp only [Pt.U, Pt.locs, Pt.cells, Pt.slots] at X2 l2 y2 z2 stp hQ
  subst l2 y2 z2
  exact OE.by stp (K v T2 T2.heap ⟨hx, hZ, hown, hby, hmx, hret, hnm, hlk, hn0, rfl, _, X2, N0.app hQ.2⟩ hQ.1)
end OwnKit
theorem d1_0 : decode prog_5_method_2_code 0 = .ok (.iconst 0, 1) := by decide +kernel
theorem d1_1 : decode prog_5_method_2_code 1 = .ok (.istore_n 2, 1) := by decide +kernel
theorem d1_2 : decode prog_5_method_2_code 2 = .ok (.aload_n 0, 1) := by decide +kernel
theorem d1_3 : decode prog_5_method_2_code 3 = .ok (.arraylength, 1) := by decide +kernel
theorem d1_4 : decode prog_5_method_2_code 4 = .ok (.iconst 1, 1) := by decide +kernel
theorem d1_5 : decode prog_5_method_2_code 5 = .ok (.isub, 1) := by decide +kernel
theorem d1_6 : decode prog_5_method_2_code 6 = .ok (.istore_n 3, 1) := by decide +kernel
theorem d1_7 : decode prog_5_method_2_code 7 = .ok (.iload_n 2, 1) := by decide +kernel
theorem d1_8 : decode prog_5_method_2_code 8 = .ok (.iload_n 3, 1) := by decide +kernel
theorem d1_9 : decode prog_5_method_2_code 9 = .ok (.if_icmp .ge 34, 3) := by decide +kernel
theorem d1_12 : decode prog_5_method_2_code 12 = .ok (.iload_n 2, 1) := by decide +kernel
theorem d1_13 : decode prog_5_method_2_code 13 = .ok (.iload_n 3, 1) := by decide +kernel
theorem d1_14 : decode prog_5_method_2_code 14 = .ok (.iadd, 1) := by decide +kernel
theorem d1_15 : decode prog_5_method_2_code 15 = .ok (.iconst 1, 1) := by decide +kernel
theorem d1_16 : decode prog_5_method_2_code 16 = .ok (.iadd, 1) := by decide +kernel
theorem d1_17 : decode prog_5_method_2_code 17 = .ok (.iconst 1, 1) := by decide +kernel
theorem d1_18 : decode prog_5_method_2_code 18 = .ok (.iushr, 1) := by decide +kernel
theorem d1_19 : decode prog_5_method_2_code 19 = .ok (.istore 4, 2) := by decide +kernel
theorem d1_21 : decode prog_5_method_2_code 21 = .ok (.aload_n 0, 1) := by decide +kernel
theorem d1_22 : decode prog_5_method_2_code 22 = .ok (.iload 4, 2) := by decide +kernel
theorem d1_24 : decode prog_5_method_2_code 24 = .ok (.iaload, 1) := by decide +kernel
theorem d1_25 : decode prog_5_method_2_code 25 = .ok (.iload_n 1, 1) := by decide +kernel
theorem d1_26 : decode prog_5_method_2_code 26 = .ok (.if_icmp .gt 9, 3) := by decide +kernel
theorem d1_29 : decode prog_5_method_2_code 29 = .ok (.iload 4, 2) := by decide +kernel
theorem d1_31 : decode prog_5_method_2_code 31 = .ok (.istore_n 2, 1) := by decide +kernel
theorem d1_32 : decode prog_5_method_2_code 32 = .ok (.goto 8, 3) := by decide +kernel
theorem d1_35 : decode prog_5_method_2_code 35 = .ok (.iload 4, 2) := by decide +kernel
theorem d1_37 : decode prog_5_method_2_code 37 = .ok (.iconst 1, 1) := by decide +kernel
theorem d1_38 : decode prog_5_method_2_code 38 = .ok (.isub, 1) := by decide +kernel
theorem d1_39 : decode prog_5_method_2_code 39 = .ok (.istore_n 3, 1) := by decide +kernel
theorem d1_40 : decode prog_5_method_2_code 40 = .ok (.goto (-33), 3) := by decide +kernel
theorem d1_43 : decode prog_5_method_2_code 43 = .ok (.iload_n 2, 1) := by decide +kernel
theorem d1_44 : decode prog_5_method_2_code 44 = .ok (.ireturn, 1) := by decide +kernel
theorem pn_0 : plainName "com/example/palamedes/palamedes/SortedInts" = true := by first | (simp [plainName, overriddenIn]; done) | decide +kernel
theorem pn_1 : plainName "com/example/palamedes/palamedes/SortedIntsLastAtMostPinLaw" = true := by first | (simp [plainName, overriddenIn]; done) | decide +kernel
theorem pd_1 : parseMethodDescriptor "([II)I" = some ⟨[(.array .int), .int], (some .int)⟩ := by decide +kernel
def f_last1 (w0 key : Int32) : Int32 := 0
def f_last2 (w0 w1 key : Int32) : Int32 := if key < w1 then 0 else 1
def f_last3 (w0 w1 w2 key : Int32) : Int32 := if key < w1 then 0 else if key < w2 then 1 else 2
def f_last4 (w0 w1 w2 w3 key : Int32) : Int32 := if key < w1 then 0 else if key < w2 then 1 else if key < w3 then 2 else 3
theorem v_len (x : Int32) : (x &&& 3) + 1 = 1 ∨ (x &&& 3) + 1 = 2 ∨ (x &&& 3) + 1 = 3 ∨ (x &&& 3) + 1 = 4 := by
  have h := Jvm.Kit.i32_mask x 3 (k := 2) (by decide) (by decide)
  have h2 := Jvm.Kit.i32_add (p := x &&& 3) (q := 1) (by rw [h, show (1 : Int32).toInt = 1 from rfl]; omega) (by rw [h, show (1 : Int32).toInt = 1 from rfl]; omega)
  simp only [← Int32.toInt_inj, Int32.reduceToInt] at *; omega
theorem v_idx (x y : Int32) (n : Nat) (hy : y.toInt = n) (h0 : 0 < n) (h4 : n ≤ 4) (hy1 : y ≠ -1) : ∃ i : Nat, ((x &&& 2147483647) % y).toInt = i ∧ i < 4 := by
  have h := Jvm.Kit.i32_mask x 2147483647 (k := 31) (by decide) (by decide)
  have r := (c_irem (x &&& 2147483647) y n hy).1 (by omega)
  have m0 := Int.emod_nonneg (x &&& 2147483647).toInt (show (n : Int) ≠ 0 by omega)
  have m1 := Int.emod_lt_of_pos (x &&& 2147483647).toInt (show (0 : Int) < n by omega)
  exact ⟨((x &&& 2147483647) % y).toInt.toNat, by omega, by omega⟩
theorem v_get (a b c d : Int32) (i : Nat) (h : i < 4) : ∃ v, [a, b, c, d][i]? = some v := ⟨_, List.getElem?_eq_getElem (by simpa using h)⟩
set_option maxRecDepth 65536 in
set_option maxHeartbeats 40000000 in
theorem c_last1 (l : Launch) (Z : State) (a0 : Array Value) (hw : ∀ d ∈ tables_1, d.before a0 Z = true) (ws : List Jvm.Cond) (n0 : Nat) (h0 : Heap) (hn0 : n0 ≤ h0.size) (xa : Addr) (xk : Int32) (w0 : Int32) (L' : List (Addr × (Cell → Prop))) (H0 : OL n0 h0 ((xa, OA Z .int [w0]) :: L')) :
    OC l Z (⟨"com/example/palamedes/palamedes/SortedInts", "lastAtMost", "([II)I"⟩ : MethodName) prog_5_method_2_code 5 (some .int) ws ({ frames := 0, cells := 0, slots := 0, locals := 0 } : Room) n0 #[(.ref xa), (.int xk)] h0 (fun r h => r = some (.int (f_last1 w0 xk)) ∧ h0 = h) := by
  refine OC.of pn_0 hn0 #[.val (.ref xa), .val (.int xk), .unset, .unset, .unset] (fun m => by first | (simp [entryFrame, mkF, argsToLocals, Value.category, maxLocals]; done) | rfl) ?_
  intro p e s m below meth cd0 T0 X0 Q' hQ
  refine o_iconst (v := (0 : Int32)) X0 d1_0 rfl 1 rfl ?_
  refine o_istoreN X0 d1_1 #[.val (.ref xa), .val (.int xk), .val (.int (0 : Int32)), .unset, .unset] rfl 2 rfl ?_
  refine o_aloadN X0 d1_2 rfl rfl 3 rfl ?_
  refine o_arraylength X0 H0 0 rfl d1_3 (1 : Int32) rfl 4 rfl ?_
  refine o_iconst (v := (1 : Int32)) X0 d1_4 rfl 5 rfl ?_
  refine o_isub X0 d1_5 6 rfl ?_
  refine o_istoreN X0 d1_6 #[.val (.ref xa), .val (.int xk), .val (.int (0 : Int32)), .val (.int ((1 : Int32) - (1 : Int32))), .unset] rfl 7 rfl ?_
  rw [show ((1 : Int32) - (1 : Int32)) = (0 : Int32) from rfl]
  refine o_iloadN X0 d1_7 rfl 8 rfl ?_
  refine o_iloadN X0 d1_8 rfl 9 rfl ?_
  refine o_icmpGe X0 d1_9 43 12 (by decide) (by decide) rfl ?_ (fun q => by exfalso; exact absurd q (by decide))
  intro hc9
  refine o_iloadN X0 d1_43 rfl 44 rfl ?_
  exact o_retI X0 d1_44 (by decide) (by decide) (hQ _ _ ⟨rfl, rfl⟩)
set_option maxRecDepth 65536 in
set_option maxHeartbeats 40000000 in
theorem c_last2 (l : Launch) (Z : State) (a0 : Array Value) (hw : ∀ d ∈ tables_1, d.before a0 Z = true) (ws : List Jvm.Cond) (n0 : Nat) (h0 : Heap) (hn0 : n0 ≤ h0.size) (xa : Addr) (xk : Int32) (w0 w1 : Int32) (L' : List (Addr × (Cell → Prop))) (H0 : OL n0 h0 ((xa, OA Z .int [w0, w1]) :: L')) (hs1 : ¬ w1 < w0) :
    OC l Z (⟨"com/example/palamedes/palamedes/SortedInts", "lastAtMost", "([II)I"⟩ : MethodName) prog_5_method_2_code 5 (some .int) ws ({ frames := 0, cells := 0, slots := 0, locals := 0 } : Room) n0 #[(.ref xa), (.int xk)] h0 (fun r h => r = some (.int (f_last2 w0 w1 xk)) ∧ h0 = h) := by
  refine OC.of pn_0 hn0 #[.val (.ref xa), .val (.int xk), .unset, .unset, .unset] (fun m => by first | (simp [entryFrame, mkF, argsToLocals, Value.category, maxLocals]; done) | rfl) ?_
  intro p e s m below meth cd0 T0 X0 Q' hQ
  refine o_iconst (v := (0 : Int32)) X0 d1_0 rfl 1 rfl ?_
  refine o_istoreN X0 d1_1 #[.val (.ref xa), .val (.int xk), .val (.int (0 : Int32)), .unset, .unset] rfl 2 rfl ?_
  refine o_aloadN X0 d1_2 rfl rfl 3 rfl ?_
  refine o_arraylength X0 H0 0 rfl d1_3 (2 : Int32) rfl 4 rfl ?_
  refine o_iconst (v := (1 : Int32)) X0 d1_4 rfl 5 rfl ?_
  refine o_isub X0 d1_5 6 rfl ?_
  refine o_istoreN X0 d1_6 #[.val (.ref xa), .val (.int xk), .val (.int (0 : Int32)), .val (.int ((2 : Int32) - (1 : Int32))), .unset] rfl 7 rfl ?_
  rw [show ((2 : Int32) - (1 : Int32)) = (1 : Int32) from rfl]
  refine o_iloadN X0 d1_7 rfl 8 rfl ?_
  refine o_iloadN X0 d1_8 rfl 9 rfl ?_
  refine o_icmpGe X0 d1_9 43 12 (by decide) (by decide) rfl (fun q => by exfalso; exact absurd q (by decide)) ?_
  intro hc9
  refine o_iloadN X0 d1_12 rfl 13 rfl ?_
  refine o_iloadN X0 d1_13 rfl 14 rfl ?_
  refine o_iadd X0 d1_14 15 rfl ?_
  refine o_iconst (v := (1 : Int32)) X0 d1_15 rfl 16 rfl ?_
  refine o_iadd X0 d1_16 17 rfl ?_
  refine o_iconst (v := (1 : Int32)) X0 d1_17 rfl 18 rfl ?_
  refine o_iushr X0 d1_18 19 rfl ?_
  refine o_istore X0 d1_19 #[.val (.ref xa), .val (.int xk), .val (.int (0 : Int32)), .val (.int (1 : Int32)), .val (.int (XT.ushr (((0 : Int32) + (1 : Int32)) + (1 : Int32)) (1 : Int32)))] rfl 21 rfl ?_
  rw [show (XT.ushr (((0 : Int32) + (1 : Int32)) + (1 : Int32)) (1 : Int32)) = (1 : Int32) from rfl]
  refine o_aloadN X0 d1_21 rfl rfl 22 rfl ?_
  refine o_iload X0 d1_22 rfl 24 rfl ?_
  refine o_iaload X0 H0 0 rfl d1_24 1 rfl w1 rfl 25 rfl ?_
  refine o_iloadN X0 d1_25 rfl 26 rfl ?_
  refine o_icmpGt X0 d1_26 35 29 (by decide) (by decide) rfl ?_ ?_
  · intro hc26
    refine o_iload X0 d1_35 rfl 37 rfl ?_
    refine o_iconst (v := (1 : Int32)) X0 d1_37 rfl 38 rfl ?_
    refine o_isub X0 d1_38 39 rfl ?_
    refine o_istoreN X0 d1_39 #[.val (.ref xa), .val (.int xk), .val (.int (0 : Int32)), .val (.int ((1 : Int32) - (1 : Int32))), .val (.int (1 : Int32))] rfl 40 rfl ?_
    rw [show ((1 : Int32) - (1 : Int32)) = (0 : Int32) from rfl]
    refine o_goto X0 d1_40 7 (by decide) (by decide) ?_
    refine o_iloadN X0 d1_7 rfl 8 rfl ?_
    refine o_iloadN X0 d1_8 rfl 9 rfl ?_
    refine o_icmpGe X0 d1_9 43 12 (by decide) (by decide) rfl ?_ (fun q => by exfalso; exact absurd q (by decide))
    intro hc9_1
    refine o_iloadN X0 d1_43 rfl 44 rfl ?_
    exact o_retI X0 d1_44 (by decide) (by decide) (hQ _ _ ⟨by show some (Value.int (0 : Int32)) = some (Value.int (f_last2 w0 w1 xk)); by_cases a1 : xk < w1 <;> first | (simp [f_last2, a1]; done) | (exfalso; simp only [Int32.lt_iff_toInt_lt] at hc26 a1; omega), rfl⟩)
  · intro hc26
    refine o_iload X0 d1_29 rfl 31 rfl ?_
    refine o_istoreN X0 d1_31 #[.val (.ref xa), .val (.int xk), .val (.int (1 : Int32)), .val (.int (1 : Int32)), .val (.int (1 : Int32))] rfl 32 rfl ?_
    refine o_goto X0 d1_32 40 (by decide) (by decide) ?_
    refine o_goto X0 d1_40 7 (by decide) (by decide) ?_
    refine o_iloadN X0 d1_7 rfl 8 rfl ?_
    refine o_iloadN X0 d1_8 rfl 9 rfl ?_
    refine o_icmpGe X0 d1_9 43 12 (by decide) (by decide) rfl ?_ (fun q => by exfalso; exact absurd q (by decide))
    intro hc9_1
    refine o_iloadN X0 d1_43 rfl 44 rfl ?_
    exact o_retI X0 d1_44 (by decide) (by decide) (hQ _ _ ⟨by show some (Value.int (1 : Int32)) = some (Value.int (f_last2 w0 w1 xk)); by_cases a1 : xk < w1 <;> first | (simp [f_last2, a1]; done) | (exfalso; simp only [Int32.lt_iff_toInt_lt] at hc26 a1; omega), rfl⟩)
set_option maxRecDepth 65536 in
set_option maxHeartbeats 40000000 in
theorem c_last3 (l : Launch) (Z : State) (a0 : Array Value) (hw : ∀ d ∈ tables_1, d.before a0 Z = true) (ws : List Jvm.Cond) (n0 : Nat) (h0 : Heap) (hn0 : n0 ≤ h0.size) (xa : Addr) (xk : Int32) (w0 w1 w2 : Int32) (L' : List (Addr × (Cell → Prop))) (H0 : OL n0 h0 ((xa, OA Z .int [w0, w1, w2]) :: L')) (hs1 : ¬ w1 < w0) (hs2 : ¬ w2 < w1) :
    OC l Z (⟨"com/example/palamedes/palamedes/SortedInts", "lastAtMost", "([II)I"⟩ : MethodName) prog_5_method_2_code 5 (some .int) ws ({ frames := 0, cells := 0, slots := 0, locals := 0 } : Room) n0 #[(.ref xa), (.int xk)] h0 (fun r h => r = some (.int (f_last3 w0 w1 w2 xk)) ∧ h0 = h) := by
  refine OC.of pn_0 hn0 #[.val (.ref xa), .val (.int xk), .unset, .unset, .unset] (fun m => by first | (simp [entryFrame, mkF, argsToLocals, Value.category, maxLocals]; done) | rfl) ?_
  intro p e s m below meth cd0 T0 X0 Q' hQ
  refine o_iconst (v := (0 : Int32)) X0 d1_0 rfl 1 rfl ?_
  refine o_istoreN X0 d1_1 #[.val (.ref xa), .val (.int xk), .val (.int (0 : Int32)), .unset, .unset] rfl 2 rfl ?_
  refine o_aloadN X0 d1_2 rfl rfl 3 rfl ?_
  refine o_arraylength X0 H0 0 rfl d1_3 (3 : Int32) rfl 4 rfl ?_
  refine o_iconst (v := (1 : Int32)) X0 d1_4 rfl 5 rfl ?_
  refine o_isub X0 d1_5 6 rfl ?_
  refine o_istoreN X0 d1_6 #[.val (.ref xa), .val (.int xk), .val (.int (0 : Int32)), .val (.int ((3 : Int32) - (1 : Int32))), .unset] rfl 7 rfl ?_
  rw [show ((3 : Int32) - (1 : Int32)) = (2 : Int32) from rfl]
  refine o_iloadN X0 d1_7 rfl 8 rfl ?_
  refine o_iloadN X0 d1_8 rfl 9 rfl ?_
  refine o_icmpGe X0 d1_9 43 12 (by decide) (by decide) rfl (fun q => by exfalso; exact absurd q (by decide)) ?_
  intro hc9
  refine o_iloadN X0 d1_12 rfl 13 rfl ?_
  refine o_iloadN X0 d1_13 rfl 14 rfl ?_
  refine o_iadd X0 d1_14 15 rfl ?_
  refine o_iconst (v := (1 : Int32)) X0 d1_15 rfl 16 rfl ?_
  refine o_iadd X0 d1_16 17 rfl ?_
  refine o_iconst (v := (1 : Int32)) X0 d1_17 rfl 18 rfl ?_
  refine o_iushr X0 d1_18 19 rfl ?_
  refine o_istore X0 d1_19 #[.val (.ref xa), .val (.int xk), .val (.int (0 : Int32)), .val (.int (2 : Int32)), .val (.int (XT.ushr (((0 : Int32) + (2 : Int32)) + (1 : Int32)) (1 : Int32)))] rfl 21 rfl ?_
  rw [show (XT.ushr (((0 : Int32) + (2 : Int32)) + (1 : Int32)) (1 : Int32)) = (1 : Int32) from rfl]
  refine o_aloadN X0 d1_21 rfl rfl 22 rfl ?_
  refine o_iload X0 d1_22 rfl 24 rfl ?_
  refine o_iaload X0 H0 0 rfl d1_24 1 rfl w1 rfl 25 rfl ?_
  refine o_iloadN X0 d1_25 rfl 26 rfl ?_
  refine o_icmpGt X0 d1_26 35 29 (by decide) (by decide) rfl ?_ ?_
  · intro hc26
    refine o_iload X0 d1_35 rfl 37 rfl ?_
    refine o_iconst (v := (1 : Int32)) X0 d1_37 rfl 38 rfl ?_
    refine o_isub X0 d1_38 39 rfl ?_
    refine o_istoreN X0 d1_39 #[.val (.ref xa), .val (.int xk), .val (.int (0 : Int32)), .val (.int ((1 : Int32) - (1 : Int32))), .val (.int (1 : Int32))] rfl 40 rfl ?_
    rw [show ((1 : Int32) - (1 : Int32)) = (0 : Int32) from rfl]
    refine o_goto X0 d1_40 7 (by decide) (by decide) ?_
    refine o_iloadN X0 d1_7 rfl 8 rfl ?_
    refine o_iloadN X0 d1_8 rfl 9 rfl ?_
    refine o_icmpGe X0 d1_9 43 12 (by decide) (by decide) rfl ?_ (fun q => by exfalso; exact absurd q (by decide))
    intro hc9_1
    refine o_iloadN X0 d1_43 rfl 44 rfl ?_
    exact o_retI X0 d1_44 (by decide) (by decide) (hQ _ _ ⟨by show some (Value.int (0 : Int32)) = some (Value.int (f_last3 w0 w1 w2 xk)); by_cases a1 : xk < w1 <;> by_cases a2 : xk < w2 <;> first | (simp [f_last3, a1, a2]; done) | (exfalso; simp only [Int32.lt_iff_toInt_lt] at hs2 hc26 a1 a2; omega), rfl⟩)
  · intro hc26
    refine o_iload X0 d1_29 rfl 31 rfl ?_
    refine o_istoreN X0 d1_31 #[.val (.ref xa), .val (.int xk), .val (.int (1 : Int32)), .val (.int (2 : Int32)), .val (.int (1 : Int32))] rfl 32 rfl ?_
    refine o_goto X0 d1_32 40 (by decide) (by decide) ?_
    refine o_goto X0 d1_40 7 (by decide) (by decide) ?_
    refine o_iloadN X0 d1_7 rfl 8 rfl ?_
    refine o_iloadN X0 d1_8 rfl 9 rfl ?_
    refine o_icmpGe X0 d1_9 43 12 (by decide) (by decide) rfl (fun q => by exfalso; exact absurd q (by decide)) ?_
    intro hc9_1
    refine o_iloadN X0 d1_12 rfl 13 rfl ?_
    refine o_iloadN X0 d1_13 rfl 14 rfl ?_
    refine o_iadd X0 d1_14 15 rfl ?_
    refine o_iconst (v := (1 : Int32)) X0 d1_15 rfl 16 rfl ?_
    refine o_iadd X0 d1_16 17 rfl ?_
    refine o_iconst (v := (1 : Int32)) X0 d1_17 rfl 18 rfl ?_
    refine o_iushr X0 d1_18 19 rfl ?_
    refine o_istore X0 d1_19 #[.val (.ref xa), .val (.int xk), .val (.int (1 : Int32)), .val (.int (2 : Int32)), .val (.int (XT.ushr (((1 : Int32) + (2 : Int32)) + (1 : Int32)) (1 : Int32)))] rfl 21 rfl ?_
    rw [show (XT.ushr (((1 : Int32) + (2 : Int32)) + (1 : Int32)) (1 : Int32)) = (2 : Int32) from rfl]
    refine o_aloadN X0 d1_21 rfl rfl 22 rfl ?_
    refine o_iload X0 d1_22 rfl 24 rfl ?_
    refine o_iaload X0 H0 0 rfl d1_24 2 rfl w2 rfl 25 rfl ?_
    refine o_iloadN X0 d1_25 rfl 26 rfl ?_
    refine o_icmpGt X0 d1_26 35 29 (by decide) (by decide) rfl ?_ ?_
    · intro hc26_1
      refine o_iload X0 d1_35 rfl 37 rfl ?_
      refine o_iconst (v := (1 : Int32)) X0 d1_37 rfl 38 rfl ?_
      refine o_isub X0 d1_38 39 rfl ?_
      refine o_istoreN X0 d1_39 #[.val (.ref xa), .val (.int xk), .val (.int (1 : Int32)), .val (.int ((2 : Int32) - (1 : Int32))), .val (.int (2 : Int32))] rfl 40 rfl ?_
      rw [show ((2 : Int32) - (1 : Int32)) = (1 : Int32) from rfl]
      refine o_goto X0 d1_40 7 (by decide) (by decide) ?_
      refine o_iloadN X0 d1_7 rfl 8 rfl ?_
      refine o_iloadN X0 d1_8 rfl 9 rfl ?_
      refine o_icmpGe X0 d1_9 43 12 (by decide) (by decide) rfl ?_ (fun q => by exfalso; exact absurd q (by decide))
      intro hc9_2
      refine o_iloadN X0 d1_43 rfl 44 rfl ?_
      exact o_retI X0 d1_44 (by decide) (by decide) (hQ _ _ ⟨by show some (Value.int (1 : Int32)) = some (Value.int (f_last3 w0 w1 w2 xk)); by_cases a1 : xk < w1 <;> by_cases a2 : xk < w2 <;> first | (simp [f_last3, a1, a2]; done) | (exfalso; simp only [Int32.lt_iff_toInt_lt] at hs2 hc26 hc26_1 a1 a2; omega), rfl⟩)
    · intro hc26_1
      refine o_iload X0 d1_29 rfl 31 rfl ?_
      refine o_istoreN X0 d1_31 #[.val (.ref xa), .val (.int xk), .val (.int (2 : Int32)), .val (.int (2 : Int32)), .val (.int (2 : Int32))] rfl 32 rfl ?_
      refine o_goto X0 d1_32 40 (by decide) (by decide) ?_
      refine o_goto X0 d1_40 7 (by decide) (by decide) ?_
      refine o_iloadN X0 d1_7 rfl 8 rfl ?_
      refine o_iloadN X0 d1_8 rfl 9 rfl ?_
      refine o_icmpGe X0 d1_9 43 12 (by decide) (by decide) rfl ?_ (fun q => by exfalso; exact absurd q (by decide))
      intro hc9_2
      refine o_iloadN X0 d1_43 rfl 44 rfl ?_
      exact o_retI X0 d1_44 (by decide) (by decide) (hQ _ _ ⟨by show some (Value.int (2 : Int32)) = some (Value.int (f_last3 w0 w1 w2 xk)); by_cases a1 : xk < w1 <;> by_cases a2 : xk < w2 <;> first | (simp [f_last3, a1, a2]; done) | (exfalso; simp only [Int32.lt_iff_toInt_lt] at hs2 hc26 hc26_1 a1 a2; omega), rfl⟩)
set_option maxRecDepth 65536 in
set_option maxHeartbeats 40000000 in
theorem c_last4 (l : Launch) (Z : State) (a0 : Array Value) (hw : ∀ d ∈ tables_1, d.before a0 Z = true) (ws : List Jvm.Cond) (n0 : Nat) (h0 : Heap) (hn0 : n0 ≤ h0.size) (xa : Addr) (xk : Int32) (w0 w1 w2 w3 : Int32) (L' : List (Addr × (Cell → Prop))) (H0 : OL n0 h0 ((xa, OA Z .int [w0, w1, w2, w3]) :: L')) (hs1 : ¬ w1 < w0) (hs2 : ¬ w2 < w1) (hs3 : ¬ w3 < w2) :
    OC l Z (⟨"com/example/palamedes/palamedes/SortedInts", "lastAtMost", "([II)I"⟩ : MethodName) prog_5_method_2_code 5 (some .int) ws ({ frames := 0, cells := 0, slots := 0, locals := 0 } : Room) n0 #[(.ref xa), (.int xk)] h0 (fun r h => r = some (.int (f_last4 w0 w1 w2 w3 xk)) ∧ h0 = h) := by
  refine OC.of pn_0 hn0 #[.val (.ref xa), .val (.int xk), .unset, .unset, .unset] (fun m => by first | (simp [entryFrame, mkF, argsToLocals, Value.category, maxLocals]; done) | rfl) ?_
  intro p e s m below meth cd0 T0 X0 Q' hQ
  refine o_iconst (v := (0 : Int32)) X0 d1_0 rfl 1 rfl ?_
  refine o_istoreN X0 d1_1 #[.val (.ref xa), .val (.int xk), .val (.int (0 : Int32)), .unset, .unset] rfl 2 rfl ?_
  refine o_aloadN X0 d1_2 rfl rfl 3 rfl ?_
  refine o_arraylength X0 H0 0 rfl d1_3 (4 : Int32) rfl 4 rfl ?_
  refine o_iconst (v := (1 : Int32)) X0 d1_4 rfl 5 rfl ?_
  refine o_isub X0 d1_5 6 rfl ?_
  refine o_istoreN X0 d1_6 #[.val (.ref xa), .val (.int xk), .val (.int (0 : Int32)), .val (.int ((4 : Int32) - (1 : Int32))), .unset] rfl 7 rfl ?_
  rw [show ((4 : Int32) - (1 : Int32)) = (3 : Int32) from rfl]
  refine o_iloadN X0 d1_7 rfl 8 rfl ?_
  refine o_iloadN X0 d1_8 rfl 9 rfl ?_
  refine o_icmpGe X0 d1_9 43 12 (by decide) (by decide) rfl (fun q => by exfalso; exact absurd q (by decide)) ?_
  intro hc9
  refine o_iloadN X0 d1_12 rfl 13 rfl ?_
  refine o_iloadN X0 d1_13 rfl 14 rfl ?_
  refine o_iadd X0 d1_14 15 rfl ?_
  refine o_iconst (v := (1 : Int32)) X0 d1_15 rfl 16 rfl ?_
  refine o_iadd X0 d1_16 17 rfl ?_
  refine o_iconst (v := (1 : Int32)) X0 d1_17 rfl 18 rfl ?_
  refine o_iushr X0 d1_18 19 rfl ?_
  refine o_istore X0 d1_19 #[.val (.ref xa), .val (.int xk), .val (.int (0 : Int32)), .val (.int (3 : Int32)), .val (.int (XT.ushr (((0 : Int32) + (3 : Int32)) + (1 : Int32)) (1 : Int32)))] rfl 21 rfl ?_
  rw [show (XT.ushr (((0 : Int32) + (3 : Int32)) + (1 : Int32)) (1 : Int32)) = (2 : Int32) from rfl]
  refine o_aloadN X0 d1_21 rfl rfl 22 rfl ?_
  refine o_iload X0 d1_22 rfl 24 rfl ?_
  refine o_iaload X0 H0 0 rfl d1_24 2 rfl w2 rfl 25 rfl ?_
  refine o_iloadN X0 d1_25 rfl 26 rfl ?_
  refine o_icmpGt X0 d1_26 35 29 (by decide) (by decide) rfl ?_ ?_
  · intro hc26
    refine o_iload X0 d1_35 rfl 37 rfl ?_
    refine o_iconst (v := (1 : Int32)) X0 d1_37 rfl 38 rfl ?_
    refine o_isub X0 d1_38 39 rfl ?_
    refine o_istoreN X0 d1_39 #[.val (.ref xa), .val (.int xk), .val (.int (0 : Int32)), .val (.int ((2 : Int32) - (1 : Int32))), .val (.int (2 : Int32))] rfl 40 rfl ?_
    rw [show ((2 : Int32) - (1 : Int32)) = (1 : Int32) from rfl]
    refine o_goto X0 d1_40 7 (by decide) (by decide) ?_
    refine o_iloadN X0 d1_7 rfl 8 rfl ?_
    refine o_iloadN X0 d1_8 rfl 9 rfl ?_
    refine o_icmpGe X0 d1_9 43 12 (by decide) (by decide) rfl (fun q => by exfalso; exact absurd q (by decide)) ?_
    intro hc9_1
    refine o_iloadN X0 d1_12 rfl 13 rfl ?_
    refine o_iloadN X0 d1_13 rfl 14 rfl ?_
    refine o_iadd X0 d1_14 15 rfl ?_
    refine o_iconst (v := (1 : Int32)) X0 d1_15 rfl 16 rfl ?_
    refine o_iadd X0 d1_16 17 rfl ?_
    refine o_iconst (v := (1 : Int32)) X0 d1_17 rfl 18 rfl ?_
    refine o_iushr X0 d1_18 19 rfl ?_
    refine o_istore X0 d1_19 #[.val (.ref xa), .val (.int xk), .val (.int (0 : Int32)), .val (.int (1 : Int32)), .val (.int (XT.ushr (((0 : Int32) + (1 : Int32)) + (1 : Int32)) (1 : Int32)))] rfl 21 rfl ?_
    rw [show (XT.ushr (((0 : Int32) + (1 : Int32)) + (1 : Int32)) (1 : Int32)) = (1 : Int32) from rfl]
    refine o_aloadN X0 d1_21 rfl rfl 22 rfl ?_
    refine o_iload X0 d1_22 rfl 24 rfl ?_
    refine o_iaload X0 H0 0 rfl d1_24 1 rfl w1 rfl 25 rfl ?_
    refine o_iloadN X0 d1_25 rfl 26 rfl ?_
    refine o_icmpGt X0 d1_26 35 29 (by decide) (by decide) rfl ?_ ?_
    · intro hc26_1
      refine o_iload X0 d1_35 rfl 37 rfl ?_
      refine o_iconst (v := (1 : Int32)) X0 d1_37 rfl 38 rfl ?_
      refine o_isub X0 d1_38 39 rfl ?_
      refine o_istoreN X0 d1_39 #[.val (.ref xa), .val (.int xk), .val (.int (0 : Int32)), .val (.int ((1 : Int32) - (1 : Int32))), .val (.int (1 : Int32))] rfl 40 rfl ?_
      rw [show ((1 : Int32) - (1 : Int32)) = (0 : Int32) from rfl]
      refine o_goto X0 d1_40 7 (by decide) (by decide) ?_
      refine o_iloadN X0 d1_7 rfl 8 rfl ?_
      refine o_iloadN X0 d1_8 rfl 9 rfl ?_
      refine o_icmpGe X0 d1_9 43 12 (by decide) (by decide) rfl ?_ (fun q => by exfalso; exact absurd q (by decide))
      intro hc9_2
      refine o_iloadN X0 d1_43 rfl 44 rfl ?_
      exact o_retI X0 d1_44 (by decide) (by decide) (hQ _ _ ⟨by show some (Value.int (0 : Int32)) = some (Value.int (f_last4 w0 w1 w2 w3 xk)); by_cases a1 : xk < w1 <;> by_cases a2 : xk < w2 <;> by_cases a3 : xk < w3 <;> first | (simp [f_last4, a1, a2, a3]; done) | (exfalso; simp only [Int32.lt_iff_toInt_lt] at hs2 hs3 hc26 hc26_1 a1 a2 a3; omega), rfl⟩)
    · intro hc26_1
      refine o_iload X0 d1_29 rfl 31 rfl ?_
      refine o_istoreN X0 d1_31 #[.val (.ref xa), .val (.int xk), .val (.int (1 : Int32)), .val (.int (1 : Int32)), .val (.int (1 : Int32))] rfl 32 rfl ?_
      refine o_goto X0 d1_32 40 (by decide) (by decide) ?_
      refine o_goto X0 d1_40 7 (by decide) (by decide) ?_
      refine o_iloadN X0 d1_7 rfl 8 rfl ?_
      refine o_iloadN X0 d1_8 rfl 9 rfl ?_
      refine o_icmpGe X0 d1_9 43 12 (by decide) (by decide) rfl ?_ (fun q => by exfalso; exact absurd q (by decide))
      intro hc9_2
      refine o_iloadN X0 d1_43 rfl 44 rfl ?_
      exact o_retI X0 d1_44 (by decide) (by decide) (hQ _ _ ⟨by show some (Value.int (1 : Int32)) = some (Value.int (f_last4 w0 w1 w2 w3 xk)); by_cases a1 : xk < w1 <;> by_cases a2 : xk < w2 <;> by_cases a3 : xk < w3 <;> first | (simp [f_last4, a1, a2, a3]; done) | (exfalso; simp only [Int32.lt_iff_toInt_lt] at hs2 hs3 hc26 hc26_1 a1 a2 a3; omega), rfl⟩)
  · intro hc26
    refine o_iload X0 d1_29 rfl 31 rfl ?_
    refine o_istoreN X0 d1_31 #[.val (.ref xa), .val (.int xk), .val (.int (2 : Int32)), .val (.int (3 : Int32)), .val (.int (2 : Int32))] rfl 32 rfl ?_
    refine o_goto X0 d1_32 40 (by decide) (by decide) ?_
    refine o_goto X0 d1_40 7 (by decide) (by decide) ?_
    refine o_iloadN X0 d1_7 rfl 8 rfl ?_
    refine o_iloadN X0 d1_8 rfl 9 rfl ?_
    refine o_icmpGe X0 d1_9 43 12 (by decide) (by decide) rfl (fun q => by exfalso; exact absurd q (by decide)) ?_
    intro hc9_1
    refine o_iloadN X0 d1_12 rfl 13 rfl ?_
    refine o_iloadN X0 d1_13 rfl 14 rfl ?_
    refine o_iadd X0 d1_14 15 rfl ?_
    refine o_iconst (v := (1 : Int32)) X0 d1_15 rfl 16 rfl ?_
    refine o_iadd X0 d1_16 17 rfl ?_
    refine o_iconst (v := (1 : Int32)) X0 d1_17 rfl 18 rfl ?_
    refine o_iushr X0 d1_18 19 rfl ?_
    refine o_istore X0 d1_19 #[.val (.ref xa), .val (.int xk), .val (.int (2 : Int32)), .val (.int (3 : Int32)), .val (.int (XT.ushr (((2 : Int32) + (3 : Int32)) + (1 : Int32)) (1 : Int32)))] rfl 21 rfl ?_
    rw [show (XT.ushr (((2 : Int32) + (3 : Int32)) + (1 : Int32)) (1 : Int32)) = (3 : Int32) from rfl]
    refine o_aloadN X0 d1_21 rfl rfl 22 rfl ?_
    refine o_iload X0 d1_22 rfl 24 rfl ?_
    refine o_iaload X0 H0 0 rfl d1_24 3 rfl w3 rfl 25 rfl ?_
    refine o_iloadN X0 d1_25 rfl 26 rfl ?_
    refine o_icmpGt X0 d1_26 35 29 (by decide) (by decide) rfl ?_ ?_
    · intro hc26_1
      refine o_iload X0 d1_35 rfl 37 rfl ?_
      refine o_iconst (v := (1 : Int32)) X0 d1_37 rfl 38 rfl ?_
      refine o_isub X0 d1_38 39 rfl ?_
      refine o_istoreN X0 d1_39 #[.val (.ref xa), .val (.int xk), .val (.int (2 : Int32)), .val (.int ((3 : Int32) - (1 : Int32))), .val (.int (3 : Int32))] rfl 40 rfl ?_
      rw [show ((3 : Int32) - (1 : Int32)) = (2 : Int32) from rfl]
      refine o_goto X0 d1_40 7 (by decide) (by decide) ?_
      refine o_iloadN X0 d1_7 rfl 8 rfl ?_
      refine o_iloadN X0 d1_8 rfl 9 rfl ?_
      refine o_icmpGe X0 d1_9 43 12 (by decide) (by decide) rfl ?_ (fun q => by exfalso; exact absurd q (by decide))
      intro hc9_2
      refine o_iloadN X0 d1_43 rfl 44 rfl ?_
      exact o_retI X0 d1_44 (by decide) (by decide) (hQ _ _ ⟨by show some (Value.int (2 : Int32)) = some (Value.int (f_last4 w0 w1 w2 w3 xk)); by_cases a1 : xk < w1 <;> by_cases a2 : xk < w2 <;> by_cases a3 : xk < w3 <;> first | (simp [f_last4, a1, a2, a3]; done) | (exfalso; simp only [Int32.lt_iff_toInt_lt] at hs2 hs3 hc26 hc26_1 a1 a2 a3; omega), rfl⟩)
    · intro hc26_1
      refine o_iload X0 d1_29 rfl 31 rfl ?_
      refine o_istoreN X0 d1_31 #[.val (.ref xa), .val (.int xk), .val (.int (3 : Int32)), .val (.int (3 : Int32)), .val (.int (3 : Int32))] rfl 32 rfl ?_
      refine o_goto X0 d1_32 40 (by decide) (by decide) ?_
      refine o_goto X0 d1_40 7 (by decide) (by decide) ?_
      refine o_iloadN X0 d1_7 rfl 8 rfl ?_
      refine o_iloadN X0 d1_8 rfl 9 rfl ?_
      refine o_icmpGe X0 d1_9 43 12 (by decide) (by decide) rfl ?_ (fun q => by exfalso; exact absurd q (by decide))
      intro hc9_2
      refine o_iloadN X0 d1_43 rfl 44 rfl ?_
      exact o_retI X0 d1_44 (by decide) (by decide) (hQ _ _ ⟨by show some (Value.int (3 : Int32)) = some (Value.int (f_last4 w0 w1 w2 w3 xk)); by_cases a1 : xk < w1 <;> by_cases a2 : xk < w2 <;> by_cases a3 : xk < w3 <;> first | (simp [f_last4, a1, a2, a3]; done) | (exfalso; simp only [Int32.lt_iff_toInt_lt] at hs2 hs3 hc26 hc26_1 a1 a2 a3; omega), rfl⟩)
set_option maxRecDepth 65536 in
set_option maxHeartbeats 40000000 in
theorem c_law (l : Launch) (Z : State) (a0 : Array Value) (hw : ∀ d ∈ tables_1, d.before a0 Z = true) (ws : List Jvm.Cond) (n0 : Nat) (h0 : Heap) (hn0 : n0 ≤ h0.size) (x0 : Int32) (x1 : Int32) (x2 : Int32) (x3 : Int32) (xk : Int32) (xs : Int32) :
    OC l Z x code maxLocals ret ws room_1 n0 #[(.int x0), (.int x1), (.int x2), (.int x3), (.int xk), (.int xs)] h0 (fun r h => r = some (.int 1)) := by
  refine OC.of pn_1 hn0 #[.val (.int x0), .val (.int x1), .val (.int x2), .val (.int x3), .val (.int xk), .val (.int xs), .unset, .unset, .unset, .unset, .unset, .unset, .unset, .unset, .unset, .unset, .unset, .unset, .unset, .unset] (fun m => by first | (simp [entryFrame, mkF, argsToLocals, Value.category, maxLocals]; done) | rfl) ?_
  intro p e s m below meth cd0 T0 X0 Q' hQ
  have J154 : ∀ (T : State) (h : Heap) (v0 v1 v2 v3 : Int32) (sl : Slot), OW p l e room_1 s m #[(.int x0), (.int x1), (.int x2), (.int x3), (.int xk), (.int xs)] below meth cd0 Z x code maxLocals ret n0 T h 0 0 → (sl = .unset ∨ ∃ t : Int32, sl = .val (.int t)) → ¬ v1 < v0 → ¬ v2 < v1 → ¬ v3 < v2 → OE p e room_1 below s n0 Q' T (mkF m 154 #[.val (.int x0), .val (.int x1), .val (.int x2), .val (.int x3), .val (.int xk), .val (.int xs), .val (.int ((xs &&& (3 : Int32)) + (1 : Int32))), .val (.int v0), .val (.int v1), .val (.int v2), .val (.int v3), sl, .unset, .unset, .unset, .unset, .unset, .unset, .unset, .unset] []) := by
    intro T h v0 v1 v2 v3 sl X_J154 hsl so01 so12 so23
    refine o_iconst (v := (4 : Int32)) X_J154 at_154 rfl 155 rfl ?_
    refine o_newarray (L := []) X_J154 OL.nil at_155 (hw _ (List.mem_of_getElem? (i := 0) rfl)) rfl rfl 4 4 rfl (by decide) (by decide) 1 4 rfl rfl (by decide) (by decide) 157 rfl ?_
    intro T1 h1 b1 X1 H1
    replace H1 : OL n0 h1 ((b1, OA Z .int [(0 : Int32), (0 : Int32), (0 : Int32), (0 : Int32)]) :: []) := H1
    refine o_dup X1 at_157 rfl 158 rfl ?_
    refine o_iconst (v := (0 : Int32)) X1 at_158 rfl 159 rfl ?_
    refine o_iload X1 at_159 rfl 161 rfl ?_
    refine o_iastore X1 H1 0 rfl at_161 0 rfl (by show 0 < 4; decide) 162 rfl ?_
    intro T2 h2 X2 H2
    replace H2 : OL n0 h2 ((b1, OA Z .int [v0, (0 : Int32), (0 : Int32), (0 : Int32)]) :: []) := H2
    refine o_dup X2 at_162 rfl 163 rfl ?_
    refine o_iconst (v := (1 : Int32)) X2 at_163 rfl 164 rfl ?_
    refine o_iload X2 at_164 rfl 166 rfl ?_
    refine o_iastore X2 H2 0 rfl at_166 1 rfl (by show 1 < 4; decide) 167 rfl ?_
    intro T3 h3 X3 H3
    replace H3 : OL n0 h3 ((b1, OA Z .int [v0, v1, (0 : Int32), (0 : Int32)]) :: []) := H3
    refine o_dup X3 at_167 rfl 168 rfl ?_
    refine o_iconst (v := (2 : Int32)) X3 at_168 rfl 169 rfl ?_
    refine o_iload X3 at_169 rfl 171 rfl ?_
    refine o_iastore X3 H3 0 rfl at_171 2 rfl (by show 2 < 4; decide) 172 rfl ?_
    intro T4 h4 X4 H4
    replace H4 : OL n0 h4 ((b1, OA Z .int [v0, v1, v2, (0 : Int32)]) :: []) := H4
    refine o_dup X4 at_172 rfl 173 rfl ?_
    refine o_iconst (v := (3 : Int32)) X4 at_173 rfl 174 rfl ?_
    refine o_iload X4 at_174 rfl 176 rfl ?_
    refine o_iastore X4 H4 0 rfl at_176 3 rfl (by show 3 < 4; decide) 177 rfl ?_
    intro T5 h5 X5 H5
    replace H5 : OL n0 h5 ((b1, OA Z .int [v0, v1, v2, v3]) :: []) := H5
    refine o_astore X5 at_177 rfl #[.val (.int x0), .val (.int x1), .val (.int x2), .val (.int x3), .val (.int xk), .val (.int xs), .val (.int ((xs &&& (3 : Int32)) + (1 : Int32))), .val (.int v0), .val (.int v1), .val (.int v2), .val (.int v3), sl, .val (.ref b1), .unset, .unset, .unset, .unset, .unset, .unset, .unset] rfl 179 rfl ?_
    rcases v_len xs with hv | hv | hv | hv
    · rw [hv]
      refine o_iload X5 at_179 rfl 181 rfl ?_
      refine o_newarray (L := ((b1, OA Z .int [v0, v1, v2, v3]) :: [])) X5 H5 at_181 (hw _ (List.mem_of_getElem? (i := 0) rfl)) rfl rfl 1 1 rfl (by decide) (by decide) 2 5 rfl rfl (by decide) (by decide) 183 rfl ?_
      intro T6 h6 b6 X6 H6
      replace H6 : OL n0 h6 ((b6, OA Z .int [(0 : Int32)]) :: (b1, OA Z .int [v0, v1, v2, v3]) :: []) := H6
      refine o_astore X6 at_183 rfl #[.val (.int x0), .val (.int x1), .val (.int x2), .val (.int x3), .val (.int xk), .val (.int xs), .val (.int (1 : Int32)), .val (.int v0), .val (.int v1), .val (.int v2), .val (.int v3), sl, .val (.ref b1), .val (.ref b6), .unset, .unset, .unset, .unset, .unset, .unset] rfl 185 rfl ?_
      refine o_aload X6 at_185 rfl rfl 187 rfl ?_
      refine o_iconst (v := (0 : Int32)) X6 at_187 rfl 188 rfl ?_
      refine o_iload X6 at_188 rfl 190 rfl ?_
      refine o_iastore X6 H6 0 rfl at_190 0 rfl (by show 0 < 1; decide) 191 rfl ?_
      intro T7 h7 X7 H7
      replace H7 : OL n0 h7 ((b6, OA Z .int [v0]) :: (b1, OA Z .int [v0, v1, v2, v3]) :: []) := H7
      refine o_iload X7 at_191 rfl 193 rfl ?_
      refine o_iconst (v := (1 : Int32)) X7 at_193 rfl 194 rfl ?_
      refine o_icmpLe X7 at_194 203 197 (by decide) (by decide) rfl ?_ (fun q => by exfalso; exact absurd q (by decide))
      intro hc194
      refine o_iload X7 at_203 rfl 205 rfl ?_
      refine o_iconst (v := (2 : Int32)) X7 at_205 rfl 206 rfl ?_
      refine o_icmpLe X7 at_206 215 209 (by decide) (by decide) rfl ?_ (fun q => by exfalso; exact absurd q (by decide))
      intro hc206
      refine o_iload X7 at_215 rfl 217 rfl ?_
      refine o_iconst (v := (3 : Int32)) X7 at_217 rfl 218 rfl ?_
      refine o_icmpLe X7 at_218 227 221 (by decide) (by decide) rfl ?_ (fun q => by exfalso; exact absurd q (by decide))
      intro hc218
      refine o_iload X7 at_227 rfl 229 rfl ?_
      refine o_ldc (v := (2147483647 : Int32)) X7 at_229 (hw _ (List.mem_of_getElem? (i := 1) rfl)) 231 rfl ?_
      refine o_iand X7 at_231 232 rfl ?_
      refine o_iload X7 at_232 rfl 234 rfl ?_
      refine o_irem X7 at_234 (by decide) 235 rfl ?_
      refine o_istore X7 at_235 #[.val (.int x0), .val (.int x1), .val (.int x2), .val (.int x3), .val (.int xk), .val (.int xs), .val (.int (1 : Int32)), .val (.int v0), .val (.int v1), .val (.int v2), .val (.int v3), sl, .val (.ref b1), .val (.ref b6), .val (.int ((xk &&& (2147483647 : Int32)) % (1 : Int32))), .unset, .unset, .unset, .unset, .unset] rfl 237 rfl ?_
      refine o_aload X7 at_237 rfl rfl 239 rfl ?_
      refine o_iload X7 at_239 rfl 241 rfl ?_
      obtain ⟨xi, hxi, hxb⟩ := v_idx xk (1 : Int32) 1 rfl (by decide) (by decide) (by decide)
      obtain ⟨xq, hxq⟩ := v_get v0 v1 v2 v3 xi hxb
      refine o_iaload X7 H7 1 rfl at_241 xi hxi xq hxq 242 rfl ?_
      refine o_istore X7 at_242 #[.val (.int x0), .val (.int x1), .val (.int x2), .val (.int x3), .val (.int xk), .val (.int xs), .val (.int (1 : Int32)), .val (.int v0), .val (.int v1), .val (.int v2), .val (.int v3), sl, .val (.ref b1), .val (.ref b6), .val (.int ((xk &&& (2147483647 : Int32)) % (1 : Int32))), .val (.int xq), .unset, .unset, .unset, .unset] rfl 244 rfl ?_
      have J298 : ∀ (T : State) (h : Heap) (xm xkey : Int32), OW p l e room_1 s m #[(.int x0), (.int x1), (.int x2), (.int x3), (.int xk), (.int xs)] below meth cd0 Z x code maxLocals ret n0 T h 2 5 → OL n0 h ((b6, OA Z .int [v0]) :: (b1, OA Z .int [v0, v1, v2, v3]) :: []) → OE p e room_1 below s n0 Q' T (mkF m 298 #[.val (.int x0), .val (.int x1), .val (.int x2), .val (.int x3), .val (.int xk), .val (.int xs), .val (.int (1 : Int32)), .val (.int v0), .val (.int v1), .val (.int v2), .val (.int v3), sl, .val (.ref b1), .val (.ref b6), .val (.int ((xk &&& (2147483647 : Int32)) % (1 : Int32))), .val (.int xq), .val (.int xm), .val (.int xkey), .unset, .unset] []) := by
        intro T h xm xkey X_J298 H_J298
        refine o_iload X_J298 at_298 rfl 300 rfl ?_
        refine o_iload X_J298 at_300 rfl 302 rfl ?_
        refine o_icmpGe X_J298 at_302 307 305 (by decide) (by decide) rfl ?_ ?_
        · intro hc302
          refine o_iconst (v := (0 : Int32)) X_J298 at_307 rfl 308 rfl ?_
          refine o_istore X_J298 at_308 #[.val (.int x0), .val (.int x1), .val (.int x2), .val (.int x3), .val (.int xk), .val (.int xs), .val (.int (1 : Int32)), .val (.int v0), .val (.int v1), .val (.int v2), .val (.int v3), sl, .val (.ref b1), .val (.ref b6), .val (.int ((xk &&& (2147483647 : Int32)) % (1 : Int32))), .val (.int xq), .val (.int xm), .val (.int xkey), .val (.int (0 : Int32)), .unset] rfl 310 rfl ?_
          refine o_iload X_J298 at_310 rfl 312 rfl ?_
          refine o_iconst (v := (1 : Int32)) X_J298 at_312 rfl 313 rfl ?_
          refine o_icmpLe X_J298 at_313 326 316 (by decide) (by decide) rfl ?_ (fun q => by exfalso; exact absurd q (by decide))
          intro hc313
          refine o_iload X_J298 at_326 rfl 328 rfl ?_
          refine o_iconst (v := (2 : Int32)) X_J298 at_328 rfl 329 rfl ?_
          refine o_icmpLe X_J298 at_329 342 332 (by decide) (by decide) rfl ?_ (fun q => by exfalso; exact absurd q (by decide))
          intro hc329
          refine o_iload X_J298 at_342 rfl 344 rfl ?_
          refine o_iconst (v := (3 : Int32)) X_J298 at_344 rfl 345 rfl ?_
          refine o_icmpLe X_J298 at_345 358 348 (by decide) (by decide) rfl ?_ (fun q => by exfalso; exact absurd q (by decide))
          intro hc345
          refine o_aload X_J298 at_358 rfl rfl 360 rfl ?_
          refine o_iload X_J298 at_360 rfl 362 rfl ?_
          refine o_callS X_J298 at_362 (rest := []) (c_last1 l Z a0 hw [] n0 _ X_J298.size b6 xkey v0 ((b1, OA Z .int [v0, v1, v2, v3]) :: []) H_J298 ) (hw _ (List.mem_of_getElem? (i := 2) rfl)) (hw _ (List.mem_of_getElem? (i := 3) rfl)) (hw _ (List.mem_of_getElem? (i := 4) rfl)) (hw _ (List.mem_of_getElem? (i := 5) rfl)) (by decide) 0 (by decide) (by decide) rfl [(.ref b6), (.int xkey)] rfl pd_1 rfl rfl (Nat.le_of_eq rfl) 2 5 rfl rfl (by decide) (by decide) 365 rfl ?_
          rintro _ T8 _ X8 ⟨rfl, rfl⟩
          show OE p e room_1 below s n0 Q' T8 (mkF m 365 #[.val (.int x0), .val (.int x1), .val (.int x2), .val (.int x3), .val (.int xk), .val (.int xs), .val (.int (1 : Int32)), .val (.int v0), .val (.int v1), .val (.int v2), .val (.int v3), sl, .val (.ref b1), .val (.ref b6), .val (.int ((xk &&& (2147483647 : Int32)) % (1 : Int32))), .val (.int xq), .val (.int xm), .val (.int xkey), .val (.int (0 : Int32)), .unset] [(.int (f_last1 v0 xkey))])
          refine o_istore X8 at_365 #[.val (.int x0), .val (.int x1), .val (.int x2), .val (.int x3), .val (.int xk), .val (.int xs), .val (.int (1 : Int32)), .val (.int v0), .val (.int v1), .val (.int v2), .val (.int v3), sl, .val (.ref b1), .val (.ref b6), .val (.int ((xk &&& (2147483647 : Int32)) % (1 : Int32))), .val (.int xq), .val (.int xm), .val (.int xkey), .val (.int (0 : Int32)), .val (.int (f_last1 v0 xkey))] rfl 367 rfl ?_
          refine o_iload X8 at_367 rfl 369 rfl ?_
          refine o_iload X8 at_369 rfl 371 rfl ?_
          refine o_icmpNe X8 at_371 378 374 (by decide) (by decide) rfl (fun q => by exfalso; exact q rfl) ?_
          intro hc371
          refine o_iconst (v := (1 : Int32)) X8 at_374 rfl 375 rfl ?_
          refine o_goto X8 at_375 379 (by decide) (by decide) ?_
          exact o_retZ X8 at_379 (by decide) (by decide) (hQ _ _ rfl)
        · intro hc302
          refine o_iconst (v := (1 : Int32)) X_J298 at_305 rfl 306 rfl ?_
          exact o_retZ X_J298 at_306 (by decide) (by decide) (hQ _ _ rfl)
      refine o_iload X7 at_244 rfl 246 rfl ?_
      refine o_iconst (v := (5 : Int32)) X7 at_246 rfl 247 rfl ?_
      refine o_ishr X7 at_247 248 rfl ?_
      refine o_iconst (v := (3 : Int32)) X7 at_248 rfl 249 rfl ?_
      refine o_iand X7 at_249 250 rfl ?_
      refine o_istore X7 at_250 #[.val (.int x0), .val (.int x1), .val (.int x2), .val (.int x3), .val (.int xk), .val (.int xs), .val (.int (1 : Int32)), .val (.int v0), .val (.int v1), .val (.int v2), .val (.int v3), sl, .val (.ref b1), .val (.ref b6), .val (.int ((xk &&& (2147483647 : Int32)) % (1 : Int32))), .val (.int xq), .val (.int ((xs >>> ((5 : Int32) &&& 31)) &&& (3 : Int32))), .unset, .unset, .unset] rfl 252 rfl ?_
      refine o_iload X7 at_252 rfl 254 rfl ?_
      refine o_ifNe X7 at_254 264 257 (by decide) (by decide) rfl ?_ ?_
      · intro hc254
        refine o_iload X7 at_264 rfl 266 rfl ?_
        refine o_iconst (v := (1 : Int32)) X7 at_266 rfl 267 rfl ?_
        refine o_icmpNe X7 at_267 277 270 (by decide) (by decide) rfl ?_ ?_
        · intro hc267
          refine o_iload X7 at_277 rfl 279 rfl ?_
          refine o_iconst (v := (2 : Int32)) X7 at_279 rfl 280 rfl ?_
          refine o_icmpNe X7 at_280 292 283 (by decide) (by decide) rfl ?_ ?_
          · intro hc280
            refine o_iload X7 at_292 rfl 294 rfl ?_
            refine o_iconst (v := (1 : Int32)) X7 at_294 rfl 295 rfl ?_
            refine o_iadd X7 at_295 296 rfl ?_
            refine o_istore X7 at_296 #[.val (.int x0), .val (.int x1), .val (.int x2), .val (.int x3), .val (.int xk), .val (.int xs), .val (.int (1 : Int32)), .val (.int v0), .val (.int v1), .val (.int v2), .val (.int v3), sl, .val (.ref b1), .val (.ref b6), .val (.int ((xk &&& (2147483647 : Int32)) % (1 : Int32))), .val (.int xq), .val (.int ((xs >>> ((5 : Int32) &&& 31)) &&& (3 : Int32))), .val (.int (xq + (1 : Int32))), .unset, .unset] rfl 298 rfl ?_
            exact J298 _ _ _ _ X7 H7
          · intro hc280
            refine o_iload X7 at_283 rfl 285 rfl ?_
            refine o_iconst (v := (1 : Int32)) X7 at_285 rfl 286 rfl ?_
            refine o_isub X7 at_286 287 rfl ?_
            refine o_istore X7 at_287 #[.val (.int x0), .val (.int x1), .val (.int x2), .val (.int x3), .val (.int xk), .val (.int xs), .val (.int (1 : Int32)), .val (.int v0), .val (.int v1), .val (.int v2), .val (.int v3), sl, .val (.ref b1), .val (.ref b6), .val (.int ((xk &&& (2147483647 : Int32)) % (1 : Int32))), .val (.int xq), .val (.int ((xs >>> ((5 : Int32) &&& 31)) &&& (3 : Int32))), .val (.int (xq - (1 : Int32))), .unset, .unset] rfl 289 rfl ?_
            refine o_goto X7 at_289 298 (by decide) (by decide) ?_
            exact J298 _ _ _ _ X7 H7
        · intro hc267
          refine o_iload X7 at_270 rfl 272 rfl ?_
          refine o_istore X7 at_272 #[.val (.int x0), .val (.int x1), .val (.int x2), .val (.int x3), .val (.int xk), .val (.int xs), .val (.int (1 : Int32)), .val (.int v0), .val (.int v1), .val (.int v2), .val (.int v3), sl, .val (.ref b1), .val (.ref b6), .val (.int ((xk &&& (2147483647 : Int32)) % (1 : Int32))), .val (.int xq), .val (.int ((xs >>> ((5 : Int32) &&& 31)) &&& (3 : Int32))), .val (.int xq), .unset, .unset] rfl 274 rfl ?_
          refine o_goto X7 at_274 298 (by decide) (by decide) ?_
          exact J298 _ _ _ _ X7 H7
      · intro hc254
        refine o_iload X7 at_257 rfl 259 rfl ?_
        refine o_istore X7 at_259 #[.val (.int x0), .val (.int x1), .val (.int x2), .val (.int x3), .val (.int xk), .val (.int xs), .val (.int (1 : Int32)), .val (.int v0), .val (.int v1), .val (.int v2), .val (.int v3), sl, .val (.ref b1), .val (.ref b6), .val (.int ((xk &&& (2147483647 : Int32)) % (1 : Int32))), .val (.int xq), .val (.int ((xs >>> ((5 : Int32) &&& 31)) &&& (3 : Int32))), .val (.int xk), .unset, .unset] rfl 261 rfl ?_
        refine o_goto X7 at_261 298 (by decide) (by decide) ?_
        exact J298 _ _ _ _ X7 H7
    · rw [hv]
      refine o_iload X5 at_179 rfl 181 rfl ?_
      refine o_newarray (L := ((b1, OA Z .int [v0, v1, v2, v3]) :: [])) X5 H5 at_181 (hw _ (List.mem_of_getElem? (i := 0) rfl)) rfl rfl 2 2 rfl (by decide) (by decide) 2 6 rfl rfl (by decide) (by decide) 183 rfl ?_
      intro T9 h9 b9 X9 H9
      replace H9 : OL n0 h9 ((b9, OA Z .int [(0 : Int32), (0 : Int32)]) :: (b1, OA Z .int [v0, v1, v2, v3]) :: []) := H9
      refine o_astore X9 at_183 rfl #[.val (.int x0), .val (.int x1), .val (.int x2), .val (.int x3), .val (.int xk), .val (.int xs), .val (.int (2 : Int32)), .val (.int v0), .val (.int v1), .val (.int v2), .val (.int v3), sl, .val (.ref b1), .val (.ref b9), .unset, .unset, .unset, .unset, .unset, .unset] rfl 185 rfl ?_
      refine o_aload X9 at_185 rfl rfl 187 rfl ?_
      refine o_iconst (v := (0 : Int32)) X9 at_187 rfl 188 rfl ?_
      refine o_iload X9 at_188 rfl 190 rfl ?_
      refine o_iastore X9 H9 0 rfl at_190 0 rfl (by show 0 < 2; decide) 191 rfl ?_
      intro T10 h10 X10 H10
      replace H10 : OL n0 h10 ((b9, OA Z .int [v0, (0 : Int32)]) :: (b1, OA Z .int [v0, v1, v2, v3]) :: []) := H10
      refine o_iload X10 at_191 rfl 193 rfl ?_
      refine o_iconst (v := (1 : Int32)) X10 at_193 rfl 194 rfl ?_
      refine o_icmpLe X10 at_194 203 197 (by decide) (by decide) rfl (fun q => by exfalso; exact absurd q (by decide)) ?_
      intro hc194
      refine o_aload X10 at_197 rfl rfl 199 rfl ?_
      refine o_iconst (v := (1 : Int32)) X10 at_199 rfl 200 rfl ?_
      refine o_iload X10 at_200 rfl 202 rfl ?_
      refine o_iastore X10 H10 0 rfl at_202 1 rfl (by show 1 < 2; decide) 203 rfl ?_
      intro T11 h11 X11 H11
      replace H11 : OL n0 h11 ((b9, OA Z .int [v0, v1]) :: (b1, OA Z .int [v0, v1, v2, v3]) :: []) := H11
      refine o_iload X11 at_203 rfl 205 rfl ?_
      refine o_iconst (v := (2 : Int32)) X11 at_205 rfl 206 rfl ?_
      refine o_icmpLe X11 at_206 215 209 (by decide) (by decide) rfl ?_ (fun q => by exfalso; exact absurd q (by decide))
      intro hc206
      refine o_iload X11 at_215 rfl 217 rfl ?_
      refine o_iconst (v := (3 : Int32)) X11 at_217 rfl 218 rfl ?_
      refine o_icmpLe X11 at_218 227 221 (by decide) (by decide) rfl ?_ (fun q => by exfalso; exact absurd q (by decide))
      intro hc218
      refine o_iload X11 at_227 rfl 229 rfl ?_
      refine o_ldc (v := (2147483647 : Int32)) X11 at_229 (hw _ (List.mem_of_getElem? (i := 1) rfl)) 231 rfl ?_
      refine o_iand X11 at_231 232 rfl ?_
      refine o_iload X11 at_232 rfl 234 rfl ?_
      refine o_irem X11 at_234 (by decide) 235 rfl ?_
      refine o_istore X11 at_235 #[.val (.int x0), .val (.int x1), .val (.int x2), .val (.int x3), .val (.int xk), .val (.int xs), .val (.int (2 : Int32)), .val (.int v0), .val (.int v1), .val (.int v2), .val (.int v3), sl, .val (.ref b1), .val (.ref b9), .val (.int ((xk &&& (2147483647 : Int32)) % (2 : Int32))), .unset, .unset, .unset, .unset, .unset] rfl 237 rfl ?_
      refine o_aload X11 at_237 rfl rfl 239 rfl ?_
      refine o_iload X11 at_239 rfl 241 rfl ?_
      obtain ⟨xi, hxi, hxb⟩ := v_idx xk (2 : Int32) 2 rfl (by decide) (by decide) (by decide)
      obtain ⟨xq, hxq⟩ := v_get v0 v1 v2 v3 xi hxb
      refine o_iaload X11 H11 1 rfl at_241 xi hxi xq hxq 242 rfl ?_
      refine o_istore X11 at_242 #[.val (.int x0), .val (.int x1), .val (.int x2), .val (.int x3), .val (.int xk), .val (.int xs), .val (.int (2 : Int32)), .val (.int v0), .val (.int v1), .val (.int v2), .val (.int v3), sl, .val (.ref b1), .val (.ref b9), .val (.int ((xk &&& (2147483647 : Int32)) % (2 : Int32))), .val (.int xq), .unset, .unset, .unset, .unset] rfl 244 rfl ?_
      have J298 : ∀ (T : State) (h : Heap) (xm xkey : Int32), OW p l e room_1 s m #[(.int x0), (.int x1), (.int x2), (.int x3), (.int xk), (.int xs)] below meth cd0 Z x code maxLocals ret n0 T h 2 6 → OL n0 h ((b9, OA Z .int [v0, v1]) :: (b1, OA Z .int [v0, v1, v2, v3]) :: []) → OE p e room_1 below s n0 Q' T (mkF m 298 #[.val (.int x0), .val (.int x1), .val (.int x2), .val (.int x3), .val (.int xk), .val (.int xs), .val (.int (2 : Int32)), .val (.int v0), .val (.int v1), .val (.int v2), .val (.int v3), sl, .val (.ref b1), .val (.ref b9), .val (.int ((xk &&& (2147483647 : Int32)) % (2 : Int32))), .val (.int xq), .val (.int xm), .val (.int xkey), .unset, .unset] []) := by
        intro T h xm xkey X_J298 H_J298
        refine o_iload X_J298 at_298 rfl 300 rfl ?_
        refine o_iload X_J298 at_300 rfl 302 rfl ?_
        refine o_icmpGe X_J298 at_302 307 305 (by decide) (by decide) rfl ?_ ?_
        · intro hc302
          refine o_iconst (v := (0 : Int32)) X_J298 at_307 rfl 308 rfl ?_
          refine o_istore X_J298 at_308 #[.val (.int x0), .val (.int x1), .val (.int x2), .val (.int x3), .val (.int xk), .val (.int xs), .val (.int (2 : Int32)), .val (.int v0), .val (.int v1), .val (.int v2), .val (.int v3), sl, .val (.ref b1), .val (.ref b9), .val (.int ((xk &&& (2147483647 : Int32)) % (2 : Int32))), .val (.int xq), .val (.int xm), .val (.int xkey), .val (.int (0 : Int32)), .unset] rfl 310 rfl ?_
          refine o_iload X_J298 at_310 rfl 312 rfl ?_
          refine o_iconst (v := (1 : Int32)) X_J298 at_312 rfl 313 rfl ?_
          refine o_icmpLe X_J298 at_313 326 316 (by decide) (by decide) rfl (fun q => by exfalso; exact absurd q (by decide)) ?_
          intro hc313
          refine o_iload X_J298 at_316 rfl 318 rfl ?_
          refine o_iload X_J298 at_318 rfl 320 rfl ?_
          refine o_icmpGt X_J298 at_320 326 323 (by decide) (by decide) rfl ?_ ?_
          · intro hc320
            refine o_iload X_J298 at_326 rfl 328 rfl ?_
            refine o_iconst (v := (2 : Int32)) X_J298 at_328 rfl 329 rfl ?_
            refine o_icmpLe X_J298 at_329 342 332 (by decide) (by decide) rfl ?_ (fun q => by exfalso; exact absurd q (by decide))
            intro hc329
            refine o_iload X_J298 at_342 rfl 344 rfl ?_
            refine o_iconst (v := (3 : Int32)) X_J298 at_344 rfl 345 rfl ?_
            refine o_icmpLe X_J298 at_345 358 348 (by decide) (by decide) rfl ?_ (fun q => by exfalso; exact absurd q (by decide))
            intro hc345
            refine o_aload X_J298 at_358 rfl rfl 360 rfl ?_
            refine o_iload X_J298 at_360 rfl 362 rfl ?_
            refine o_callS X_J298 at_362 (rest := []) (c_last2 l Z a0 hw [] n0 _ X_J298.size b9 xkey v0 v1 ((b1, OA Z .int [v0, v1, v2, v3]) :: []) H_J298 so01) (hw _ (List.mem_of_getElem? (i := 2) rfl)) (hw _ (List.mem_of_getElem? (i := 3) rfl)) (hw _ (List.mem_of_getElem? (i := 4) rfl)) (hw _ (List.mem_of_getElem? (i := 5) rfl)) (by decide) 0 (by decide) (by decide) rfl [(.ref b9), (.int xkey)] rfl pd_1 rfl rfl (Nat.le_of_eq rfl) 2 6 rfl rfl (by decide) (by decide) 365 rfl ?_
            rintro _ T12 _ X12 ⟨rfl, rfl⟩
            show OE p e room_1 below s n0 Q' T12 (mkF m 365 #[.val (.int x0), .val (.int x1), .val (.int x2), .val (.int x3), .val (.int xk), .val (.int xs), .val (.int (2 : Int32)), .val (.int v0), .val (.int v1), .val (.int v2), .val (.int v3), sl, .val (.ref b1), .val (.ref b9), .val (.int ((xk &&& (2147483647 : Int32)) % (2 : Int32))), .val (.int xq), .val (.int xm), .val (.int xkey), .val (.int (0 : Int32)), .unset] [(.int (f_last2 v0 v1 xkey))])
            refine o_istore X12 at_365 #[.val (.int x0), .val (.int x1), .val (.int x2), .val (.int x3), .val (.int xk), .val (.int xs), .val (.int (2 : Int32)), .val (.int v0), .val (.int v1), .val (.int v2), .val (.int v3), sl, .val (.ref b1), .val (.ref b9), .val (.int ((xk &&& (2147483647 : Int32)) % (2 : Int32))), .val (.int xq), .val (.int xm), .val (.int xkey), .val (.int (0 : Int32)), .val (.int (f_last2 v0 v1 xkey))] rfl 367 rfl ?_
            refine o_iload X12 at_367 rfl 369 rfl ?_
            refine o_iload X12 at_369 rfl 371 rfl ?_
            refine o_icmpNe X12 at_371 378 374 (by decide) (by decide) rfl (fun q => by exfalso; exact q (by by_cases a1 : xkey < v1 <;> first | (simp [f_last2, a1]; done) | (exfalso; simp only [Int32.lt_iff_toInt_lt] at hc320 a1; omega))) ?_
            intro hc371
            refine o_iconst (v := (1 : Int32)) X12 at_374 rfl 375 rfl ?_
            refine o_goto X12 at_375 379 (by decide) (by decide) ?_
            exact o_retZ X12 at_379 (by decide) (by decide) (hQ _ _ rfl)
          · intro hc320
            refine o_iconst (v := (1 : Int32)) X_J298 at_323 rfl 324 rfl ?_
            refine o_istore X_J298 at_324 #[.val (.int x0), .val (.int x1), .val (.int x2), .val (.int x3), .val (.int xk), .val (.int xs), .val (.int (2 : Int32)), .val (.int v0), .val (.int v1), .val (.int v2), .val (.int v3), sl, .val (.ref b1), .val (.ref b9), .val (.int ((xk &&& (2147483647 : Int32)) % (2 : Int32))), .val (.int xq), .val (.int xm), .val (.int xkey), .val (.int (1 : Int32)), .unset] rfl 326 rfl ?_
            refine o_iload X_J298 at_326 rfl 328 rfl ?_
            refine o_iconst (v := (2 : Int32)) X_J298 at_328 rfl 329 rfl ?_
            refine o_icmpLe X_J298 at_329 342 332 (by decide) (by decide) rfl ?_ (fun q => by exfalso; exact absurd q (by decide))
            intro hc329
            refine o_iload X_J298 at_342 rfl 344 rfl ?_
            refine o_iconst (v := (3 : Int32)) X_J298 at_344 rfl 345 rfl ?_
            refine o_icmpLe X_J298 at_345 358 348 (by decide) (by decide) rfl ?_ (fun q => by exfalso; exact absurd q (by decide))
            intro hc345
            refine o_aload X_J298 at_358 rfl rfl 360 rfl ?_
            refine o_iload X_J298 at_360 rfl 362 rfl ?_
            refine o_callS X_J298 at_362 (rest := []) (c_last2 l Z a0 hw [] n0 _ X_J298.size b9 xkey v0 v1 ((b1, OA Z .int [v0, v1, v2, v3]) :: []) H_J298 so01) (hw _ (List.mem_of_getElem? (i := 2) rfl)) (hw _ (List.mem_of_getElem? (i := 3) rfl)) (hw _ (List.mem_of_getElem? (i := 4) rfl)) (hw _ (List.mem_of_getElem? (i := 5) rfl)) (by decide) 0 (by decide) (by decide) rfl [(.ref b9), (.int xkey)] rfl pd_1 rfl rfl (Nat.le_of_eq rfl) 2 6 rfl rfl (by decide) (by decide) 365 rfl ?_
            rintro _ T13 _ X13 ⟨rfl, rfl⟩
            show OE p e room_1 below s n0 Q' T13 (mkF m 365 #[.val (.int x0), .val (.int x1), .val (.int x2), .val (.int x3), .val (.int xk), .val (.int xs), .val (.int (2 : Int32)), .val (.int v0), .val (.int v1), .val (.int v2), .val (.int v3), sl, .val (.ref b1), .val (.ref b9), .val (.int ((xk &&& (2147483647 : Int32)) % (2 : Int32))), .val (.int xq), .val (.int xm), .val (.int xkey), .val (.int (1 : Int32)), .unset] [(.int (f_last2 v0 v1 xkey))])
            refine o_istore X13 at_365 #[.val (.int x0), .val (.int x1), .val (.int x2), .val (.int x3), .val (.int xk), .val (.int xs), .val (.int (2 : Int32)), .val (.int v0), .val (.int v1), .val (.int v2), .val (.int v3), sl, .val (.ref b1), .val (.ref b9), .val (.int ((xk &&& (2147483647 : Int32)) % (2 : Int32))), .val (.int xq), .val (.int xm), .val (.int xkey), .val (.int (1 : Int32)), .val (.int (f_last2 v0 v1 xkey))] rfl 367 rfl ?_
            refine o_iload X13 at_367 rfl 369 rfl ?_
            refine o_iload X13 at_369 rfl 371 rfl ?_
            refine o_icmpNe X13 at_371 378 374 (by decide) (by decide) rfl (fun q => by exfalso; exact q (by by_cases a1 : xkey < v1 <;> first | (simp [f_last2, a1]; done) | (exfalso; simp only [Int32.lt_iff_toInt_lt] at hc320 a1; omega))) ?_
            intro hc371
            refine o_iconst (v := (1 : Int32)) X13 at_374 rfl 375 rfl ?_
            refine o_goto X13 at_375 379 (by decide) (by decide) ?_
            exact o_retZ X13 at_379 (by decide) (by decide) (hQ _ _ rfl)
        · intro hc302
          refine o_iconst (v := (1 : Int32)) X_J298 at_305 rfl 306 rfl ?_
          exact o_retZ X_J298 at_306 (by decide) (by decide) (hQ _ _ rfl)
      refine o_iload X11 at_244 rfl 246 rfl ?_
      refine o_iconst (v := (5 : Int32)) X11 at_246 rfl 247 rfl ?_
      refine o_ishr X11 at_247 248 rfl ?_
      refine o_iconst (v := (3 : Int32)) X11 at_248 rfl 249 rfl ?_
      refine o_iand X11 at_249 250 rfl ?_
      refine o_istore X11 at_250 #[.val (.int x0), .val (.int x1), .val (.int x2), .val (.int x3), .val (.int xk), .val (.int xs), .val (.int (2 : Int32)), .val (.int v0), .val (.int v1), .val (.int v2), .val (.int v3), sl, .val (.ref b1), .val (.ref b9), .val (.int ((xk &&& (2147483647 : Int32)) % (2 : Int32))), .val (.int xq), .val (.int ((xs >>> ((5 : Int32) &&& 31)) &&& (3 : Int32))), .unset, .unset, .unset] rfl 252 rfl ?_
      refine o_iload X11 at_252 rfl 254 rfl ?_
      refine o_ifNe X11 at_254 264 257 (by decide) (by decide) rfl ?_ ?_
      · intro hc254
        refine o_iload X11 at_264 rfl 266 rfl ?_
        refine o_iconst (v := (1 : Int32)) X11 at_266 rfl 267 rfl ?_
        refine o_icmpNe X11 at_267 277 270 (by decide) (by decide) rfl ?_ ?_
        · intro hc267
          refine o_iload X11 at_277 rfl 279 rfl ?_
          refine o_iconst (v := (2 : Int32)) X11 at_279 rfl 280 rfl ?_
          refine o_icmpNe X11 at_280 292 283 (by decide) (by decide) rfl ?_ ?_
          · intro hc280
            refine o_iload X11 at_292 rfl 294 rfl ?_
            refine o_iconst (v := (1 : Int32)) X11 at_294 rfl 295 rfl ?_
            refine o_iadd X11 at_295 296 rfl ?_
            refine o_istore X11 at_296 #[.val (.int x0), .val (.int x1), .val (.int x2), .val (.int x3), .val (.int xk), .val (.int xs), .val (.int (2 : Int32)), .val (.int v0), .val (.int v1), .val (.int v2), .val (.int v3), sl, .val (.ref b1), .val (.ref b9), .val (.int ((xk &&& (2147483647 : Int32)) % (2 : Int32))), .val (.int xq), .val (.int ((xs >>> ((5 : Int32) &&& 31)) &&& (3 : Int32))), .val (.int (xq + (1 : Int32))), .unset, .unset] rfl 298 rfl ?_
            exact J298 _ _ _ _ X11 H11
          · intro hc280
            refine o_iload X11 at_283 rfl 285 rfl ?_
            refine o_iconst (v := (1 : Int32)) X11 at_285 rfl 286 rfl ?_
            refine o_isub X11 at_286 287 rfl ?_
            refine o_istore X11 at_287 #[.val (.int x0), .val (.int x1), .val (.int x2), .val (.int x3), .val (.int xk), .val (.int xs), .val (.int (2 : Int32)), .val (.int v0), .val (.int v1), .val (.int v2), .val (.int v3), sl, .val (.ref b1), .val (.ref b9), .val (.int ((xk &&& (2147483647 : Int32)) % (2 : Int32))), .val (.int xq), .val (.int ((xs >>> ((5 : Int32) &&& 31)) &&& (3 : Int32))), .val (.int (xq - (1 : Int32))), .unset, .unset] rfl 289 rfl ?_
            refine o_goto X11 at_289 298 (by decide) (by decide) ?_
            exact J298 _ _ _ _ X11 H11
        · intro hc267
          refine o_iload X11 at_270 rfl 272 rfl ?_
          refine o_istore X11 at_272 #[.val (.int x0), .val (.int x1), .val (.int x2), .val (.int x3), .val (.int xk), .val (.int xs), .val (.int (2 : Int32)), .val (.int v0), .val (.int v1), .val (.int v2), .val (.int v3), sl, .val (.ref b1), .val (.ref b9), .val (.int ((xk &&& (2147483647 : Int32)) % (2 : Int32))), .val (.int xq), .val (.int ((xs >>> ((5 : Int32) &&& 31)) &&& (3 : Int32))), .val (.int xq), .unset, .unset] rfl 274 rfl ?_
          refine o_goto X11 at_274 298 (by decide) (by decide) ?_
          exact J298 _ _ _ _ X11 H11
      · intro hc254
        refine o_iload X11 at_257 rfl 259 rfl ?_
        refine o_istore X11 at_259 #[.val (.int x0), .val (.int x1), .val (.int x2), .val (.int x3), .val (.int xk), .val (.int xs), .val (.int (2 : Int32)), .val (.int v0), .val (.int v1), .val (.int v2), .val (.int v3), sl, .val (.ref b1), .val (.ref b9), .val (.int ((xk &&& (2147483647 : Int32)) % (2 : Int32))), .val (.int xq), .val (.int ((xs >>> ((5 : Int32) &&& 31)) &&& (3 : Int32))), .val (.int xk), .unset, .unset] rfl 261 rfl ?_
        refine o_goto X11 at_261 298 (by decide) (by decide) ?_
        exact J298 _ _ _ _ X11 H11
    · rw [hv]
      refine o_iload X5 at_179 rfl 181 rfl ?_
      refine o_newarray (L := ((b1, OA Z .int [v0, v1, v2, v3]) :: [])) X5 H5 at_181 (hw _ (List.mem_of_getElem? (i := 0) rfl)) rfl rfl 3 3 rfl (by decide) (by decide) 2 7 rfl rfl (by decide) (by decide) 183 rfl ?_
      intro T14 h14 b14 X14 H14
      replace H14 : OL n0 h14 ((b14, OA Z .int [(0 : Int32), (0 : Int32), (0 : Int32)]) :: (b1, OA Z .int [v0, v1, v2, v3]) :: []) := H14
      refine o_astore X14 at_183 rfl #[.val (.int x0), .val (.int x1), .val (.int x2), .val (.int x3), .val (.int xk), .val (.int xs), .val (.int (3 : Int32)), .val (.int v0), .val (.int v1), .val (.int v2), .val (.int v3), sl, .val (.ref b1), .val (.ref b14), .unset, .unset, .unset, .unset, .unset, .unset] rfl 185 rfl ?_
      refine o_aload X14 at_185 rfl rfl 187 rfl ?_
      refine o_iconst (v := (0 : Int32)) X14 at_187 rfl 188 rfl ?_
      refine o_iload X14 at_188 rfl 190 rfl ?_
      refine o_iastore X14 H14 0 rfl at_190 0 rfl (by show 0 < 3; decide) 191 rfl ?_
      intro T15 h15 X15 H15
      replace H15 : OL n0 h15 ((b14, OA Z .int [v0, (0 : Int32), (0 : Int32)]) :: (b1, OA Z .int [v0, v1, v2, v3]) :: []) := H15
      refine o_iload X15 at_191 rfl 193 rfl ?_
      refine o_iconst (v := (1 : Int32)) X15 at_193 rfl 194 rfl ?_
      refine o_icmpLe X15 at_194 203 197 (by decide) (by decide) rfl (fun q => by exfalso; exact absurd q (by decide)) ?_
      intro hc194
      refine o_aload X15 at_197 rfl rfl 199 rfl ?_
      refine o_iconst (v := (1 : Int32)) X15 at_199 rfl 200 rfl ?_
      refine o_iload X15 at_200 rfl 202 rfl ?_
      refine o_iastore X15 H15 0 rfl at_202 1 rfl (by show 1 < 3; decide) 203 rfl ?_
      intro T16 h16 X16 H16
      replace H16 : OL n0 h16 ((b14, OA Z .int [v0, v1, (0 : Int32)]) :: (b1, OA Z .int [v0, v1, v2, v3]) :: []) := H16
      refine o_iload X16 at_203 rfl 205 rfl ?_
      refine o_iconst (v := (2 : Int32)) X16 at_205 rfl 206 rfl ?_
      refine o_icmpLe X16 at_206 215 209 (by decide) (by decide) rfl (fun q => by exfalso; exact absurd q (by decide)) ?_
      intro hc206
      refine o_aload X16 at_209 rfl rfl 211 rfl ?_
      refine o_iconst (v := (2 : Int32)) X16 at_211 rfl 212 rfl ?_
      refine o_iload X16 at_212 rfl 214 rfl ?_
      refine o_iastore X16 H16 0 rfl at_214 2 rfl (by show 2 < 3; decide) 215 rfl ?_
      intro T17 h17 X17 H17
      replace H17 : OL n0 h17 ((b14, OA Z .int [v0, v1, v2]) :: (b1, OA Z .int [v0, v1, v2, v3]) :: []) := H17
      refine o_iload X17 at_215 rfl 217 rfl ?_
      refine o_iconst (v := (3 : Int32)) X17 at_217 rfl 218 rfl ?_
      refine o_icmpLe X17 at_218 227 221 (by decide) (by decide) rfl ?_ (fun q => by exfalso; exact absurd q (by decide))
      intro hc218
      refine o_iload X17 at_227 rfl 229 rfl ?_
      refine o_ldc (v := (2147483647 : Int32)) X17 at_229 (hw _ (List.mem_of_getElem? (i := 1) rfl)) 231 rfl ?_
      refine o_iand X17 at_231 232 rfl ?_
      refine o_iload X17 at_232 rfl 234 rfl ?_
      refine o_irem X17 at_234 (by decide) 235 rfl ?_
      refine o_istore X17 at_235 #[.val (.int x0), .val (.int x1), .val (.int x2), .val (.int x3), .val (.int xk), .val (.int xs), .val (.int (3 : Int32)), .val (.int v0), .val (.int v1), .val (.int v2), .val (.int v3), sl, .val (.ref b1), .val (.ref b14), .val (.int ((xk &&& (2147483647 : Int32)) % (3 : Int32))), .unset, .unset, .unset, .unset, .unset] rfl 237 rfl ?_
      refine o_aload X17 at_237 rfl rfl 239 rfl ?_
      refine o_iload X17 at_239 rfl 241 rfl ?_
      obtain ⟨xi, hxi, hxb⟩ := v_idx xk (3 : Int32) 3 rfl (by decide) (by decide) (by decide)
      obtain ⟨xq, hxq⟩ := v_get v0 v1 v2 v3 xi hxb
      refine o_iaload X17 H17 1 rfl at_241 xi hxi xq hxq 242 rfl ?_
      refine o_istore X17 at_242 #[.val (.int x0), .val (.int x1), .val (.int x2), .val (.int x3), .val (.int xk), .val (.int xs), .val (.int (3 : Int32)), .val (.int v0), .val (.int v1), .val (.int v2), .val (.int v3), sl, .val (.ref b1), .val (.ref b14), .val (.int ((xk &&& (2147483647 : Int32)) % (3 : Int32))), .val (.int xq), .unset, .unset, .unset, .unset] rfl 244 rfl ?_
      have J298 : ∀ (T : State) (h : Heap) (xm xkey : Int32), OW p l e room_1 s m #[(.int x0), (.int x1), (.int x2), (.int x3), (.int xk), (.int xs)] below meth cd0 Z x code maxLocals ret n0 T h 2 7 → OL n0 h ((b14, OA Z .int [v0, v1, v2]) :: (b1, OA Z .int [v0, v1, v2, v3]) :: []) → OE p e room_1 below s n0 Q' T (mkF m 298 #[.val (.int x0), .val (.int x1), .val (.int x2), .val (.int x3), .val (.int xk), .val (.int xs), .val (.int (3 : Int32)), .val (.int v0), .val (.int v1), .val (.int v2), .val (.int v3), sl, .val (.ref b1), .val (.ref b14), .val (.int ((xk &&& (2147483647 : Int32)) % (3 : Int32))), .val (.int xq), .val (.int xm), .val (.int xkey), .unset, .unset] []) := by
        intro T h xm xkey X_J298 H_J298
        refine o_iload X_J298 at_298 rfl 300 rfl ?_
        refine o_iload X_J298 at_300 rfl 302 rfl ?_
        refine o_icmpGe X_J298 at_302 307 305 (by decide) (by decide) rfl ?_ ?_
        · intro hc302
          refine o_iconst (v := (0 : Int32)) X_J298 at_307 rfl 308 rfl ?_
          refine o_istore X_J298 at_308 #[.val (.int x0), .val (.int x1), .val (.int x2), .val (.int x3), .val (.int xk), .val (.int xs), .val (.int (3 : Int32)), .val (.int v0), .val (.int v1), .val (.int v2), .val (.int v3), sl, .val (.ref b1), .val (.ref b14), .val (.int ((xk &&& (2147483647 : Int32)) % (3 : Int32))), .val (.int xq), .val (.int xm), .val (.int xkey), .val (.int (0 : Int32)), .unset] rfl 310 rfl ?_
          refine o_iload X_J298 at_310 rfl 312 rfl ?_
          refine o_iconst (v := (1 : Int32)) X_J298 at_312 rfl 313 rfl ?_
          refine o_icmpLe X_J298 at_313 326 316 (by decide) (by decide) rfl (fun q => by exfalso; exact absurd q (by decide)) ?_
          intro hc313
          refine o_iload X_J298 at_316 rfl 318 rfl ?_
          refine o_iload X_J298 at_318 rfl 320 rfl ?_
          refine o_icmpGt X_J298 at_320 326 323 (by decide) (by decide) rfl ?_ ?_
          · intro hc320
            refine o_iload X_J298 at_326 rfl 328 rfl ?_
            refine o_iconst (v := (2 : Int32)) X_J298 at_328 rfl 329 rfl ?_
            refine o_icmpLe X_J298 at_329 342 332 (by decide) (by decide) rfl (fun q => by exfalso; exact absurd q (by decide)) ?_
            intro hc329
            refine o_iload X_J298 at_332 rfl 334 rfl ?_
            refine o_iload X_J298 at_334 rfl 336 rfl ?_
            refine o_icmpGt X_J298 at_336 342 339 (by decide) (by decide) rfl ?_ ?_
            · intro hc336
              refine o_iload X_J298 at_342 rfl 344 rfl ?_
              refine o_iconst (v := (3 : Int32)) X_J298 at_344 rfl 345 rfl ?_
              refine o_icmpLe X_J298 at_345 358 348 (by decide) (by decide) rfl ?_ (fun q => by exfalso; exact absurd q (by decide))
              intro hc345
              refine o_aload X_J298 at_358 rfl rfl 360 rfl ?_
              refine o_iload X_J298 at_360 rfl 362 rfl ?_
              refine o_callS X_J298 at_362 (rest := []) (c_last3 l Z a0 hw [] n0 _ X_J298.size b14 xkey v0 v1 v2 ((b1, OA Z .int [v0, v1, v2, v3]) :: []) H_J298 so01 so12) (hw _ (List.mem_of_getElem? (i := 2) rfl)) (hw _ (List.mem_of_getElem? (i := 3) rfl)) (hw _ (List.mem_of_getElem? (i := 4) rfl)) (hw _ (List.mem_of_getElem? (i := 5) rfl)) (by decide) 0 (by decide) (by decide) rfl [(.ref b14), (.int xkey)] rfl pd_1 rfl rfl (Nat.le_of_eq rfl) 2 7 rfl rfl (by decide) (by decide) 365 rfl ?_
              rintro _ T18 _ X18 ⟨rfl, rfl⟩
              show OE p e room_1 below s n0 Q' T18 (mkF m 365 #[.val (.int x0), .val (.int x1), .val (.int x2), .val (.int x3), .val (.int xk), .val (.int xs), .val (.int (3 : Int32)), .val (.int v0), .val (.int v1), .val (.int v2), .val (.int v3), sl, .val (.ref b1), .val (.ref b14), .val (.int ((xk &&& (2147483647 : Int32)) % (3 : Int32))), .val (.int xq), .val (.int xm), .val (.int xkey), .val (.int (0 : Int32)), .unset] [(.int (f_last3 v0 v1 v2 xkey))])
              refine o_istore X18 at_365 #[.val (.int x0), .val (.int x1), .val (.int x2), .val (.int x3), .val (.int xk), .val (.int xs), .val (.int (3 : Int32)), .val (.int v0), .val (.int v1), .val (.int v2), .val (.int v3), sl, .val (.ref b1), .val (.ref b14), .val (.int ((xk &&& (2147483647 : Int32)) % (3 : Int32))), .val (.int xq), .val (.int xm), .val (.int xkey), .val (.int (0 : Int32)), .val (.int (f_last3 v0 v1 v2 xkey))] rfl 367 rfl ?_
              refine o_iload X18 at_367 rfl 369 rfl ?_
              refine o_iload X18 at_369 rfl 371 rfl ?_
              refine o_icmpNe X18 at_371 378 374 (by decide) (by decide) rfl (fun q => by exfalso; exact q (by by_cases a1 : xkey < v1 <;> by_cases a2 : xkey < v2 <;> first | (simp [f_last3, a1, a2]; done) | (exfalso; simp only [Int32.lt_iff_toInt_lt] at so12 hc320 hc336 a1 a2; omega))) ?_
              intro hc371
              refine o_iconst (v := (1 : Int32)) X18 at_374 rfl 375 rfl ?_
              refine o_goto X18 at_375 379 (by decide) (by decide) ?_
              exact o_retZ X18 at_379 (by decide) (by decide) (hQ _ _ rfl)
            · intro hc336
              refine o_iconst (v := (2 : Int32)) X_J298 at_339 rfl 340 rfl ?_
              refine o_istore X_J298 at_340 #[.val (.int x0), .val (.int x1), .val (.int x2), .val (.int x3), .val (.int xk), .val (.int xs), .val (.int (3 : Int32)), .val (.int v0), .val (.int v1), .val (.int v2), .val (.int v3), sl, .val (.ref b1), .val (.ref b14), .val (.int ((xk &&& (2147483647 : Int32)) % (3 : Int32))), .val (.int xq), .val (.int xm), .val (.int xkey), .val (.int (2 : Int32)), .unset] rfl 342 rfl ?_
              refine o_iload X_J298 at_342 rfl 344 rfl ?_
              refine o_iconst (v := (3 : Int32)) X_J298 at_344 rfl 345 rfl ?_
              refine o_icmpLe X_J298 at_345 358 348 (by decide) (by decide) rfl ?_ (fun q => by exfalso; exact absurd q (by decide))
              intro hc345
              refine o_aload X_J298 at_358 rfl rfl 360 rfl ?_
              refine o_iload X_J298 at_360 rfl 362 rfl ?_
              refine o_callS X_J298 at_362 (rest := []) (c_last3 l Z a0 hw [] n0 _ X_J298.size b14 xkey v0 v1 v2 ((b1, OA Z .int [v0, v1, v2, v3]) :: []) H_J298 so01 so12) (hw _ (List.mem_of_getElem? (i := 2) rfl)) (hw _ (List.mem_of_getElem? (i := 3) rfl)) (hw _ (List.mem_of_getElem? (i := 4) rfl)) (hw _ (List.mem_of_getElem? (i := 5) rfl)) (by decide) 0 (by decide) (by decide) rfl [(.ref b14), (.int xkey)] rfl pd_1 rfl rfl (Nat.le_of_eq rfl) 2 7 rfl rfl (by decide) (by decide) 365 rfl ?_
              rintro _ T19 _ X19 ⟨rfl, rfl⟩
              show OE p e room_1 below s n0 Q' T19 (mkF m 365 #[.val (.int x0), .val (.int x1), .val (.int x2), .val (.int x3), .val (.int xk), .val (.int xs), .val (.int (3 : Int32)), .val (.int v0), .val (.int v1), .val (.int v2), .val (.int v3), sl, .val (.ref b1), .val (.ref b14), .val (.int ((xk &&& (2147483647 : Int32)) % (3 : Int32))), .val (.int xq), .val (.int xm), .val (.int xkey), .val (.int (2 : Int32)), .unset] [(.int (f_last3 v0 v1 v2 xkey))])
              refine o_istore X19 at_365 #[.val (.int x0), .val (.int x1), .val (.int x2), .val (.int x3), .val (.int xk), .val (.int xs), .val (.int (3 : Int32)), .val (.int v0), .val (.int v1), .val (.int v2), .val (.int v3), sl, .val (.ref b1), .val (.ref b14), .val (.int ((xk &&& (2147483647 : Int32)) % (3 : Int32))), .val (.int xq), .val (.int xm), .val (.int xkey), .val (.int (2 : Int32)), .val (.int (f_last3 v0 v1 v2 xkey))] rfl 367 rfl ?_
              refine o_iload X19 at_367 rfl 369 rfl ?_
              refine o_iload X19 at_369 rfl 371 rfl ?_
              refine o_icmpNe X19 at_371 378 374 (by decide) (by decide) rfl (fun q => by exfalso; exact q (by by_cases a1 : xkey < v1 <;> by_cases a2 : xkey < v2 <;> first | (simp [f_last3, a1, a2]; done) | (exfalso; simp only [Int32.lt_iff_toInt_lt] at so12 hc320 hc336 a1 a2; omega))) ?_
              intro hc371
              refine o_iconst (v := (1 : Int32)) X19 at_374 rfl 375 rfl ?_
              refine o_goto X19 at_375 379 (by decide) (by decide) ?_
              exact o_retZ X19 at_379 (by decide) (by decide) (hQ _ _ rfl)
          · intro hc320
            refine o_iconst (v := (1 : Int32)) X_J298 at_323 rfl 324 rfl ?_
            refine o_istore X_J298 at_324 #[.val (.int x0), .val (.int x1), .val (.int x2), .val (.int x3), .val (.int xk), .val (.int xs), .val (.int (3 : Int32)), .val (.int v0), .val (.int v1), .val (.int v2), .val (.int v3), sl, .val (.ref b1), .val (.ref b14), .val (.int ((xk &&& (2147483647 : Int32)) % (3 : Int32))), .val (.int xq), .val (.int xm), .val (.int xkey), .val (.int (1 : Int32)), .unset] rfl 326 rfl ?_
            refine o_iload X_J298 at_326 rfl 328 rfl ?_
            refine o_iconst (v := (2 : Int32)) X_J298 at_328 rfl 329 rfl ?_
            refine o_icmpLe X_J298 at_329 342 332 (by decide) (by decide) rfl (fun q => by exfalso; exact absurd q (by decide)) ?_
            intro hc329
            refine o_iload X_J298 at_332 rfl 334 rfl ?_
            refine o_iload X_J298 at_334 rfl 336 rfl ?_
            refine o_icmpGt X_J298 at_336 342 339 (by decide) (by decide) rfl ?_ ?_
            · intro hc336
              refine o_iload X_J298 at_342 rfl 344 rfl ?_
              refine o_iconst (v := (3 : Int32)) X_J298 at_344 rfl 345 rfl ?_
              refine o_icmpLe X_J298 at_345 358 348 (by decide) (by decide) rfl ?_ (fun q => by exfalso; exact absurd q (by decide))
              intro hc345
              refine o_aload X_J298 at_358 rfl rfl 360 rfl ?_
              refine o_iload X_J298 at_360 rfl 362 rfl ?_
              refine o_callS X_J298 at_362 (rest := []) (c_last3 l Z a0 hw [] n0 _ X_J298.size b14 xkey v0 v1 v2 ((b1, OA Z .int [v0, v1, v2, v3]) :: []) H_J298 so01 so12) (hw _ (List.mem_of_getElem? (i := 2) rfl)) (hw _ (List.mem_of_getElem? (i := 3) rfl)) (hw _ (List.mem_of_getElem? (i := 4) rfl)) (hw _ (List.mem_of_getElem? (i := 5) rfl)) (by decide) 0 (by decide) (by decide) rfl [(.ref b14), (.int xkey)] rfl pd_1 rfl rfl (Nat.le_of_eq rfl) 2 7 rfl rfl (by decide) (by decide) 365 rfl ?_
              rintro _ T20 _ X20 ⟨rfl, rfl⟩
              show OE p e room_1 below s n0 Q' T20 (mkF m 365 #[.val (.int x0), .val (.int x1), .val (.int x2), .val (.int x3), .val (.int xk), .val (.int xs), .val (.int (3 : Int32)), .val (.int v0), .val (.int v1), .val (.int v2), .val (.int v3), sl, .val (.ref b1), .val (.ref b14), .val (.int ((xk &&& (2147483647 : Int32)) % (3 : Int32))), .val (.int xq), .val (.int xm), .val (.int xkey), .val (.int (1 : Int32)), .unset] [(.int (f_last3 v0 v1 v2 xkey))])
              refine o_istore X20 at_365 #[.val (.int x0), .val (.int x1), .val (.int x2), .val (.int x3), .val (.int xk), .val (.int xs), .val (.int (3 : Int32)), .val (.int v0), .val (.int v1), .val (.int v2), .val (.int v3), sl, .val (.ref b1), .val (.ref b14), .val (.int ((xk &&& (2147483647 : Int32)) % (3 : Int32))), .val (.int xq), .val (.int xm), .val (.int xkey), .val (.int (1 : Int32)), .val (.int (f_last3 v0 v1 v2 xkey))] rfl 367 rfl ?_
              refine o_iload X20 at_367 rfl 369 rfl ?_
              refine o_iload X20 at_369 rfl 371 rfl ?_
              refine o_icmpNe X20 at_371 378 374 (by decide) (by decide) rfl (fun q => by exfalso; exact q (by by_cases a1 : xkey < v1 <;> by_cases a2 : xkey < v2 <;> first | (simp [f_last3, a1, a2]; done) | (exfalso; simp only [Int32.lt_iff_toInt_lt] at so12 hc320 hc336 a1 a2; omega))) ?_
              intro hc371
              refine o_iconst (v := (1 : Int32)) X20 at_374 rfl 375 rfl ?_
              refine o_goto X20 at_375 379 (by decide) (by decide) ?_
              exact o_retZ X20 at_379 (by decide) (by decide) (hQ _ _ rfl)
            · intro hc336
              refine o_iconst (v := (2 : Int32)) X_J298 at_339 rfl 340 rfl ?_
              refine o_istore X_J298 at_340 #[.val (.int x0), .val (.int x1), .val (.int x2), .val (.int x3), .val (.int xk), .val (.int xs), .val (.int (3 : Int32)), .val (.int v0), .val (.int v1), .val (.int v2), .val (.int v3), sl, .val (.ref b1), .val (.ref b14), .val (.int ((xk &&& (2147483647 : Int32)) % (3 : Int32))), .val (.int xq), .val (.int xm), .val (.int xkey), .val (.int (2 : Int32)), .unset] rfl 342 rfl ?_
              refine o_iload X_J298 at_342 rfl 344 rfl ?_
              refine o_iconst (v := (3 : Int32)) X_J298 at_344 rfl 345 rfl ?_
              refine o_icmpLe X_J298 at_345 358 348 (by decide) (by decide) rfl ?_ (fun q => by exfalso; exact absurd q (by decide))
              intro hc345
              refine o_aload X_J298 at_358 rfl rfl 360 rfl ?_
              refine o_iload X_J298 at_360 rfl 362 rfl ?_
              refine o_callS X_J298 at_362 (rest := []) (c_last3 l Z a0 hw [] n0 _ X_J298.size b14 xkey v0 v1 v2 ((b1, OA Z .int [v0, v1, v2, v3]) :: []) H_J298 so01 so12) (hw _ (List.mem_of_getElem? (i := 2) rfl)) (hw _ (List.mem_of_getElem? (i := 3) rfl)) (hw _ (List.mem_of_getElem? (i := 4) rfl)) (hw _ (List.mem_of_getElem? (i := 5) rfl)) (by decide) 0 (by decide) (by decide) rfl [(.ref b14), (.int xkey)] rfl pd_1 rfl rfl (Nat.le_of_eq rfl) 2 7 rfl rfl (by decide) (by decide) 365 rfl ?_
              rintro _ T21 _ X21 ⟨rfl, rfl⟩
              show OE p e room_1 below s n0 Q' T21 (mkF m 365 #[.val (.int x0), .val (.int x1), .val (.int x2), .val (.int x3), .val (.int xk), .val (.int xs), .val (.int (3 : Int32)), .val (.int v0), .val (.int v1), .val (.int v2), .val (.int v3), sl, .val (.ref b1), .val (.ref b14), .val (.int ((xk &&& (2147483647 : Int32)) % (3 : Int32))), .val (.int xq), .val (.int xm), .val (.int xkey), .val (.int (2 : Int32)), .unset] [(.int (f_last3 v0 v1 v2 xkey))])
              refine o_istore X21 at_365 #[.val (.int x0), .val (.int x1), .val (.int x2), .val (.int x3), .val (.int xk), .val (.int xs), .val (.int (3 : Int32)), .val (.int v0), .val (.int v1), .val (.int v2), .val (.int v3), sl, .val (.ref b1), .val (.ref b14), .val (.int ((xk &&& (2147483647 : Int32)) % (3 : Int32))), .val (.int xq), .val (.int xm), .val (.int xkey), .val (.int (2 : Int32)), .val (.int (f_last3 v0 v1 v2 xkey))] rfl 367 rfl ?_
              refine o_iload X21 at_367 rfl 369 rfl ?_
              refine o_iload X21 at_369 rfl 371 rfl ?_
              refine o_icmpNe X21 at_371 378 374 (by decide) (by decide) rfl (fun q => by exfalso; exact q (by by_cases a1 : xkey < v1 <;> by_cases a2 : xkey < v2 <;> first | (simp [f_last3, a1, a2]; done) | (exfalso; simp only [Int32.lt_iff_toInt_lt] at so12 hc320 hc336 a1 a2; omega))) ?_
              intro hc371
              refine o_iconst (v := (1 : Int32)) X21 at_374 rfl 375 rfl ?_
              refine o_goto X21 at_375 379 (by decide) (by decide) ?_
              exact o_retZ X21 at_379 (by decide) (by decide) (hQ _ _ rfl)
        · intro hc302
          refine o_iconst (v := (1 : Int32)) X_J298 at_305 rfl 306 rfl ?_
          exact o_retZ X_J298 at_306 (by decide) (by decide) (hQ _ _ rfl)
      refine o_iload X17 at_244 rfl 246 rfl ?_
      refine o_iconst (v := (5 : Int32)) X17 at_246 rfl 247 rfl ?_
      refine o_ishr X17 at_247 248 rfl ?_
      refine o_iconst (v := (3 : Int32)) X17 at_248 rfl 249 rfl ?_
      refine o_iand X17 at_249 250 rfl ?_
      refine o_istore X17 at_250 #[.val (.int x0), .val (.int x1), .val (.int x2), .val (.int x3), .val (.int xk), .val (.int xs), .val (.int (3 : Int32)), .val (.int v0), .val (.int v1), .val (.int v2), .val (.int v3), sl, .val (.ref b1), .val (.ref b14), .val (.int ((xk &&& (2147483647 : Int32)) % (3 : Int32))), .val (.int xq), .val (.int ((xs >>> ((5 : Int32) &&& 31)) &&& (3 : Int32))), .unset, .unset, .unset] rfl 252 rfl ?_
      refine o_iload X17 at_252 rfl 254 rfl ?_
      refine o_ifNe X17 at_254 264 257 (by decide) (by decide) rfl ?_ ?_
      · intro hc254
        refine o_iload X17 at_264 rfl 266 rfl ?_
        refine o_iconst (v := (1 : Int32)) X17 at_266 rfl 267 rfl ?_
        refine o_icmpNe X17 at_267 277 270 (by decide) (by decide) rfl ?_ ?_
        · intro hc267
          refine o_iload X17 at_277 rfl 279 rfl ?_
          refine o_iconst (v := (2 : Int32)) X17 at_279 rfl 280 rfl ?_
          refine o_icmpNe X17 at_280 292 283 (by decide) (by decide) rfl ?_ ?_
          · intro hc280
            refine o_iload X17 at_292 rfl 294 rfl ?_
            refine o_iconst (v := (1 : Int32)) X17 at_294 rfl 295 rfl ?_
            refine o_iadd X17 at_295 296 rfl ?_
            refine o_istore X17 at_296 #[.val (.int x0), .val (.int x1), .val (.int x2), .val (.int x3), .val (.int xk), .val (.int xs), .val (.int (3 : Int32)), .val (.int v0), .val (.int v1), .val (.int v2), .val (.int v3), sl, .val (.ref b1), .val (.ref b14), .val (.int ((xk &&& (2147483647 : Int32)) % (3 : Int32))), .val (.int xq), .val (.int ((xs >>> ((5 : Int32) &&& 31)) &&& (3 : Int32))), .val (.int (xq + (1 : Int32))), .unset, .unset] rfl 298 rfl ?_
            exact J298 _ _ _ _ X17 H17
          · intro hc280
            refine o_iload X17 at_283 rfl 285 rfl ?_
            refine o_iconst (v := (1 : Int32)) X17 at_285 rfl 286 rfl ?_
            refine o_isub X17 at_286 287 rfl ?_
            refine o_istore X17 at_287 #[.val (.int x0), .val (.int x1), .val (.int x2), .val (.int x3), .val (.int xk), .val (.int xs), .val (.int (3 : Int32)), .val (.int v0), .val (.int v1), .val (.int v2), .val (.int v3), sl, .val (.ref b1), .val (.ref b14), .val (.int ((xk &&& (2147483647 : Int32)) % (3 : Int32))), .val (.int xq), .val (.int ((xs >>> ((5 : Int32) &&& 31)) &&& (3 : Int32))), .val (.int (xq - (1 : Int32))), .unset, .unset] rfl 289 rfl ?_
            refine o_goto X17 at_289 298 (by decide) (by decide) ?_
            exact J298 _ _ _ _ X17 H17
        · intro hc267
          refine o_iload X17 at_270 rfl 272 rfl ?_
          refine o_istore X17 at_272 #[.val (.int x0), .val (.int x1), .val (.int x2), .val (.int x3), .val (.int xk), .val (.int xs), .val (.int (3 : Int32)), .val (.int v0), .val (.int v1), .val (.int v2), .val (.int v3), sl, .val (.ref b1), .val (.ref b14), .val (.int ((xk &&& (2147483647 : Int32)) % (3 : Int32))), .val (.int xq), .val (.int ((xs >>> ((5 : Int32) &&& 31)) &&& (3 : Int32))), .val (.int xq), .unset, .unset] rfl 274 rfl ?_
          refine o_goto X17 at_274 298 (by decide) (by decide) ?_
          exact J298 _ _ _ _ X17 H17
      · intro hc254
        refine o_iload X17 at_257 rfl 259 rfl ?_
        refine o_istore X17 at_259 #[.val (.int x0), .val (.int x1), .val (.int x2), .val (.int x3), .val (.int xk), .val (.int xs), .val (.int (3 : Int32)), .val (.int v0), .val (.int v1), .val (.int v2), .val (.int v3), sl, .val (.ref b1), .val (.ref b14), .val (.int ((xk &&& (2147483647 : Int32)) % (3 : Int32))), .val (.int xq), .val (.int ((xs >>> ((5 : Int32) &&& 31)) &&& (3 : Int32))), .val (.int xk), .unset, .unset] rfl 261 rfl ?_
        refine o_goto X17 at_261 298 (by decide) (by decide) ?_
        exact J298 _ _ _ _ X17 H17
    · rw [hv]
      refine o_iload X5 at_179 rfl 181 rfl ?_
      refine o_newarray (L := ((b1, OA Z .int [v0, v1, v2, v3]) :: [])) X5 H5 at_181 (hw _ (List.mem_of_getElem? (i := 0) rfl)) rfl rfl 4 4 rfl (by decide) (by decide) 2 8 rfl rfl (by decide) (by decide) 183 rfl ?_
      intro T22 h22 b22 X22 H22
      replace H22 : OL n0 h22 ((b22, OA Z .int [(0 : Int32), (0 : Int32), (0 : Int32), (0 : Int32)]) :: (b1, OA Z .int [v0, v1, v2, v3]) :: []) := H22
      refine o_astore X22 at_183 rfl #[.val (.int x0), .val (.int x1), .val (.int x2), .val (.int x3), .val (.int xk), .val (.int xs), .val (.int (4 : Int32)), .val (.int v0), .val (.int v1), .val (.int v2), .val (.int v3), sl, .val (.ref b1), .val (.ref b22), .unset, .unset, .unset, .unset, .unset, .unset] rfl 185 rfl ?_
      refine o_aload X22 at_185 rfl rfl 187 rfl ?_
      refine o_iconst (v := (0 : Int32)) X22 at_187 rfl 188 rfl ?_
      refine o_iload X22 at_188 rfl 190 rfl ?_
      refine o_iastore X22 H22 0 rfl at_190 0 rfl (by show 0 < 4; decide) 191 rfl ?_
      intro T23 h23 X23 H23
      replace H23 : OL n0 h23 ((b22, OA Z .int [v0, (0 : Int32), (0 : Int32), (0 : Int32)]) :: (b1, OA Z .int [v0, v1, v2, v3]) :: []) := H23
      refine o_iload X23 at_191 rfl 193 rfl ?_
      refine o_iconst (v := (1 : Int32)) X23 at_193 rfl 194 rfl ?_
      refine o_icmpLe X23 at_194 203 197 (by decide) (by decide) rfl (fun q => by exfalso; exact absurd q (by decide)) ?_
      intro hc194
      refine o_aload X23 at_197 rfl rfl 199 rfl ?_
      refine o_iconst (v := (1 : Int32)) X23 at_199 rfl 200 rfl ?_
      refine o_iload X23 at_200 rfl 202 rfl ?_
      refine o_iastore X23 H23 0 rfl at_202 1 rfl (by show 1 < 4; decide) 203 rfl ?_
      intro T24 h24 X24 H24
      replace H24 : OL n0 h24 ((b22, OA Z .int [v0, v1, (0 : Int32), (0 : Int32)]) :: (b1, OA Z .int [v0, v1, v2, v3]) :: []) := H24
      refine o_iload X24 at_203 rfl 205 rfl ?_
      refine o_iconst (v := (2 : Int32)) X24 at_205 rfl 206 rfl ?_
      refine o_icmpLe X24 at_206 215 209 (by decide) (by decide) rfl (fun q => by exfalso; exact absurd q (by decide)) ?_
      intro hc206
      refine o_aload X24 at_209 rfl rfl 211 rfl ?_
      refine o_iconst (v := (2 : Int32)) X24 at_211 rfl 212 rfl ?_
      refine o_iload X24 at_212 rfl 214 rfl ?_
      refine o_iastore X24 H24 0 rfl at_214 2 rfl (by show 2 < 4; decide) 215 rfl ?_
      intro T25 h25 X25 H25
      replace H25 : OL n0 h25 ((b22, OA Z .int [v0, v1, v2, (0 : Int32)]) :: (b1, OA Z .int [v0, v1, v2, v3]) :: []) := H25
      refine o_iload X25 at_215 rfl 217 rfl ?_
      refine o_iconst (v := (3 : Int32)) X25 at_217 rfl 218 rfl ?_
      refine o_icmpLe X25 at_218 227 221 (by decide) (by decide) rfl (fun q => by exfalso; exact absurd q (by decide)) ?_
      intro hc218
      refine o_aload X25 at_221 rfl rfl 223 rfl ?_
      refine o_iconst (v := (3 : Int32)) X25 at_223 rfl 224 rfl ?_
      refine o_iload X25 at_224 rfl 226 rfl ?_
      refine o_iastore X25 H25 0 rfl at_226 3 rfl (by show 3 < 4; decide) 227 rfl ?_
      intro T26 h26 X26 H26
      replace H26 : OL n0 h26 ((b22, OA Z .int [v0, v1, v2, v3]) :: (b1, OA Z .int [v0, v1, v2, v3]) :: []) := H26
      refine o_iload X26 at_227 rfl 229 rfl ?_
      refine o_ldc (v := (2147483647 : Int32)) X26 at_229 (hw _ (List.mem_of_getElem? (i := 1) rfl)) 231 rfl ?_
      refine o_iand X26 at_231 232 rfl ?_
      refine o_iload X26 at_232 rfl 234 rfl ?_
      refine o_irem X26 at_234 (by decide) 235 rfl ?_
      refine o_istore X26 at_235 #[.val (.int x0), .val (.int x1), .val (.int x2), .val (.int x3), .val (.int xk), .val (.int xs), .val (.int (4 : Int32)), .val (.int v0), .val (.int v1), .val (.int v2), .val (.int v3), sl, .val (.ref b1), .val (.ref b22), .val (.int ((xk &&& (2147483647 : Int32)) % (4 : Int32))), .unset, .unset, .unset, .unset, .unset] rfl 237 rfl ?_
      refine o_aload X26 at_237 rfl rfl 239 rfl ?_
      refine o_iload X26 at_239 rfl 241 rfl ?_
      obtain ⟨xi, hxi, hxb⟩ := v_idx xk (4 : Int32) 4 rfl (by decide) (by decide) (by decide)
      obtain ⟨xq, hxq⟩ := v_get v0 v1 v2 v3 xi hxb
      refine o_iaload X26 H26 1 rfl at_241 xi hxi xq hxq 242 rfl ?_
      refine o_istore X26 at_242 #[.val (.int x0), .val (.int x1), .val (.int x2), .val (.int x3), .val (.int xk), .val (.int xs), .val (.int (4 : Int32)), .val (.int v0), .val (.int v1), .val (.int v2), .val (.int v3), sl, .val (.ref b1), .val (.ref b22), .val (.int ((xk &&& (2147483647 : Int32)) % (4 : Int32))), .val (.int xq), .unset, .unset, .unset, .unset] rfl 244 rfl ?_
      have J298 : ∀ (T : State) (h : Heap) (xm xkey : Int32), OW p l e room_1 s m #[(.int x0), (.int x1), (.int x2), (.int x3), (.int xk), (.int xs)] below meth cd0 Z x code maxLocals ret n0 T h 2 8 → OL n0 h ((b22, OA Z .int [v0, v1, v2, v3]) :: (b1, OA Z .int [v0, v1, v2, v3]) :: []) → OE p e room_1 below s n0 Q' T (mkF m 298 #[.val (.int x0), .val (.int x1), .val (.int x2), .val (.int x3), .val (.int xk), .val (.int xs), .val (.int (4 : Int32)), .val (.int v0), .val (.int v1), .val (.int v2), .val (.int v3), sl, .val (.ref b1), .val (.ref b22), .val (.int ((xk &&& (2147483647 : Int32)) % (4 : Int32))), .val (.int xq), .val (.int xm), .val (.int xkey), .unset, .unset] []) := by
        intro T h xm xkey X_J298 H_J298
        refine o_iload X_J298 at_298 rfl 300 rfl ?_
        refine o_iload X_J298 at_300 rfl 302 rfl ?_
        refine o_icmpGe X_J298 at_302 307 305 (by decide) (by decide) rfl ?_ ?_
        · intro hc302
          refine o_iconst (v := (0 : Int32)) X_J298 at_307 rfl 308 rfl ?_
          refine o_istore X_J298 at_308 #[.val (.int x0), .val (.int x1), .val (.int x2), .val (.int x3), .val (.int xk), .val (.int xs), .val (.int (4 : Int32)), .val (.int v0), .val (.int v1), .val (.int v2), .val (.int v3), sl, .val (.ref b1), .val (.ref b22), .val (.int ((xk &&& (2147483647 : Int32)) % (4 : Int32))), .val (.int xq), .val (.int xm), .val (.int xkey), .val (.int (0 : Int32)), .unset] rfl 310 rfl ?_
          refine o_iload X_J298 at_310 rfl 312 rfl ?_
          refine o_iconst (v := (1 : Int32)) X_J298 at_312 rfl 313 rfl ?_
          refine o_icmpLe X_J298 at_313 326 316 (by decide) (by decide) rfl (fun q => by exfalso; exact absurd q (by decide)) ?_
          intro hc313
          refine o_iload X_J298 at_316 rfl 318 rfl ?_
          refine o_iload X_J298 at_318 rfl 320 rfl ?_
          refine o_icmpGt X_J298 at_320 326 323 (by decide) (by decide) rfl ?_ ?_
          · intro hc320
            refine o_iload X_J298 at_326 rfl 328 rfl ?_
            refine o_iconst (v := (2 : Int32)) X_J298 at_328 rfl 329 rfl ?_
            refine o_icmpLe X_J298 at_329 342 332 (by decide) (by decide) rfl (fun q => by exfalso; exact absurd q (by decide)) ?_
            intro hc329
            refine o_iload X_J298 at_332 rfl 334 rfl ?_
            refine o_iload X_J298 at_334 rfl 336 rfl ?_
            refine o_icmpGt X_J298 at_336 342 339 (by decide) (by decide) rfl ?_ ?_
            · intro hc336
              refine o_iload X_J298 at_342 rfl 344 rfl ?_
              refine o_iconst (v := (3 : Int32)) X_J298 at_344 rfl 345 rfl ?_
              refine o_icmpLe X_J298 at_345 358 348 (by decide) (by decide) rfl (fun q => by exfalso; exact absurd q (by decide)) ?_
              intro hc345
              refine o_iload X_J298 at_348 rfl 350 rfl ?_
              refine o_iload X_J298 at_350 rfl 352 rfl ?_
              refine o_icmpGt X_J298 at_352 358 355 (by decide) (by decide) rfl ?_ ?_
              · intro hc352
                refine o_aload X_J298 at_358 rfl rfl 360 rfl ?_
                refine o_iload X_J298 at_360 rfl 362 rfl ?_
                refine o_callS X_J298 at_362 (rest := []) (c_last4 l Z a0 hw [] n0 _ X_J298.size b22 xkey v0 v1 v2 v3 ((b1, OA Z .int [v0, v1, v2, v3]) :: []) H_J298 so01 so12 so23) (hw _ (List.mem_of_getElem? (i := 2) rfl)) (hw _ (List.mem_of_getElem? (i := 3) rfl)) (hw _ (List.mem_of_getElem? (i := 4) rfl)) (hw _ (List.mem_of_getElem? (i := 5) rfl)) (by decide) 0 (by decide) (by decide) rfl [(.ref b22), (.int xkey)] rfl pd_1 rfl rfl (Nat.le_of_eq rfl) 2 8 rfl rfl (by decide) (by decide) 365 rfl ?_
                rintro _ T27 _ X27 ⟨rfl, rfl⟩
                show OE p e room_1 below s n0 Q' T27 (mkF m 365 #[.val (.int x0), .val (.int x1), .val (.int x2), .val (.int x3), .val (.int xk), .val (.int xs), .val (.int (4 : Int32)), .val (.int v0), .val (.int v1), .val (.int v2), .val (.int v3), sl, .val (.ref b1), .val (.ref b22), .val (.int ((xk &&& (2147483647 : Int32)) % (4 : Int32))), .val (.int xq), .val (.int xm), .val (.int xkey), .val (.int (0 : Int32)), .unset] [(.int (f_last4 v0 v1 v2 v3 xkey))])
                refine o_istore X27 at_365 #[.val (.int x0), .val (.int x1), .val (.int x2), .val (.int x3), .val (.int xk), .val (.int xs), .val (.int (4 : Int32)), .val (.int v0), .val (.int v1), .val (.int v2), .val (.int v3), sl, .val (.ref b1), .val (.ref b22), .val (.int ((xk &&& (2147483647 : Int32)) % (4 : Int32))), .val (.int xq), .val (.int xm), .val (.int xkey), .val (.int (0 : Int32)), .val (.int (f_last4 v0 v1 v2 v3 xkey))] rfl 367 rfl ?_
                refine o_iload X27 at_367 rfl 369 rfl ?_
                refine o_iload X27 at_369 rfl 371 rfl ?_
                refine o_icmpNe X27 at_371 378 374 (by decide) (by decide) rfl (fun q => by exfalso; exact q (by by_cases a1 : xkey < v1 <;> by_cases a2 : xkey < v2 <;> by_cases a3 : xkey < v3 <;> first | (simp [f_last4, a1, a2, a3]; done) | (exfalso; simp only [Int32.lt_iff_toInt_lt] at so12 so23 hc320 hc336 hc352 a1 a2 a3; omega))) ?_
                intro hc371
                refine o_iconst (v := (1 : Int32)) X27 at_374 rfl 375 rfl ?_
                refine o_goto X27 at_375 379 (by decide) (by decide) ?_
                exact o_retZ X27 at_379 (by decide) (by decide) (hQ _ _ rfl)
              · intro hc352
                refine o_iconst (v := (3 : Int32)) X_J298 at_355 rfl 356 rfl ?_
                refine o_istore X_J298 at_356 #[.val (.int x0), .val (.int x1), .val (.int x2), .val (.int x3), .val (.int xk), .val (.int xs), .val (.int (4 : Int32)), .val (.int v0), .val (.int v1), .val (.int v2), .val (.int v3), sl, .val (.ref b1), .val (.ref b22), .val (.int ((xk &&& (2147483647 : Int32)) % (4 : Int32))), .val (.int xq), .val (.int xm), .val (.int xkey), .val (.int (3 : Int32)), .unset] rfl 358 rfl ?_
                refine o_aload X_J298 at_358 rfl rfl 360 rfl ?_
                refine o_iload X_J298 at_360 rfl 362 rfl ?_
                refine o_callS X_J298 at_362 (rest := []) (c_last4 l Z a0 hw [] n0 _ X_J298.size b22 xkey v0 v1 v2 v3 ((b1, OA Z .int [v0, v1, v2, v3]) :: []) H_J298 so01 so12 so23) (hw _ (List.mem_of_getElem? (i := 2) rfl)) (hw _ (List.mem_of_getElem? (i := 3) rfl)) (hw _ (List.mem_of_getElem? (i := 4) rfl)) (hw _ (List.mem_of_getElem? (i := 5) rfl)) (by decide) 0 (by decide) (by decide) rfl [(.ref b22), (.int xkey)] rfl pd_1 rfl rfl (Nat.le_of_eq rfl) 2 8 rfl rfl (by decide) (by decide) 365 rfl ?_
                rintro _ T28 _ X28 ⟨rfl, rfl⟩
                show OE p e room_1 below s n0 Q' T28 (mkF m 365 #[.val (.int x0), .val (.int x1), .val (.int x2), .val (.int x3), .val (.int xk), .val (.int xs), .val (.int (4 : Int32)), .val (.int v0), .val (.int v1), .val (.int v2), .val (.int v3), sl, .val (.ref b1), .val (.ref b22), .val (.int ((xk &&& (2147483647 : Int32)) % (4 : Int32))), .val (.int xq), .val (.int xm), .val (.int xkey), .val (.int (3 : Int32)), .unset] [(.int (f_last4 v0 v1 v2 v3 xkey))])
                refine o_istore X28 at_365 #[.val (.int x0), .val (.int x1), .val (.int x2), .val (.int x3), .val (.int xk), .val (.int xs), .val (.int (4 : Int32)), .val (.int v0), .val (.int v1), .val (.int v2), .val (.int v3), sl, .val (.ref b1), .val (.ref b22), .val (.int ((xk &&& (2147483647 : Int32)) % (4 : Int32))), .val (.int xq), .val (.int xm), .val (.int xkey), .val (.int (3 : Int32)), .val (.int (f_last4 v0 v1 v2 v3 xkey))] rfl 367 rfl ?_
                refine o_iload X28 at_367 rfl 369 rfl ?_
                refine o_iload X28 at_369 rfl 371 rfl ?_
                refine o_icmpNe X28 at_371 378 374 (by decide) (by decide) rfl (fun q => by exfalso; exact q (by by_cases a1 : xkey < v1 <;> by_cases a2 : xkey < v2 <;> by_cases a3 : xkey < v3 <;> first | (simp [f_last4, a1, a2, a3]; done) | (exfalso; simp only [Int32.lt_iff_toInt_lt] at so12 so23 hc320 hc336 hc352 a1 a2 a3; omega))) ?_
                intro hc371
                refine o_iconst (v := (1 : Int32)) X28 at_374 rfl 375 rfl ?_
                refine o_goto X28 at_375 379 (by decide) (by decide) ?_
                exact o_retZ X28 at_379 (by decide) (by decide) (hQ _ _ rfl)
            · intro hc336
              refine o_iconst (v := (2 : Int32)) X_J298 at_339 rfl 340 rfl ?_
              refine o_istore X_J298 at_340 #[.val (.int x0), .val (.int x1), .val (.int x2), .val (.int x3), .val (.int xk), .val (.int xs), .val (.int (4 : Int32)), .val (.int v0), .val (.int v1), .val (.int v2), .val (.int v3), sl, .val (.ref b1), .val (.ref b22), .val (.int ((xk &&& (2147483647 : Int32)) % (4 : Int32))), .val (.int xq), .val (.int xm), .val (.int xkey), .val (.int (2 : Int32)), .unset] rfl 342 rfl ?_
              refine o_iload X_J298 at_342 rfl 344 rfl ?_
              refine o_iconst (v := (3 : Int32)) X_J298 at_344 rfl 345 rfl ?_
              refine o_icmpLe X_J298 at_345 358 348 (by decide) (by decide) rfl (fun q => by exfalso; exact absurd q (by decide)) ?_
              intro hc345
              refine o_iload X_J298 at_348 rfl 350 rfl ?_
              refine o_iload X_J298 at_350 rfl 352 rfl ?_
              refine o_icmpGt X_J298 at_352 358 355 (by decide) (by decide) rfl ?_ ?_
              · intro hc352
                refine o_aload X_J298 at_358 rfl rfl 360 rfl ?_
                refine o_iload X_J298 at_360 rfl 362 rfl ?_
                refine o_callS X_J298 at_362 (rest := []) (c_last4 l Z a0 hw [] n0 _ X_J298.size b22 xkey v0 v1 v2 v3 ((b1, OA Z .int [v0, v1, v2, v3]) :: []) H_J298 so01 so12 so23) (hw _ (List.mem_of_getElem? (i := 2) rfl)) (hw _ (List.mem_of_getElem? (i := 3) rfl)) (hw _ (List.mem_of_getElem? (i := 4) rfl)) (hw _ (List.mem_of_getElem? (i := 5) rfl)) (by decide) 0 (by decide) (by decide) rfl [(.ref b22), (.int xkey)] rfl pd_1 rfl rfl (Nat.le_of_eq rfl) 2 8 rfl rfl (by decide) (by decide) 365 rfl ?_
                rintro _ T29 _ X29 ⟨rfl, rfl⟩
                show OE p e room_1 below s n0 Q' T29 (mkF m 365 #[.val (.int x0), .val (.int x1), .val (.int x2), .val (.int x3), .val (.int xk), .val (.int xs), .val (.int (4 : Int32)), .val (.int v0), .val (.int v1), .val (.int v2), .val (.int v3), sl, .val (.ref b1), .val (.ref b22), .val (.int ((xk &&& (2147483647 : Int32)) % (4 : Int32))), .val (.int xq), .val (.int xm), .val (.int xkey), .val (.int (2 : Int32)), .unset] [(.int (f_last4 v0 v1 v2 v3 xkey))])
                refine o_istore X29 at_365 #[.val (.int x0), .val (.int x1), .val (.int x2), .val (.int x3), .val (.int xk), .val (.int xs), .val (.int (4 : Int32)), .val (.int v0), .val (.int v1), .val (.int v2), .val (.int v3), sl, .val (.ref b1), .val (.ref b22), .val (.int ((xk &&& (2147483647 : Int32)) % (4 : Int32))), .val (.int xq), .val (.int xm), .val (.int xkey), .val (.int (2 : Int32)), .val (.int (f_last4 v0 v1 v2 v3 xkey))] rfl 367 rfl ?_
                refine o_iload X29 at_367 rfl 369 rfl ?_
                refine o_iload X29 at_369 rfl 371 rfl ?_
                refine o_icmpNe X29 at_371 378 374 (by decide) (by decide) rfl (fun q => by exfalso; exact q (by by_cases a1 : xkey < v1 <;> by_cases a2 : xkey < v2 <;> by_cases a3 : xkey < v3 <;> first | (simp [f_last4, a1, a2, a3]; done) | (exfalso; simp only [Int32.lt_iff_toInt_lt] at so12 so23 hc320 hc336 hc352 a1 a2 a3; omega))) ?_
                intro hc371
                refine o_iconst (v := (1 : Int32)) X29 at_374 rfl 375 rfl ?_
                refine o_goto X29 at_375 379 (by decide) (by decide) ?_
                exact o_retZ X29 at_379 (by decide) (by decide) (hQ _ _ rfl)
              · intro hc352
                refine o_iconst (v := (3 : Int32)) X_J298 at_355 rfl 356 rfl ?_
                refine o_istore X_J298 at_356 #[.val (.int x0), .val (.int x1), .val (.int x2), .val (.int x3), .val (.int xk), .val (.int xs), .val (.int (4 : Int32)), .val (.int v0), .val (.int v1), .val (.int v2), .val (.int v3), sl, .val (.ref b1), .val (.ref b22), .val (.int ((xk &&& (2147483647 : Int32)) % (4 : Int32))), .val (.int xq), .val (.int xm), .val (.int xkey), .val (.int (3 : Int32)), .unset] rfl 358 rfl ?_
                refine o_aload X_J298 at_358 rfl rfl 360 rfl ?_
                refine o_iload X_J298 at_360 rfl 362 rfl ?_
                refine o_callS X_J298 at_362 (rest := []) (c_last4 l Z a0 hw [] n0 _ X_J298.size b22 xkey v0 v1 v2 v3 ((b1, OA Z .int [v0, v1, v2, v3]) :: []) H_J298 so01 so12 so23) (hw _ (List.mem_of_getElem? (i := 2) rfl)) (hw _ (List.mem_of_getElem? (i := 3) rfl)) (hw _ (List.mem_of_getElem? (i := 4) rfl)) (hw _ (List.mem_of_getElem? (i := 5) rfl)) (by decide) 0 (by decide) (by decide) rfl [(.ref b22), (.int xkey)] rfl pd_1 rfl rfl (Nat.le_of_eq rfl) 2 8 rfl rfl (by decide) (by decide) 365 rfl ?_
                rintro _ T30 _ X30 ⟨rfl, rfl⟩
                show OE p e room_1 below s n0 Q' T30 (mkF m 365 #[.val (.int x0), .val (.int x1), .val (.int x2), .val (.int x3), .val (.int xk), .val (.int xs), .val (.int (4 : Int32)), .val (.int v0), .val (.int v1), .val (.int v2), .val (.int v3), sl, .val (.ref b1), .val (.ref b22), .val (.int ((xk &&& (2147483647 : Int32)) % (4 : Int32))), .val (.int xq), .val (.int xm), .val (.int xkey), .val (.int (3 : Int32)), .unset] [(.int (f_last4 v0 v1 v2 v3 xkey))])
                refine o_istore X30 at_365 #[.val (.int x0), .val (.int x1), .val (.int x2), .val (.int x3), .val (.int xk), .val (.int xs), .val (.int (4 : Int32)), .val (.int v0), .val (.int v1), .val (.int v2), .val (.int v3), sl, .val (.ref b1), .val (.ref b22), .val (.int ((xk &&& (2147483647 : Int32)) % (4 : Int32))), .val (.int xq), .val (.int xm), .val (.int xkey), .val (.int (3 : Int32)), .val (.int (f_last4 v0 v1 v2 v3 xkey))] rfl 367 rfl ?_
                refine o_iload X30 at_367 rfl 369 rfl ?_
                refine o_iload X30 at_369 rfl 371 rfl ?_
                refine o_icmpNe X30 at_371 378 374 (by decide) (by decide) rfl (fun q => by exfalso; exact q (by by_cases a1 : xkey < v1 <;> by_cases a2 : xkey < v2 <;> by_cases a3 : xkey < v3 <;> first | (simp [f_last4, a1, a2, a3]; done) | (exfalso; simp only [Int32.lt_iff_toInt_lt] at so12 so23 hc320 hc336 hc352 a1 a2 a3; omega))) ?_
                intro hc371
                refine o_iconst (v := (1 : Int32)) X30 at_374 rfl 375 rfl ?_
                refine o_goto X30 at_375 379 (by decide) (by decide) ?_
                exact o_retZ X30 at_379 (by decide) (by decide) (hQ _ _ rfl)
          · intro hc320
            refine o_iconst (v := (1 : Int32)) X_J298 at_323 rfl 324 rfl ?_
            refine o_istore X_J298 at_324 #[.val (.int x0), .val (.int x1), .val (.int x2), .val (.int x3), .val (.int xk), .val (.int xs), .val (.int (4 : Int32)), .val (.int v0), .val (.int v1), .val (.int v2), .val (.int v3), sl, .val (.ref b1), .val (.ref b22), .val (.int ((xk &&& (2147483647 : Int32)) % (4 : Int32))), .val (.int xq), .val (.int xm), .val (.int xkey), .val (.int (1 : Int32)), .unset] rfl 326 rfl ?_
            refine o_iload X_J298 at_326 rfl 328 rfl ?_
            refine o_iconst (v := (2 : Int32)) X_J298 at_328 rfl 329 rfl ?_
            refine o_icmpLe X_J298 at_329 342 332 (by decide) (by decide) rfl (fun q => by exfalso; exact absurd q (by decide)) ?_
            intro hc329
            refine o_iload X_J298 at_332 rfl 334 rfl ?_
            refine o_iload X_J298 at_334 rfl 336 rfl ?_
            refine o_icmpGt X_J298 at_336 342 339 (by decide) (by decide) rfl ?_ ?_
            · intro hc336
              refine o_iload X_J298 at_342 rfl 344 rfl ?_
              refine o_iconst (v := (3 : Int32)) X_J298 at_344 rfl 345 rfl ?_
              refine o_icmpLe X_J298 at_345 358 348 (by decide) (by decide) rfl (fun q => by exfalso; exact absurd q (by decide)) ?_
              intro hc345
              refine o_iload X_J298 at_348 rfl 350 rfl ?_
              refine o_iload X_J298 at_350 rfl 352 rfl ?_
              refine o_icmpGt X_J298 at_352 358 355 (by decide) (by decide) rfl ?_ ?_
              · intro hc352
                refine o_aload X_J298 at_358 rfl rfl 360 rfl ?_
                refine o_iload X_J298 at_360 rfl 362 rfl ?_
                refine o_callS X_J298 at_362 (rest := []) (c_last4 l Z a0 hw [] n0 _ X_J298.size b22 xkey v0 v1 v2 v3 ((b1, OA Z .int [v0, v1, v2, v3]) :: []) H_J298 so01 so12 so23) (hw _ (List.mem_of_getElem? (i := 2) rfl)) (hw _ (List.mem_of_getElem? (i := 3) rfl)) (hw _ (List.mem_of_getElem? (i := 4) rfl)) (hw _ (List.mem_of_getElem? (i := 5) rfl)) (by decide) 0 (by decide) (by decide) rfl [(.ref b22), (.int xkey)] rfl pd_1 rfl rfl (Nat.le_of_eq rfl) 2 8 rfl rfl (by decide) (by decide) 365 rfl ?_
                rintro _ T31 _ X31 ⟨rfl, rfl⟩
                show OE p e room_1 below s n0 Q' T31 (mkF m 365 #[.val (.int x0), .val (.int x1), .val (.int x2), .val (.int x3), .val (.int xk), .val (.int xs), .val (.int (4 : Int32)), .val (.int v0), .val (.int v1), .val (.int v2), .val (.int v3), sl, .val (.ref b1), .val (.ref b22), .val (.int ((xk &&& (2147483647 : Int32)) % (4 : Int32))), .val (.int xq), .val (.int xm), .val (.int xkey), .val (.int (1 : Int32)), .unset] [(.int (f_last4 v0 v1 v2 v3 xkey))])
                refine o_istore X31 at_365 #[.val (.int x0), .val (.int x1), .val (.int x2), .val (.int x3), .val (.int xk), .val (.int xs), .val (.int (4 : Int32)), .val (.int v0), .val (.int v1), .val (.int v2), .val (.int v3), sl, .val (.ref b1), .val (.ref b22), .val (.int ((xk &&& (2147483647 : Int32)) % (4 : Int32))), .val (.int xq), .val (.int xm), .val (.int xkey), .val (.int (1 : Int32)), .val (.int (f_last4 v0 v1 v2 v3 xkey))] rfl 367 rfl ?_
                refine o_iload X31 at_367 rfl 369 rfl ?_
                refine o_iload X31 at_369 rfl 371 rfl ?_
                refine o_icmpNe X31 at_371 378 374 (by decide) (by decide) rfl (fun q => by exfalso; exact q (by by_cases a1 : xkey < v1 <;> by_cases a2 : xkey < v2 <;> by_cases a3 : xkey < v3 <;> first | (simp [f_last4, a1, a2, a3]; done) | (exfalso; simp only [Int32.lt_iff_toInt_lt] at so12 so23 hc320 hc336 hc352 a1 a2 a3; omega))) ?_
                intro hc371
                refine o_iconst (v := (1 : Int32)) X31 at_374 rfl 375 rfl ?_
                refine o_goto X31 at_375 379 (by decide) (by decide) ?_
                exact o_retZ X31 at_379 (by decide) (by decide) (hQ _ _ rfl)
              · intro hc352
                refine o_iconst (v := (3 : Int32)) X_J298 at_355 rfl 356 rfl ?_
                refine o_istore X_J298 at_356 #[.val (.int x0), .val (.int x1), .val (.int x2), .val (.int x3), .val (.int xk), .val (.int xs), .val (.int (4 : Int32)), .val (.int v0), .val (.int v1), .val (.int v2), .val (.int v3), sl, .val (.ref b1), .val (.ref b22), .val (.int ((xk &&& (2147483647 : Int32)) % (4 : Int32))), .val (.int xq), .val (.int xm), .val (.int xkey), .val (.int (3 : Int32)), .unset] rfl 358 rfl ?_
                refine o_aload X_J298 at_358 rfl rfl 360 rfl ?_
                refine o_iload X_J298 at_360 rfl 362 rfl ?_
                refine o_callS X_J298 at_362 (rest := []) (c_last4 l Z a0 hw [] n0 _ X_J298.size b22 xkey v0 v1 v2 v3 ((b1, OA Z .int [v0, v1, v2, v3]) :: []) H_J298 so01 so12 so23) (hw _ (List.mem_of_getElem? (i := 2) rfl)) (hw _ (List.mem_of_getElem? (i := 3) rfl)) (hw _ (List.mem_of_getElem? (i := 4) rfl)) (hw _ (List.mem_of_getElem? (i := 5) rfl)) (by decide) 0 (by decide) (by decide) rfl [(.ref b22), (.int xkey)] rfl pd_1 rfl rfl (Nat.le_of_eq rfl) 2 8 rfl rfl (by decide) (by decide) 365 rfl ?_
                rintro _ T32 _ X32 ⟨rfl, rfl⟩
                show OE p e room_1 below s n0 Q' T32 (mkF m 365 #[.val (.int x0), .val (.int x1), .val (.int x2), .val (.int x3), .val (.int xk), .val (.int xs), .val (.int (4 : Int32)), .val (.int v0), .val (.int v1), .val (.int v2), .val (.int v3), sl, .val (.ref b1), .val (.ref b22), .val (.int ((xk &&& (2147483647 : Int32)) % (4 : Int32))), .val (.int xq), .val (.int xm), .val (.int xkey), .val (.int (3 : Int32)), .unset] [(.int (f_last4 v0 v1 v2 v3 xkey))])
                refine o_istore X32 at_365 #[.val (.int x0), .val (.int x1), .val (.int x2), .val (.int x3), .val (.int xk), .val (.int xs), .val (.int (4 : Int32)), .val (.int v0), .val (.int v1), .val (.int v2), .val (.int v3), sl, .val (.ref b1), .val (.ref b22), .val (.int ((xk &&& (2147483647 : Int32)) % (4 : Int32))), .val (.int xq), .val (.int xm), .val (.int xkey), .val (.int (3 : Int32)), .val (.int (f_last4 v0 v1 v2 v3 xkey))] rfl 367 rfl ?_
                refine o_iload X32 at_367 rfl 369 rfl ?_
                refine o_iload X32 at_369 rfl 371 rfl ?_
                refine o_icmpNe X32 at_371 378 374 (by decide) (by decide) rfl (fun q => by exfalso; exact q (by by_cases a1 : xkey < v1 <;> by_cases a2 : xkey < v2 <;> by_cases a3 : xkey < v3 <;> first | (simp [f_last4, a1, a2, a3]; done) | (exfalso; simp only [Int32.lt_iff_toInt_lt] at so12 so23 hc320 hc336 hc352 a1 a2 a3; omega))) ?_
                intro hc371
                refine o_iconst (v := (1 : Int32)) X32 at_374 rfl 375 rfl ?_
                refine o_goto X32 at_375 379 (by decide) (by decide) ?_
                exact o_retZ X32 at_379 (by decide) (by decide) (hQ _ _ rfl)
            · intro hc336
              refine o_iconst (v := (2 : Int32)) X_J298 at_339 rfl 340 rfl ?_
              refine o_istore X_J298 at_340 #[.val (.int x0), .val (.int x1), .val (.int x2), .val (.int x3), .val (.int xk), .val (.int xs), .val (.int (4 : Int32)), .val (.int v0), .val (.int v1), .val (.int v2), .val (.int v3), sl, .val (.ref b1), .val (.ref b22), .val (.int ((xk &&& (2147483647 : Int32)) % (4 : Int32))), .val (.int xq), .val (.int xm), .val (.int xkey), .val (.int (2 : Int32)), .unset] rfl 342 rfl ?_
              refine o_iload X_J298 at_342 rfl 344 rfl ?_
              refine o_iconst (v := (3 : Int32)) X_J298 at_344 rfl 345 rfl ?_
              refine o_icmpLe X_J298 at_345 358 348 (by decide) (by decide) rfl (fun q => by exfalso; exact absurd q (by decide)) ?_
              intro hc345
              refine o_iload X_J298 at_348 rfl 350 rfl ?_
              refine o_iload X_J298 at_350 rfl 352 rfl ?_
              refine o_icmpGt X_J298 at_352 358 355 (by decide) (by decide) rfl ?_ ?_
              · intro hc352
                refine o_aload X_J298 at_358 rfl rfl 360 rfl ?_
                refine o_iload X_J298 at_360 rfl 362 rfl ?_
                refine o_callS X_J298 at_362 (rest := []) (c_last4 l Z a0 hw [] n0 _ X_J298.size b22 xkey v0 v1 v2 v3 ((b1, OA Z .int [v0, v1, v2, v3]) :: []) H_J298 so01 so12 so23) (hw _ (List.mem_of_getElem? (i := 2) rfl)) (hw _ (List.mem_of_getElem? (i := 3) rfl)) (hw _ (List.mem_of_getElem? (i := 4) rfl)) (hw _ (List.mem_of_getElem? (i := 5) rfl)) (by decide) 0 (by decide) (by decide) rfl [(.ref b22), (.int xkey)] rfl pd_1 rfl rfl (Nat.le_of_eq rfl) 2 8 rfl rfl (by decide) (by decide) 365 rfl ?_
                rintro _ T33 _ X33 ⟨rfl, rfl⟩
                show OE p e room_1 below s n0 Q' T33 (mkF m 365 #[.val (.int x0), .val (.int x1), .val (.int x2), .val (.int x3), .val (.int xk), .val (.int xs), .val (.int (4 : Int32)), .val (.int v0), .val (.int v1), .val (.int v2), .val (.int v3), sl, .val (.ref b1), .val (.ref b22), .val (.int ((xk &&& (2147483647 : Int32)) % (4 : Int32))), .val (.int xq), .val (.int xm), .val (.int xkey), .val (.int (2 : Int32)), .unset] [(.int (f_last4 v0 v1 v2 v3 xkey))])
                refine o_istore X33 at_365 #[.val (.int x0), .val (.int x1), .val (.int x2), .val (.int x3), .val (.int xk), .val (.int xs), .val (.int (4 : Int32)), .val (.int v0), .val (.int v1), .val (.int v2), .val (.int v3), sl, .val (.ref b1), .val (.ref b22), .val (.int ((xk &&& (2147483647 : Int32)) % (4 : Int32))), .val (.int xq), .val (.int xm), .val (.int xkey), .val (.int (2 : Int32)), .val (.int (f_last4 v0 v1 v2 v3 xkey))] rfl 367 rfl ?_
                refine o_iload X33 at_367 rfl 369 rfl ?_
                refine o_iload X33 at_369 rfl 371 rfl ?_
                refine o_icmpNe X33 at_371 378 374 (by decide) (by decide) rfl (fun q => by exfalso; exact q (by by_cases a1 : xkey < v1 <;> by_cases a2 : xkey < v2 <;> by_cases a3 : xkey < v3 <;> first | (simp [f_last4, a1, a2, a3]; done) | (exfalso; simp only [Int32.lt_iff_toInt_lt] at so12 so23 hc320 hc336 hc352 a1 a2 a3; omega))) ?_
                intro hc371
                refine o_iconst (v := (1 : Int32)) X33 at_374 rfl 375 rfl ?_
                refine o_goto X33 at_375 379 (by decide) (by decide) ?_
                exact o_retZ X33 at_379 (by decide) (by decide) (hQ _ _ rfl)
              · intro hc352
                refine o_iconst (v := (3 : Int32)) X_J298 at_355 rfl 356 rfl ?_
                refine o_istore X_J298 at_356 #[.val (.int x0), .val (.int x1), .val (.int x2), .val (.int x3), .val (.int xk), .val (.int xs), .val (.int (4 : Int32)), .val (.int v0), .val (.int v1), .val (.int v2), .val (.int v3), sl, .val (.ref b1), .val (.ref b22), .val (.int ((xk &&& (2147483647 : Int32)) % (4 : Int32))), .val (.int xq), .val (.int xm), .val (.int xkey), .val (.int (3 : Int32)), .unset] rfl 358 rfl ?_
                refine o_aload X_J298 at_358 rfl rfl 360 rfl ?_
                refine o_iload X_J298 at_360 rfl 362 rfl ?_
                refine o_callS X_J298 at_362 (rest := []) (c_last4 l Z a0 hw [] n0 _ X_J298.size b22 xkey v0 v1 v2 v3 ((b1, OA Z .int [v0, v1, v2, v3]) :: []) H_J298 so01 so12 so23) (hw _ (List.mem_of_getElem? (i := 2) rfl)) (hw _ (List.mem_of_getElem? (i := 3) rfl)) (hw _ (List.mem_of_getElem? (i := 4) rfl)) (hw _ (List.mem_of_getElem? (i := 5) rfl)) (by decide) 0 (by decide) (by decide) rfl [(.ref b22), (.int xkey)] rfl pd_1 rfl rfl (Nat.le_of_eq rfl) 2 8 rfl rfl (by decide) (by decide) 365 rfl ?_
                rintro _ T34 _ X34 ⟨rfl, rfl⟩
                show OE p e room_1 below s n0 Q' T34 (mkF m 365 #[.val (.int x0), .val (.int x1), .val (.int x2), .val (.int x3), .val (.int xk), .val (.int xs), .val (.int (4 : Int32)), .val (.int v0), .val (.int v1), .val (.int v2), .val (.int v3), sl, .val (.ref b1), .val (.ref b22), .val (.int ((xk &&& (2147483647 : Int32)) % (4 : Int32))), .val (.int xq), .val (.int xm), .val (.int xkey), .val (.int (3 : Int32)), .unset] [(.int (f_last4 v0 v1 v2 v3 xkey))])
                refine o_istore X34 at_365 #[.val (.int x0), .val (.int x1), .val (.int x2), .val (.int x3), .val (.int xk), .val (.int xs), .val (.int (4 : Int32)), .val (.int v0), .val (.int v1), .val (.int v2), .val (.int v3), sl, .val (.ref b1), .val (.ref b22), .val (.int ((xk &&& (2147483647 : Int32)) % (4 : Int32))), .val (.int xq), .val (.int xm), .val (.int xkey), .val (.int (3 : Int32)), .val (.int (f_last4 v0 v1 v2 v3 xkey))] rfl 367 rfl ?_
                refine o_iload X34 at_367 rfl 369 rfl ?_
                refine o_iload X34 at_369 rfl 371 rfl ?_
                refine o_icmpNe X34 at_371 378 374 (by decide) (by decide) rfl (fun q => by exfalso; exact q (by by_cases a1 : xkey < v1 <;> by_cases a2 : xkey < v2 <;> by_cases a3 : xkey < v3 <;> first | (simp [f_last4, a1, a2, a3]; done) | (exfalso; simp only [Int32.lt_iff_toInt_lt] at so12 so23 hc320 hc336 hc352 a1 a2 a3; omega))) ?_
                intro hc371
                refine o_iconst (v := (1 : Int32)) X34 at_374 rfl 375 rfl ?_
                refine o_goto X34 at_375 379 (by decide) (by decide) ?_
                exact o_retZ X34 at_379 (by decide) (by decide) (hQ _ _ rfl)
        · intro hc302
          refine o_iconst (v := (1 : Int32)) X_J298 at_305 rfl 306 rfl ?_
          exact o_retZ X_J298 at_306 (by decide) (by decide) (hQ _ _ rfl)
      refine o_iload X26 at_244 rfl 246 rfl ?_
      refine o_iconst (v := (5 : Int32)) X26 at_246 rfl 247 rfl ?_
      refine o_ishr X26 at_247 248 rfl ?_
      refine o_iconst (v := (3 : Int32)) X26 at_248 rfl 249 rfl ?_
      refine o_iand X26 at_249 250 rfl ?_
      refine o_istore X26 at_250 #[.val (.int x0), .val (.int x1), .val (.int x2), .val (.int x3), .val (.int xk), .val (.int xs), .val (.int (4 : Int32)), .val (.int v0), .val (.int v1), .val (.int v2), .val (.int v3), sl, .val (.ref b1), .val (.ref b22), .val (.int ((xk &&& (2147483647 : Int32)) % (4 : Int32))), .val (.int xq), .val (.int ((xs >>> ((5 : Int32) &&& 31)) &&& (3 : Int32))), .unset, .unset, .unset] rfl 252 rfl ?_
      refine o_iload X26 at_252 rfl 254 rfl ?_
      refine o_ifNe X26 at_254 264 257 (by decide) (by decide) rfl ?_ ?_
      · intro hc254
        refine o_iload X26 at_264 rfl 266 rfl ?_
        refine o_iconst (v := (1 : Int32)) X26 at_266 rfl 267 rfl ?_
        refine o_icmpNe X26 at_267 277 270 (by decide) (by decide) rfl ?_ ?_
        · intro hc267
          refine o_iload X26 at_277 rfl 279 rfl ?_
          refine o_iconst (v := (2 : Int32)) X26 at_279 rfl 280 rfl ?_
          refine o_icmpNe X26 at_280 292 283 (by decide) (by decide) rfl ?_ ?_
          · intro hc280
            refine o_iload X26 at_292 rfl 294 rfl ?_
            refine o_iconst (v := (1 : Int32)) X26 at_294 rfl 295 rfl ?_
            refine o_iadd X26 at_295 296 rfl ?_
            refine o_istore X26 at_296 #[.val (.int x0), .val (.int x1), .val (.int x2), .val (.int x3), .val (.int xk), .val (.int xs), .val (.int (4 : Int32)), .val (.int v0), .val (.int v1), .val (.int v2), .val (.int v3), sl, .val (.ref b1), .val (.ref b22), .val (.int ((xk &&& (2147483647 : Int32)) % (4 : Int32))), .val (.int xq), .val (.int ((xs >>> ((5 : Int32) &&& 31)) &&& (3 : Int32))), .val (.int (xq + (1 : Int32))), .unset, .unset] rfl 298 rfl ?_
            exact J298 _ _ _ _ X26 H26
          · intro hc280
            refine o_iload X26 at_283 rfl 285 rfl ?_
            refine o_iconst (v := (1 : Int32)) X26 at_285 rfl 286 rfl ?_
            refine o_isub X26 at_286 287 rfl ?_
            refine o_istore X26 at_287 #[.val (.int x0), .val (.int x1), .val (.int x2), .val (.int x3), .val (.int xk), .val (.int xs), .val (.int (4 : Int32)), .val (.int v0), .val (.int v1), .val (.int v2), .val (.int v3), sl, .val (.ref b1), .val (.ref b22), .val (.int ((xk &&& (2147483647 : Int32)) % (4 : Int32))), .val (.int xq), .val (.int ((xs >>> ((5 : Int32) &&& 31)) &&& (3 : Int32))), .val (.int (xq - (1 : Int32))), .unset, .unset] rfl 289 rfl ?_
            refine o_goto X26 at_289 298 (by decide) (by decide) ?_
            exact J298 _ _ _ _ X26 H26
        · intro hc267
          refine o_iload X26 at_270 rfl 272 rfl ?_
          refine o_istore X26 at_272 #[.val (.int x0), .val (.int x1), .val (.int x2), .val (.int x3), .val (.int xk), .val (.int xs), .val (.int (4 : Int32)), .val (.int v0), .val (.int v1), .val (.int v2), .val (.int v3), sl, .val (.ref b1), .val (.ref b22), .val (.int ((xk &&& (2147483647 : Int32)) % (4 : Int32))), .val (.int xq), .val (.int ((xs >>> ((5 : Int32) &&& 31)) &&& (3 : Int32))), .val (.int xq), .unset, .unset] rfl 274 rfl ?_
          refine o_goto X26 at_274 298 (by decide) (by decide) ?_
          exact J298 _ _ _ _ X26 H26
      · intro hc254
        refine o_iload X26 at_257 rfl 259 rfl ?_
        refine o_istore X26 at_259 #[.val (.int x0), .val (.int x1), .val (.int x2), .val (.int x3), .val (.int xk), .val (.int xs), .val (.int (4 : Int32)), .val (.int v0), .val (.int v1), .val (.int v2), .val (.int v3), sl, .val (.ref b1), .val (.ref b22), .val (.int ((xk &&& (2147483647 : Int32)) % (4 : Int32))), .val (.int xq), .val (.int ((xs >>> ((5 : Int32) &&& 31)) &&& (3 : Int32))), .val (.int xk), .unset, .unset] rfl 261 rfl ?_
        refine o_goto X26 at_261 298 (by decide) (by decide) ?_
        exact J298 _ _ _ _ X26 H26
  have J135 : ∀ (T : State) (h : Heap) (v0 v1 v2 v3 : Int32) (sl : Slot), OW p l e room_1 s m #[(.int x0), (.int x1), (.int x2), (.int x3), (.int xk), (.int xs)] below meth cd0 Z x code maxLocals ret n0 T h 0 0 → (sl = .unset ∨ ∃ t : Int32, sl = .val (.int t)) → ¬ v1 < v0 → ¬ v2 < v0 → ¬ v3 < v1 → ¬ v3 < v2 → OE p e room_1 below s n0 Q' T (mkF m 135 #[.val (.int x0), .val (.int x1), .val (.int x2), .val (.int x3), .val (.int xk), .val (.int xs), .val (.int ((xs &&& (3 : Int32)) + (1 : Int32))), .val (.int v0), .val (.int v1), .val (.int v2), .val (.int v3), sl, .unset, .unset, .unset, .unset, .unset, .unset, .unset, .unset] []) := by
    intro T h v0 v1 v2 v3 sl X_J135 hsl g0 g1 g2 g3
    rcases hsl with rfl | ⟨t, rfl⟩
    · skip
      refine o_iload X_J135 at_135 rfl 137 rfl ?_
      refine o_iload X_J135 at_137 rfl 139 rfl ?_
      refine o_icmpLe X_J135 at_139 154 142 (by decide) (by decide) rfl ?_ ?_
      · intro hc139
        exact J154 _ _ v0 v1 v2 v3 _ X_J135 (Or.inl rfl) (by simp only [Int32.lt_iff_toInt_lt] at g0 g1 g2 g3 hc139 ⊢; omega) (by simp only [Int32.lt_iff_toInt_lt] at g0 g1 g2 g3 hc139 ⊢; omega) (by simp only [Int32.lt_iff_toInt_lt] at g0 g1 g2 g3 hc139 ⊢; omega)
      · intro hc139
        refine o_iload X_J135 at_142 rfl 144 rfl ?_
        refine o_istore X_J135 at_144 #[.val (.int x0), .val (.int x1), .val (.int x2), .val (.int x3), .val (.int xk), .val (.int xs), .val (.int ((xs &&& (3 : Int32)) + (1 : Int32))), .val (.int v0), .val (.int v1), .val (.int v2), .val (.int v3), .val (.int v1), .unset, .unset, .unset, .unset, .unset, .unset, .unset, .unset] rfl 146 rfl ?_
        refine o_iload X_J135 at_146 rfl 148 rfl ?_
        refine o_istore X_J135 at_148 #[.val (.int x0), .val (.int x1), .val (.int x2), .val (.int x3), .val (.int xk), .val (.int xs), .val (.int ((xs &&& (3 : Int32)) + (1 : Int32))), .val (.int v0), .val (.int v2), .val (.int v2), .val (.int v3), .val (.int v1), .unset, .unset, .unset, .unset, .unset, .unset, .unset, .unset] rfl 150 rfl ?_
        refine o_iload X_J135 at_150 rfl 152 rfl ?_
        refine o_istore X_J135 at_152 #[.val (.int x0), .val (.int x1), .val (.int x2), .val (.int x3), .val (.int xk), .val (.int xs), .val (.int ((xs &&& (3 : Int32)) + (1 : Int32))), .val (.int v0), .val (.int v2), .val (.int v1), .val (.int v3), .val (.int v1), .unset, .unset, .unset, .unset, .unset, .unset, .unset, .unset] rfl 154 rfl ?_
        exact J154 _ _ v0 v2 v1 v3 _ X_J135 (Or.inr ⟨_, rfl⟩) (by simp only [Int32.lt_iff_toInt_lt] at g0 g1 g2 g3 hc139 ⊢; omega) (by simp only [Int32.lt_iff_toInt_lt] at g0 g1 g2 g3 hc139 ⊢; omega) (by simp only [Int32.lt_iff_toInt_lt] at g0 g1 g2 g3 hc139 ⊢; omega)
    · skip
      refine o_iload X_J135 at_135 rfl 137 rfl ?_
      refine o_iload X_J135 at_137 rfl 139 rfl ?_
      refine o_icmpLe X_J135 at_139 154 142 (by decide) (by decide) rfl ?_ ?_
      · intro hc139
        exact J154 _ _ v0 v1 v2 v3 _ X_J135 (Or.inr ⟨_, rfl⟩) (by simp only [Int32.lt_iff_toInt_lt] at g0 g1 g2 g3 hc139 ⊢; omega) (by simp only [Int32.lt_iff_toInt_lt] at g0 g1 g2 g3 hc139 ⊢; omega) (by simp only [Int32.lt_iff_toInt_lt] at g0 g1 g2 g3 hc139 ⊢; omega)
      · intro hc139
        refine o_iload X_J135 at_142 rfl 144 rfl ?_
        refine o_istore X_J135 at_144 #[.val (.int x0), .val (.int x1), .val (.int x2), .val (.int x3), .val (.int xk), .val (.int xs), .val (.int ((xs &&& (3 : Int32)) + (1 : Int32))), .val (.int v0), .val (.int v1), .val (.int v2), .val (.int v3), .val (.int v1), .unset, .unset, .unset, .unset, .unset, .unset, .unset, .unset] rfl 146 rfl ?_
        refine o_iload X_J135 at_146 rfl 148 rfl ?_
        refine o_istore X_J135 at_148 #[.val (.int x0), .val (.int x1), .val (.int x2), .val (.int x3), .val (.int xk), .val (.int xs), .val (.int ((xs &&& (3 : Int32)) + (1 : Int32))), .val (.int v0), .val (.int v2), .val (.int v2), .val (.int v3), .val (.int v1), .unset, .unset, .unset, .unset, .unset, .unset, .unset, .unset] rfl 150 rfl ?_
        refine o_iload X_J135 at_150 rfl 152 rfl ?_
        refine o_istore X_J135 at_152 #[.val (.int x0), .val (.int x1), .val (.int x2), .val (.int x3), .val (.int xk), .val (.int xs), .val (.int ((xs &&& (3 : Int32)) + (1 : Int32))), .val (.int v0), .val (.int v2), .val (.int v1), .val (.int v3), .val (.int v1), .unset, .unset, .unset, .unset, .unset, .unset, .unset, .unset] rfl 154 rfl ?_
        exact J154 _ _ v0 v2 v1 v3 _ X_J135 (Or.inr ⟨_, rfl⟩) (by simp only [Int32.lt_iff_toInt_lt] at g0 g1 g2 g3 hc139 ⊢; omega) (by simp only [Int32.lt_iff_toInt_lt] at g0 g1 g2 g3 hc139 ⊢; omega) (by simp only [Int32.lt_iff_toInt_lt] at g0 g1 g2 g3 hc139 ⊢; omega)
  have J116 : ∀ (T : State) (h : Heap) (v0 v1 v2 v3 : Int32) (sl : Slot), OW p l e room_1 s m #[(.int x0), (.int x1), (.int x2), (.int x3), (.int xk), (.int xs)] below meth cd0 Z x code maxLocals ret n0 T h 0 0 → (sl = .unset ∨ ∃ t : Int32, sl = .val (.int t)) → ¬ v1 < v0 → ¬ v2 < v0 → ¬ v3 < v0 → (¬ v3 < v2 ∨ ¬ v1 < v2) → OE p e room_1 below s n0 Q' T (mkF m 116 #[.val (.int x0), .val (.int x1), .val (.int x2), .val (.int x3), .val (.int xk), .val (.int xs), .val (.int ((xs &&& (3 : Int32)) + (1 : Int32))), .val (.int v0), .val (.int v1), .val (.int v2), .val (.int v3), sl, .unset, .unset, .unset, .unset, .unset, .unset, .unset, .unset] []) := by
    intro T h v0 v1 v2 v3 sl X_J116 hsl g0 g1 g2 g3
    rcases hsl with rfl | ⟨t, rfl⟩
    · skip
      refine o_iload X_J116 at_116 rfl 118 rfl ?_
      refine o_iload X_J116 at_118 rfl 120 rfl ?_
      refine o_icmpLe X_J116 at_120 135 123 (by decide) (by decide) rfl ?_ ?_
      · intro hc120
        exact J135 _ _ v0 v1 v2 v3 _ X_J116 (Or.inl rfl) (by simp only [Int32.lt_iff_toInt_lt] at g0 g1 g2 g3 hc120 ⊢; omega) (by simp only [Int32.lt_iff_toInt_lt] at g0 g1 g2 g3 hc120 ⊢; omega) (by simp only [Int32.lt_iff_toInt_lt] at g0 g1 g2 g3 hc120 ⊢; omega) (by simp only [Int32.lt_iff_toInt_lt] at g0 g1 g2 g3 hc120 ⊢; omega)
      · intro hc120
        refine o_iload X_J116 at_123 rfl 125 rfl ?_
        refine o_istore X_J116 at_125 #[.val (.int x0), .val (.int x1), .val (.int x2), .val (.int x3), .val (.int xk), .val (.int xs), .val (.int ((xs &&& (3 : Int32)) + (1 : Int32))), .val (.int v0), .val (.int v1), .val (.int v2), .val (.int v3), .val (.int v1), .unset, .unset, .unset, .unset, .unset, .unset, .unset, .unset] rfl 127 rfl ?_
        refine o_iload X_J116 at_127 rfl 129 rfl ?_
        refine o_istore X_J116 at_129 #[.val (.int x0), .val (.int x1), .val (.int x2), .val (.int x3), .val (.int xk), .val (.int xs), .val (.int ((xs &&& (3 : Int32)) + (1 : Int32))), .val (.int v0), .val (.int v3), .val (.int v2), .val (.int v3), .val (.int v1), .unset, .unset, .unset, .unset, .unset, .unset, .unset, .unset] rfl 131 rfl ?_
        refine o_iload X_J116 at_131 rfl 133 rfl ?_
        refine o_istore X_J116 at_133 #[.val (.int x0), .val (.int x1), .val (.int x2), .val (.int x3), .val (.int xk), .val (.int xs), .val (.int ((xs &&& (3 : Int32)) + (1 : Int32))), .val (.int v0), .val (.int v3), .val (.int v2), .val (.int v1), .val (.int v1), .unset, .unset, .unset, .unset, .unset, .unset, .unset, .unset] rfl 135 rfl ?_
        exact J135 _ _ v0 v3 v2 v1 _ X_J116 (Or.inr ⟨_, rfl⟩) (by simp only [Int32.lt_iff_toInt_lt] at g0 g1 g2 g3 hc120 ⊢; omega) (by simp only [Int32.lt_iff_toInt_lt] at g0 g1 g2 g3 hc120 ⊢; omega) (by simp only [Int32.lt_iff_toInt_lt] at g0 g1 g2 g3 hc120 ⊢; omega) (by simp only [Int32.lt_iff_toInt_lt] at g0 g1 g2 g3 hc120 ⊢; omega)
    · skip
      refine o_iload X_J116 at_116 rfl 118 rfl ?_
      refine o_iload X_J116 at_118 rfl 120 rfl ?_
      refine o_icmpLe X_J116 at_120 135 123 (by decide) (by decide) rfl ?_ ?_
      · intro hc120
        exact J135 _ _ v0 v1 v2 v3 _ X_J116 (Or.inr ⟨_, rfl⟩) (by simp only [Int32.lt_iff_toInt_lt] at g0 g1 g2 g3 hc120 ⊢; omega) (by simp only [Int32.lt_iff_toInt_lt] at g0 g1 g2 g3 hc120 ⊢; omega) (by simp only [Int32.lt_iff_toInt_lt] at g0 g1 g2 g3 hc120 ⊢; omega) (by simp only [Int32.lt_iff_toInt_lt] at g0 g1 g2 g3 hc120 ⊢; omega)
      · intro hc120
        refine o_iload X_J116 at_123 rfl 125 rfl ?_
        refine o_istore X_J116 at_125 #[.val (.int x0), .val (.int x1), .val (.int x2), .val (.int x3), .val (.int xk), .val (.int xs), .val (.int ((xs &&& (3 : Int32)) + (1 : Int32))), .val (.int v0), .val (.int v1), .val (.int v2), .val (.int v3), .val (.int v1), .unset, .unset, .unset, .unset, .unset, .unset, .unset, .unset] rfl 127 rfl ?_
        refine o_iload X_J116 at_127 rfl 129 rfl ?_
        refine o_istore X_J116 at_129 #[.val (.int x0), .val (.int x1), .val (.int x2), .val (.int x3), .val (.int xk), .val (.int xs), .val (.int ((xs &&& (3 : Int32)) + (1 : Int32))), .val (.int v0), .val (.int v3), .val (.int v2), .val (.int v3), .val (.int v1), .unset, .unset, .unset, .unset, .unset, .unset, .unset, .unset] rfl 131 rfl ?_
        refine o_iload X_J116 at_131 rfl 133 rfl ?_
        refine o_istore X_J116 at_133 #[.val (.int x0), .val (.int x1), .val (.int x2), .val (.int x3), .val (.int xk), .val (.int xs), .val (.int ((xs &&& (3 : Int32)) + (1 : Int32))), .val (.int v0), .val (.int v3), .val (.int v2), .val (.int v1), .val (.int v1), .unset, .unset, .unset, .unset, .unset, .unset, .unset, .unset] rfl 135 rfl ?_
        exact J135 _ _ v0 v3 v2 v1 _ X_J116 (Or.inr ⟨_, rfl⟩) (by simp only [Int32.lt_iff_toInt_lt] at g0 g1 g2 g3 hc120 ⊢; omega) (by simp only [Int32.lt_iff_toInt_lt] at g0 g1 g2 g3 hc120 ⊢; omega) (by simp only [Int32.lt_iff_toInt_lt] at g0 g1 g2 g3 hc120 ⊢; omega) (by simp only [Int32.lt_iff_toInt_lt] at g0 g1 g2 g3 hc120 ⊢; omega)
  have J97 : ∀ (T : State) (h : Heap) (v0 v1 v2 v3 : Int32) (sl : Slot), OW p l e room_1 s m #[(.int x0), (.int x1), (.int x2), (.int x3), (.int xk), (.int xs)] below meth cd0 Z x code maxLocals ret n0 T h 0 0 → (sl = .unset ∨ ∃ t : Int32, sl = .val (.int t)) → ¬ v1 < v0 → ¬ v3 < v2 → OE p e room_1 below s n0 Q' T (mkF m 97 #[.val (.int x0), .val (.int x1), .val (.int x2), .val (.int x3), .val (.int xk), .val (.int xs), .val (.int ((xs &&& (3 : Int32)) + (1 : Int32))), .val (.int v0), .val (.int v1), .val (.int v2), .val (.int v3), sl, .unset, .unset, .unset, .unset, .unset, .unset, .unset, .unset] []) := by
    intro T h v0 v1 v2 v3 sl X_J97 hsl g0 g1
    rcases hsl with rfl | ⟨t, rfl⟩
    · skip
      refine o_iload X_J97 at_97 rfl 99 rfl ?_
      refine o_iload X_J97 at_99 rfl 101 rfl ?_
      refine o_icmpLe X_J97 at_101 116 104 (by decide) (by decide) rfl ?_ ?_
      · intro hc101
        exact J116 _ _ v0 v1 v2 v3 _ X_J97 (Or.inl rfl) (by simp only [Int32.lt_iff_toInt_lt] at g0 g1 hc101 ⊢; omega) (by simp only [Int32.lt_iff_toInt_lt] at g0 g1 hc101 ⊢; omega) (by simp only [Int32.lt_iff_toInt_lt] at g0 g1 hc101 ⊢; omega) (by simp only [Int32.lt_iff_toInt_lt] at g0 g1 hc101 ⊢; omega)
      · intro hc101
        refine o_iload X_J97 at_104 rfl 106 rfl ?_
        refine o_istore X_J97 at_106 #[.val (.int x0), .val (.int x1), .val (.int x2), .val (.int x3), .val (.int xk), .val (.int xs), .val (.int ((xs &&& (3 : Int32)) + (1 : Int32))), .val (.int v0), .val (.int v1), .val (.int v2), .val (.int v3), .val (.int v0), .unset, .unset, .unset, .unset, .unset, .unset, .unset, .unset] rfl 108 rfl ?_
        refine o_iload X_J97 at_108 rfl 110 rfl ?_
        refine o_istore X_J97 at_110 #[.val (.int x0), .val (.int x1), .val (.int x2), .val (.int x3), .val (.int xk), .val (.int xs), .val (.int ((xs &&& (3 : Int32)) + (1 : Int32))), .val (.int v2), .val (.int v1), .val (.int v2), .val (.int v3), .val (.int v0), .unset, .unset, .unset, .unset, .unset, .unset, .unset, .unset] rfl 112 rfl ?_
        refine o_iload X_J97 at_112 rfl 114 rfl ?_
        refine o_istore X_J97 at_114 #[.val (.int x0), .val (.int x1), .val (.int x2), .val (.int x3), .val (.int xk), .val (.int xs), .val (.int ((xs &&& (3 : Int32)) + (1 : Int32))), .val (.int v2), .val (.int v1), .val (.int v0), .val (.int v3), .val (.int v0), .unset, .unset, .unset, .unset, .unset, .unset, .unset, .unset] rfl 116 rfl ?_
        exact J116 _ _ v2 v1 v0 v3 _ X_J97 (Or.inr ⟨_, rfl⟩) (by simp only [Int32.lt_iff_toInt_lt] at g0 g1 hc101 ⊢; omega) (by simp only [Int32.lt_iff_toInt_lt] at g0 g1 hc101 ⊢; omega) (by simp only [Int32.lt_iff_toInt_lt] at g0 g1 hc101 ⊢; omega) (by simp only [Int32.lt_iff_toInt_lt] at g0 g1 hc101 ⊢; omega)
    · skip
      refine o_iload X_J97 at_97 rfl 99 rfl ?_
      refine o_iload X_J97 at_99 rfl 101 rfl ?_
      refine o_icmpLe X_J97 at_101 116 104 (by decide) (by decide) rfl ?_ ?_
      · intro hc101
        exact J116 _ _ v0 v1 v2 v3 _ X_J97 (Or.inr ⟨_, rfl⟩) (by simp only [Int32.lt_iff_toInt_lt] at g0 g1 hc101 ⊢; omega) (by simp only [Int32.lt_iff_toInt_lt] at g0 g1 hc101 ⊢; omega) (by simp only [Int32.lt_iff_toInt_lt] at g0 g1 hc101 ⊢; omega) (by simp only [Int32.lt_iff_toInt_lt] at g0 g1 hc101 ⊢; omega)
      · intro hc101
        refine o_iload X_J97 at_104 rfl 106 rfl ?_
        refine o_istore X_J97 at_106 #[.val (.int x0), .val (.int x1), .val (.int x2), .val (.int x3), .val (.int xk), .val (.int xs), .val (.int ((xs &&& (3 : Int32)) + (1 : Int32))), .val (.int v0), .val (.int v1), .val (.int v2), .val (.int v3), .val (.int v0), .unset, .unset, .unset, .unset, .unset, .unset, .unset, .unset] rfl 108 rfl ?_
        refine o_iload X_J97 at_108 rfl 110 rfl ?_
        refine o_istore X_J97 at_110 #[.val (.int x0), .val (.int x1), .val (.int x2), .val (.int x3), .val (.int xk), .val (.int xs), .val (.int ((xs &&& (3 : Int32)) + (1 : Int32))), .val (.int v2), .val (.int v1), .val (.int v2), .val (.int v3), .val (.int v0), .unset, .unset, .unset, .unset, .unset, .unset, .unset, .unset] rfl 112 rfl ?_
        refine o_iload X_J97 at_112 rfl 114 rfl ?_
        refine o_istore X_J97 at_114 #[.val (.int x0), .val (.int x1), .val (.int x2), .val (.int x3), .val (.int xk), .val (.int xs), .val (.int ((xs &&& (3 : Int32)) + (1 : Int32))), .val (.int v2), .val (.int v1), .val (.int v0), .val (.int v3), .val (.int v0), .unset, .unset, .unset, .unset, .unset, .unset, .unset, .unset] rfl 116 rfl ?_
        exact J116 _ _ v2 v1 v0 v3 _ X_J97 (Or.inr ⟨_, rfl⟩) (by simp only [Int32.lt_iff_toInt_lt] at g0 g1 hc101 ⊢; omega) (by simp only [Int32.lt_iff_toInt_lt] at g0 g1 hc101 ⊢; omega) (by simp only [Int32.lt_iff_toInt_lt] at g0 g1 hc101 ⊢; omega) (by simp only [Int32.lt_iff_toInt_lt] at g0 g1 hc101 ⊢; omega)
  have J78 : ∀ (T : State) (h : Heap) (v0 v1 v2 v3 : Int32) (sl : Slot), OW p l e room_1 s m #[(.int x0), (.int x1), (.int x2), (.int x3), (.int xk), (.int xs)] below meth cd0 Z x code maxLocals ret n0 T h 0 0 → (sl = .unset ∨ ∃ t : Int32, sl = .val (.int t)) → ¬ v1 < v0 → OE p e room_1 below s n0 Q' T (mkF m 78 #[.val (.int x0), .val (.int x1), .val (.int x2), .val (.int x3), .val (.int xk), .val (.int xs), .val (.int ((xs &&& (3 : Int32)) + (1 : Int32))), .val (.int v0), .val (.int v1), .val (.int v2), .val (.int v3), sl, .unset, .unset, .unset, .unset, .unset, .unset, .unset, .unset] []) := by
    intro T h v0 v1 v2 v3 sl X_J78 hsl g0
    rcases hsl with rfl | ⟨t, rfl⟩
    · skip
      refine o_iload X_J78 at_78 rfl 80 rfl ?_
      refine o_iload X_J78 at_80 rfl 82 rfl ?_
      refine o_icmpLe X_J78 at_82 97 85 (by decide) (by decide) rfl ?_ ?_
      · intro hc82
        exact J97 _ _ v0 v1 v2 v3 _ X_J78 (Or.inl rfl) (by simp only [Int32.lt_iff_toInt_lt] at g0 hc82 ⊢; omega) (by simp only [Int32.lt_iff_toInt_lt] at g0 hc82 ⊢; omega)
      · intro hc82
        refine o_iload X_J78 at_85 rfl 87 rfl ?_
        refine o_istore X_J78 at_87 #[.val (.int x0), .val (.int x1), .val (.int x2), .val (.int x3), .val (.int xk), .val (.int xs), .val (.int ((xs &&& (3 : Int32)) + (1 : Int32))), .val (.int v0), .val (.int v1), .val (.int v2), .val (.int v3), .val (.int v2), .unset, .unset, .unset, .unset, .unset, .unset, .unset, .unset] rfl 89 rfl ?_
        refine o_iload X_J78 at_89 rfl 91 rfl ?_
        refine o_istore X_J78 at_91 #[.val (.int x0), .val (.int x1), .val (.int x2), .val (.int x3), .val (.int xk), .val (.int xs), .val (.int ((xs &&& (3 : Int32)) + (1 : Int32))), .val (.int v0), .val (.int v1), .val (.int v3), .val (.int v3), .val (.int v2), .unset, .unset, .unset, .unset, .unset, .unset, .unset, .unset] rfl 93 rfl ?_
        refine o_iload X_J78 at_93 rfl 95 rfl ?_
        refine o_istore X_J78 at_95 #[.val (.int x0), .val (.int x1), .val (.int x2), .val (.int x3), .val (.int xk), .val (.int xs), .val (.int ((xs &&& (3 : Int32)) + (1 : Int32))), .val (.int v0), .val (.int v1), .val (.int v3), .val (.int v2), .val (.int v2), .unset, .unset, .unset, .unset, .unset, .unset, .unset, .unset] rfl 97 rfl ?_
        exact J97 _ _ v0 v1 v3 v2 _ X_J78 (Or.inr ⟨_, rfl⟩) (by simp only [Int32.lt_iff_toInt_lt] at g0 hc82 ⊢; omega) (by simp only [Int32.lt_iff_toInt_lt] at g0 hc82 ⊢; omega)
    · skip
      refine o_iload X_J78 at_78 rfl 80 rfl ?_
      refine o_iload X_J78 at_80 rfl 82 rfl ?_
      refine o_icmpLe X_J78 at_82 97 85 (by decide) (by decide) rfl ?_ ?_
      · intro hc82
        exact J97 _ _ v0 v1 v2 v3 _ X_J78 (Or.inr ⟨_, rfl⟩) (by simp only [Int32.lt_iff_toInt_lt] at g0 hc82 ⊢; omega) (by simp only [Int32.lt_iff_toInt_lt] at g0 hc82 ⊢; omega)
      · intro hc82
        refine o_iload X_J78 at_85 rfl 87 rfl ?_
        refine o_istore X_J78 at_87 #[.val (.int x0), .val (.int x1), .val (.int x2), .val (.int x3), .val (.int xk), .val (.int xs), .val (.int ((xs &&& (3 : Int32)) + (1 : Int32))), .val (.int v0), .val (.int v1), .val (.int v2), .val (.int v3), .val (.int v2), .unset, .unset, .unset, .unset, .unset, .unset, .unset, .unset] rfl 89 rfl ?_
        refine o_iload X_J78 at_89 rfl 91 rfl ?_
        refine o_istore X_J78 at_91 #[.val (.int x0), .val (.int x1), .val (.int x2), .val (.int x3), .val (.int xk), .val (.int xs), .val (.int ((xs &&& (3 : Int32)) + (1 : Int32))), .val (.int v0), .val (.int v1), .val (.int v3), .val (.int v3), .val (.int v2), .unset, .unset, .unset, .unset, .unset, .unset, .unset, .unset] rfl 93 rfl ?_
        refine o_iload X_J78 at_93 rfl 95 rfl ?_
        refine o_istore X_J78 at_95 #[.val (.int x0), .val (.int x1), .val (.int x2), .val (.int x3), .val (.int xk), .val (.int xs), .val (.int ((xs &&& (3 : Int32)) + (1 : Int32))), .val (.int v0), .val (.int v1), .val (.int v3), .val (.int v2), .val (.int v2), .unset, .unset, .unset, .unset, .unset, .unset, .unset, .unset] rfl 97 rfl ?_
        exact J97 _ _ v0 v1 v3 v2 _ X_J78 (Or.inr ⟨_, rfl⟩) (by simp only [Int32.lt_iff_toInt_lt] at g0 hc82 ⊢; omega) (by simp only [Int32.lt_iff_toInt_lt] at g0 hc82 ⊢; omega)
  have J59 : ∀ (T : State) (h : Heap) (v0 v1 v2 v3 : Int32) (sl : Slot), OW p l e room_1 s m #[(.int x0), (.int x1), (.int x2), (.int x3), (.int xk), (.int xs)] below meth cd0 Z x code maxLocals ret n0 T h 0 0 → (sl = .unset ∨ ∃ t : Int32, sl = .val (.int t)) → OE p e room_1 below s n0 Q' T (mkF m 59 #[.val (.int x0), .val (.int x1), .val (.int x2), .val (.int x3), .val (.int xk), .val (.int xs), .val (.int ((xs &&& (3 : Int32)) + (1 : Int32))), .val (.int v0), .val (.int v1), .val (.int v2), .val (.int v3), sl, .unset, .unset, .unset, .unset, .unset, .unset, .unset, .unset] []) := by
    intro T h v0 v1 v2 v3 sl X_J59 hsl 
    rcases hsl with rfl | ⟨t, rfl⟩
    · skip
      refine o_iload X_J59 at_59 rfl 61 rfl ?_
      refine o_iload X_J59 at_61 rfl 63 rfl ?_
      refine o_icmpLe X_J59 at_63 78 66 (by decide) (by decide) rfl ?_ ?_
      · intro hc63
        exact J78 _ _ v0 v1 v2 v3 _ X_J59 (Or.inl rfl) (by simp only [Int32.lt_iff_toInt_lt] at hc63 ⊢; omega)
      · intro hc63
        refine o_iload X_J59 at_66 rfl 68 rfl ?_
        refine o_istore X_J59 at_68 #[.val (.int x0), .val (.int x1), .val (.int x2), .val (.int x3), .val (.int xk), .val (.int xs), .val (.int ((xs &&& (3 : Int32)) + (1 : Int32))), .val (.int v0), .val (.int v1), .val (.int v2), .val (.int v3), .val (.int v0), .unset, .unset, .unset, .unset, .unset, .unset, .unset, .unset] rfl 70 rfl ?_
        refine o_iload X_J59 at_70 rfl 72 rfl ?_
        refine o_istore X_J59 at_72 #[.val (.int x0), .val (.int x1), .val (.int x2), .val (.int x3), .val (.int xk), .val (.int xs), .val (.int ((xs &&& (3 : Int32)) + (1 : Int32))), .val (.int v1), .val (.int v1), .val (.int v2), .val (.int v3), .val (.int v0), .unset, .unset, .unset, .unset, .unset, .unset, .unset, .unset] rfl 74 rfl ?_
        refine o_iload X_J59 at_74 rfl 76 rfl ?_
        refine o_istore X_J59 at_76 #[.val (.int x0), .val (.int x1), .val (.int x2), .val (.int x3), .val (.int xk), .val (.int xs), .val (.int ((xs &&& (3 : Int32)) + (1 : Int32))), .val (.int v1), .val (.int v0), .val (.int v2), .val (.int v3), .val (.int v0), .unset, .unset, .unset, .unset, .unset, .unset, .unset, .unset] rfl 78 rfl ?_
        exact J78 _ _ v1 v0 v2 v3 _ X_J59 (Or.inr ⟨_, rfl⟩) (by simp only [Int32.lt_iff_toInt_lt] at hc63 ⊢; omega)
    · skip
      refine o_iload X_J59 at_59 rfl 61 rfl ?_
      refine o_iload X_J59 at_61 rfl 63 rfl ?_
      refine o_icmpLe X_J59 at_63 78 66 (by decide) (by decide) rfl ?_ ?_
      · intro hc63
        exact J78 _ _ v0 v1 v2 v3 _ X_J59 (Or.inr ⟨_, rfl⟩) (by simp only [Int32.lt_iff_toInt_lt] at hc63 ⊢; omega)
      · intro hc63
        refine o_iload X_J59 at_66 rfl 68 rfl ?_
        refine o_istore X_J59 at_68 #[.val (.int x0), .val (.int x1), .val (.int x2), .val (.int x3), .val (.int xk), .val (.int xs), .val (.int ((xs &&& (3 : Int32)) + (1 : Int32))), .val (.int v0), .val (.int v1), .val (.int v2), .val (.int v3), .val (.int v0), .unset, .unset, .unset, .unset, .unset, .unset, .unset, .unset] rfl 70 rfl ?_
        refine o_iload X_J59 at_70 rfl 72 rfl ?_
        refine o_istore X_J59 at_72 #[.val (.int x0), .val (.int x1), .val (.int x2), .val (.int x3), .val (.int xk), .val (.int xs), .val (.int ((xs &&& (3 : Int32)) + (1 : Int32))), .val (.int v1), .val (.int v1), .val (.int v2), .val (.int v3), .val (.int v0), .unset, .unset, .unset, .unset, .unset, .unset, .unset, .unset] rfl 74 rfl ?_
        refine o_iload X_J59 at_74 rfl 76 rfl ?_
        refine o_istore X_J59 at_76 #[.val (.int x0), .val (.int x1), .val (.int x2), .val (.int x3), .val (.int xk), .val (.int xs), .val (.int ((xs &&& (3 : Int32)) + (1 : Int32))), .val (.int v1), .val (.int v0), .val (.int v2), .val (.int v3), .val (.int v0), .unset, .unset, .unset, .unset, .unset, .unset, .unset, .unset] rfl 78 rfl ?_
        exact J78 _ _ v1 v0 v2 v3 _ X_J59 (Or.inr ⟨_, rfl⟩) (by simp only [Int32.lt_iff_toInt_lt] at hc63 ⊢; omega)
  refine o_iload X0 at_0 rfl 2 rfl ?_
  refine o_iconst (v := (3 : Int32)) X0 at_2 rfl 3 rfl ?_
  refine o_iand X0 at_3 4 rfl ?_
  refine o_iconst (v := (1 : Int32)) X0 at_4 rfl 5 rfl ?_
  refine o_iadd X0 at_5 6 rfl ?_
  refine o_istore X0 at_6 #[.val (.int x0), .val (.int x1), .val (.int x2), .val (.int x3), .val (.int xk), .val (.int xs), .val (.int ((xs &&& (3 : Int32)) + (1 : Int32))), .unset, .unset, .unset, .unset, .unset, .unset, .unset, .unset, .unset, .unset, .unset, .unset, .unset] rfl 8 rfl ?_
  refine o_iloadN X0 at_8 rfl 9 rfl ?_
  refine o_istore X0 at_9 #[.val (.int x0), .val (.int x1), .val (.int x2), .val (.int x3), .val (.int xk), .val (.int xs), .val (.int ((xs &&& (3 : Int32)) + (1 : Int32))), .val (.int x0), .unset, .unset, .unset, .unset, .unset, .unset, .unset, .unset, .unset, .unset, .unset, .unset] rfl 11 rfl ?_
  refine o_iloadN X0 at_11 rfl 12 rfl ?_
  refine o_istore X0 at_12 #[.val (.int x0), .val (.int x1), .val (.int x2), .val (.int x3), .val (.int xk), .val (.int xs), .val (.int ((xs &&& (3 : Int32)) + (1 : Int32))), .val (.int x0), .val (.int x1), .unset, .unset, .unset, .unset, .unset, .unset, .unset, .unset, .unset, .unset, .unset] rfl 14 rfl ?_
  refine o_iloadN X0 at_14 rfl 15 rfl ?_
  refine o_istore X0 at_15 #[.val (.int x0), .val (.int x1), .val (.int x2), .val (.int x3), .val (.int xk), .val (.int xs), .val (.int ((xs &&& (3 : Int32)) + (1 : Int32))), .val (.int x0), .val (.int x1), .val (.int x2), .unset, .unset, .unset, .unset, .unset, .unset, .unset, .unset, .unset, .unset] rfl 17 rfl ?_
  refine o_iloadN X0 at_17 rfl 18 rfl ?_
  refine o_istore X0 at_18 #[.val (.int x0), .val (.int x1), .val (.int x2), .val (.int x3), .val (.int xk), .val (.int xs), .val (.int ((xs &&& (3 : Int32)) + (1 : Int32))), .val (.int x0), .val (.int x1), .val (.int x2), .val (.int x3), .unset, .unset, .unset, .unset, .unset, .unset, .unset, .unset, .unset] rfl 20 rfl ?_
  refine o_iload X0 at_20 rfl 22 rfl ?_
  refine o_iconst (v := (2 : Int32)) X0 at_22 rfl 23 rfl ?_
  refine o_ishr X0 at_23 24 rfl ?_
  refine o_iconst (v := (1 : Int32)) X0 at_24 rfl 25 rfl ?_
  refine o_iand X0 at_25 26 rfl ?_
  refine o_ifEq X0 at_26 33 29 (by decide) (by decide) rfl ?_ ?_
  · intro hc26
    refine o_iload X0 at_33 rfl 35 rfl ?_
    refine o_iconst (v := (3 : Int32)) X0 at_35 rfl 36 rfl ?_
    refine o_ishr X0 at_36 37 rfl ?_
    refine o_iconst (v := (1 : Int32)) X0 at_37 rfl 38 rfl ?_
    refine o_iand X0 at_38 39 rfl ?_
    refine o_ifEq X0 at_39 46 42 (by decide) (by decide) rfl ?_ ?_
    · intro hc39
      refine o_iload X0 at_46 rfl 48 rfl ?_
      refine o_iconst (v := (4 : Int32)) X0 at_48 rfl 49 rfl ?_
      refine o_ishr X0 at_49 50 rfl ?_
      refine o_iconst (v := (1 : Int32)) X0 at_50 rfl 51 rfl ?_
      refine o_iand X0 at_51 52 rfl ?_
      refine o_ifEq X0 at_52 59 55 (by decide) (by decide) rfl ?_ ?_
      · intro hc52
        exact J59 _ _ x0 x1 x2 x3 _ X0 (Or.inl rfl) 
      · intro hc52
        refine o_iload X0 at_55 rfl 57 rfl ?_
        refine o_istore X0 at_57 #[.val (.int x0), .val (.int x1), .val (.int x2), .val (.int x3), .val (.int xk), .val (.int xs), .val (.int ((xs &&& (3 : Int32)) + (1 : Int32))), .val (.int x0), .val (.int x1), .val (.int x2), .val (.int x2), .unset, .unset, .unset, .unset, .unset, .unset, .unset, .unset, .unset] rfl 59 rfl ?_
        exact J59 _ _ x0 x1 x2 x2 _ X0 (Or.inl rfl) 
    · intro hc39
      refine o_iload X0 at_42 rfl 44 rfl ?_
      refine o_istore X0 at_44 #[.val (.int x0), .val (.int x1), .val (.int x2), .val (.int x3), .val (.int xk), .val (.int xs), .val (.int ((xs &&& (3 : Int32)) + (1 : Int32))), .val (.int x0), .val (.int x1), .val (.int x1), .val (.int x3), .unset, .unset, .unset, .unset, .unset, .unset, .unset, .unset, .unset] rfl 46 rfl ?_
      refine o_iload X0 at_46 rfl 48 rfl ?_
      refine o_iconst (v := (4 : Int32)) X0 at_48 rfl 49 rfl ?_
      refine o_ishr X0 at_49 50 rfl ?_
      refine o_iconst (v := (1 : Int32)) X0 at_50 rfl 51 rfl ?_
      refine o_iand X0 at_51 52 rfl ?_
      refine o_ifEq X0 at_52 59 55 (by decide) (by decide) rfl ?_ ?_
      · intro hc52
        exact J59 _ _ x0 x1 x1 x3 _ X0 (Or.inl rfl) 
      · intro hc52
        refine o_iload X0 at_55 rfl 57 rfl ?_
        refine o_istore X0 at_57 #[.val (.int x0), .val (.int x1), .val (.int x2), .val (.int x3), .val (.int xk), .val (.int xs), .val (.int ((xs &&& (3 : Int32)) + (1 : Int32))), .val (.int x0), .val (.int x1), .val (.int x1), .val (.int x1), .unset, .unset, .unset, .unset, .unset, .unset, .unset, .unset, .unset] rfl 59 rfl ?_
        exact J59 _ _ x0 x1 x1 x1 _ X0 (Or.inl rfl) 
  · intro hc26
    refine o_iload X0 at_29 rfl 31 rfl ?_
    refine o_istore X0 at_31 #[.val (.int x0), .val (.int x1), .val (.int x2), .val (.int x3), .val (.int xk), .val (.int xs), .val (.int ((xs &&& (3 : Int32)) + (1 : Int32))), .val (.int x0), .val (.int x0), .val (.int x2), .val (.int x3), .unset, .unset, .unset, .unset, .unset, .unset, .unset, .unset, .unset] rfl 33 rfl ?_
    refine o_iload X0 at_33 rfl 35 rfl ?_
    refine o_iconst (v := (3 : Int32)) X0 at_35 rfl 36 rfl ?_
    refine o_ishr X0 at_36 37 rfl ?_
    refine o_iconst (v := (1 : Int32)) X0 at_37 rfl 38 rfl ?_
    refine o_iand X0 at_38 39 rfl ?_
    refine o_ifEq X0 at_39 46 42 (by decide) (by decide) rfl ?_ ?_
    · intro hc39
      refine o_iload X0 at_46 rfl 48 rfl ?_
      refine o_iconst (v := (4 : Int32)) X0 at_48 rfl 49 rfl ?_
      refine o_ishr X0 at_49 50 rfl ?_
      refine o_iconst (v := (1 : Int32)) X0 at_50 rfl 51 rfl ?_
      refine o_iand X0 at_51 52 rfl ?_
      refine o_ifEq X0 at_52 59 55 (by decide) (by decide) rfl ?_ ?_
      · intro hc52
        exact J59 _ _ x0 x0 x2 x3 _ X0 (Or.inl rfl) 
      · intro hc52
        refine o_iload X0 at_55 rfl 57 rfl ?_
        refine o_istore X0 at_57 #[.val (.int x0), .val (.int x1), .val (.int x2), .val (.int x3), .val (.int xk), .val (.int xs), .val (.int ((xs &&& (3 : Int32)) + (1 : Int32))), .val (.int x0), .val (.int x0), .val (.int x2), .val (.int x2), .unset, .unset, .unset, .unset, .unset, .unset, .unset, .unset, .unset] rfl 59 rfl ?_
        exact J59 _ _ x0 x0 x2 x2 _ X0 (Or.inl rfl) 
    · intro hc39
      refine o_iload X0 at_42 rfl 44 rfl ?_
      refine o_istore X0 at_44 #[.val (.int x0), .val (.int x1), .val (.int x2), .val (.int x3), .val (.int xk), .val (.int xs), .val (.int ((xs &&& (3 : Int32)) + (1 : Int32))), .val (.int x0), .val (.int x0), .val (.int x0), .val (.int x3), .unset, .unset, .unset, .unset, .unset, .unset, .unset, .unset, .unset] rfl 46 rfl ?_
      refine o_iload X0 at_46 rfl 48 rfl ?_
      refine o_iconst (v := (4 : Int32)) X0 at_48 rfl 49 rfl ?_
      refine o_ishr X0 at_49 50 rfl ?_
      refine o_iconst (v := (1 : Int32)) X0 at_50 rfl 51 rfl ?_
      refine o_iand X0 at_51 52 rfl ?_
      refine o_ifEq X0 at_52 59 55 (by decide) (by decide) rfl ?_ ?_
      · intro hc52
        exact J59 _ _ x0 x0 x0 x3 _ X0 (Or.inl rfl) 
      · intro hc52
        refine o_iload X0 at_55 rfl 57 rfl ?_
        refine o_istore X0 at_57 #[.val (.int x0), .val (.int x1), .val (.int x2), .val (.int x3), .val (.int xk), .val (.int xs), .val (.int ((xs &&& (3 : Int32)) + (1 : Int32))), .val (.int x0), .val (.int x0), .val (.int x0), .val (.int x0), .unset, .unset, .unset, .unset, .unset, .unset, .unset, .unset, .unset] rfl 59 rfl ?_
        exact J59 _ _ x0 x0 x0 x0 _ X0 (Or.inl rfl) 
set_option maxRecDepth 65536 in
set_option maxHeartbeats 40000000 in
theorem comes_1 {Post : Tables → Env → Array Value → State → Outcome → State → Prop} (hpost : ∀ tb e args s v u, (limb_1_1.after args s (.returned v) u = true ∧ limb_1_2.after args s (.returned v) u = true ∧ True) → FrameEnd s (.returned v) u (Jvm.fieldLocs frame_1_writes args s ++ Jvm.arrayLocs frame_1_arrays args s ++ Jvm.staticLocs frame_1_statics s) 16 128 → Post tb e args s (.returned v) u) :
    ArmFor flags0 classFile x code maxLocals ret World_1 tables_1 room_1 Calls_1 rest_1 Pre_1 Post := by
  intro l hfl _ _ p e ha hc hk s m args below hf hA hF happ hP
  obtain ⟨hcalls, hrest, hpre⟩ := hP
  obtain ⟨-, -, -, hnamed, -, -, -, hat⟩ := (Spec.applies_iff hf).mp happ
  obtain ⟨hg, hn⟩ := and_e (Cond.before_iff.mp (show (Jvm.Cond.and given_1 narrow_1).before args s = true from hpre))
  obtain ⟨hcnt, hg0⟩ := and_e hg
  obtain ⟨ha0, hg1⟩ := and_e hg0
  obtain ⟨ha1, hg2⟩ := and_e hg1
  obtain ⟨ha2, hg3⟩ := and_e hg2
  obtain ⟨ha3, hg4⟩ := and_e hg3
  obtain ⟨ha4, hg5⟩ := and_e hg4
  have ha5 := hg5
  obtain ⟨w0, w1, w2, w3, w4, w5, rfl⟩ : ∃ w0 w1 w2 w3 w4 w5 : Value, args = #[w0, w1, w2, w3, w4, w5] := by
    have hs : args.size = 6 := by simpa [Cond.value, given_1] using hcnt
    obtain ⟨L⟩ := args
    match L, hs with
    | [w0, w1, w2, w3, w4, w5], _ => exact ⟨w0, w1, w2, w3, w4, w5, rfl⟩
  have hw := fun d (hd : d ∈ tables_1) => atoms_spec (ws := Jvm.Cond.code x code maxLocals ret :: tables_1) hat d (List.mem_cons_of_mem _ hd)
  obtain ⟨i0, ei0⟩ := is_v ha0
  obtain rfl : w0 = (.int i0) := Option.some.inj ei0
  obtain ⟨i1, ei1⟩ := is_v ha1
  obtain rfl : w1 = (.int i1) := Option.some.inj ei1
  obtain ⟨i2, ei2⟩ := is_v ha2
  obtain rfl : w2 = (.int i2) := Option.some.inj ei2
  obtain ⟨i3, ei3⟩ := is_v ha3
  obtain rfl : w3 = (.int i3) := Option.some.inj ei3
  obtain ⟨i4, ei4⟩ := is_v ha4
  obtain rfl : w4 = (.int i4) := Option.some.inj ei4
  obtain ⟨i5, ei5⟩ := is_v ha5
  obtain rfl : w5 = (.int i5) := Option.some.inj ei5
  obtain ⟨n, o, h1, h2, h3, _, L, rfl, ⟨rfl, N⟩, hq⟩ := c_law l s _ hw tables_1 s.heap.size s.heap (Nat.le_refl _) i0 i1 i2 i3 i4 i5 p e ha hc hk s m _ below hf ((Spec.applies_iff_loose hf).mp happ).1 ⟨rfl, State.Warmed39.refl s, rfl⟩ trivial
  refine ⟨n, _, h1, h2, h3, hpost _ _ _ _ _ _ ⟨Cond.after_iff.mpr rfl, Cond.after_iff.mpr (eq_i res_at (Term.int_eval (1)) rfl), trivial⟩ ⟨hq.1, hq.2.1, (hq.2.2.sift fun y hy => Or.inr (N y hy)).mono (by decide) (by decide)⟩⟩
theorem main_1_1 : Claimed_1_1 := comes_1 fun _ _ _ _ _ _ h hF => ⟨h.1, hF⟩
theorem main_1_2 : Claimed_1_2 := comes_1 fun _ _ _ _ _ _ h hF => ⟨h.2.1, hF⟩
end Jvm.Pilot.@@N@@
namespace Jvm.Pilot.@@N@@
open Jvm Jvm.ClassFile Sem Op Lib Jvm.Free Jvm.Stand Jvm.Pilot.@@N@@.Jvm.D
/-! MADE BY PROGRAM (witnessworld.py) out of the Statement's table words and the real class files: 9 classes; the members and pool entries that the words name. The judged class is class 1, her method 1. -/
namespace start1
open Jvm.ClassFile
def u (s : String) : CpInfo := .utf8 (stringToUtf16 s)
/-- a pool by its gaps: so many unusable entries, then the entry; so many at the end -/
def gap : Nat → List CpInfo → List CpInfo
  | 0, r => r
  | n + 1, r => .unusable :: gap n r
def poolList (es : List (Nat × CpInfo)) (last : Nat) : List CpInfo := es.foldr (fun e r => gap e.1 (e.2 :: r)) (gap last [])
def pool (es : List (Nat × CpInfo)) (last : Nat) : Array CpInfo := ⟨poolList es last⟩
def fileOf (pool : Array CpInfo) (this : Nat) (attrs : Array Attribute := #[]) (ms : Array MethodInfo := #[]) (fl : Nat := 33) (sup : Nat := 0) (ifs : Array Nat := #[]) (fds : Array FieldInfo := #[]) : ClassFile where
  minorVersion := 0
  majorVersion := 65
  constantPool := pool
  accessFlags := fl
  thisClass := this
  superClass := sup
  interfaces := ifs
  fields := fds
  methods := ms
  attributes := attrs
def plain (name : String) (sup : Option ClassId) : Class where
  name := name
  kind := .ordinary
  loader := none
  accessFlags := 33
  super := sup
  interfaces := #[]
  cf := none
  fields := #[]
  methods := #[]
  instanceTypes := #[]
  staticTypes := #[]
  resolved := #[]
  callSites := []
  init := .initialized
  statics := none
  mirror := none

def pool0 : Array CpInfo := pool [(5, u "<init>"), (0, u "()V"), (1, .class_ 10), (1, u "java/lang/Object")] 113

def k0m0 : Method := { name := "<init>", desc := "()V", sig := { parameters := [], returnType := none }, accessFlags := 1, code := none }
/-- java/lang/Object -/
def k0 : Class := { plain "java/lang/Object" none with
  accessFlags := 33
  interfaces := #[]
  cf := some (fileOf pool0 8 #[] #[{ accessFlags := 1, nameIndex := 5, descriptorIndex := 6, attributes := #[] }] 33 0 #[] #[])
  fields := #[]
  methods := #[k0m0]
  instanceTypes := #[]
  staticTypes := #[]
  resolved := Array.replicate 124 none
  statics := none }

def pool1 : Array CpInfo := pool [(2, .class_ 4), (1, u "java/lang/Object"), (0, u "<init>"), (0, u "()V"), (0, .integer 2147483647), (0, .methodref 9 10), (0, .class_ 11), (0, .nameAndType 12 13), (0, u "com/example/palamedes/palamedes/SortedInts"), (0, u "lastAtMost"), (0, u "([II)I"), (0, .class_ 15), (0, u "com/example/palamedes/palamedes/SortedIntsLastAtMostPinLaw"), (2, u "law"), (0, u "(IIIIII)Z")] 5

def k1m0 : Method := { name := "<init>", desc := "()V", sig := { parameters := [], returnType := none }, accessFlags := 2, code := none }
def k1c1 : Code := { maxStack := 4, maxLocals := 20, code := code, exceptionTable := #[], attributes := #[] }
def k1m1 : Method := { name := "law", desc := "(IIIIII)Z", sig := { parameters := [.int, .int, .int, .int, .int, .int], returnType := some .boolean }, accessFlags := 9, code := some k1c1 }
/-- com/example/palamedes/palamedes/SortedIntsLastAtMostPinLaw -/
def k1 : Class := { plain "com/example/palamedes/palamedes/SortedIntsLastAtMostPinLaw" (some 0) with
  accessFlags := 49
  interfaces := #[]
  cf := some (fileOf pool1 14 #[] #[{ accessFlags := 2, nameIndex := 5, descriptorIndex := 6, attributes := #[] }, { accessFlags := 9, nameIndex := 18, descriptorIndex := 19, attributes := #[] }] 49 2 #[] #[])
  fields := #[]
  methods := #[k1m0, k1m1]
  instanceTypes := #[]
  staticTypes := #[]
  resolved := Array.replicate 25 none
  statics := none }

def pool2 : Array CpInfo := pool [(2, .class_ 4), (1, u "java/lang/Object"), (0, u "<init>"), (0, u "()V"), (34, .class_ 42), (0, u "com/example/palamedes/palamedes/SortedInts"), (2, u "lastAtMost"), (0, u "([II)I")] 7

def k2m0 : Method := { name := "<init>", desc := "()V", sig := { parameters := [], returnType := none }, accessFlags := 2, code := none }
def k2c1 : Code := { maxStack := 2, maxLocals := 5, code := prog_5_method_2_code, exceptionTable := #[], attributes := #[] }
def k2m1 : Method := { name := "lastAtMost", desc := "([II)I", sig := { parameters := [(.array .int), .int], returnType := some .int }, accessFlags := 9, code := some k2c1 }
/-- com/example/palamedes/palamedes/SortedInts -/
def k2 : Class := { plain "com/example/palamedes/palamedes/SortedInts" (some 0) with
  accessFlags := 49
  interfaces := #[]
  cf := some (fileOf pool2 41 #[] #[{ accessFlags := 2, nameIndex := 5, descriptorIndex := 6, attributes := #[] }, { accessFlags := 9, nameIndex := 45, descriptorIndex := 46, attributes := #[] }] 49 2 #[] #[])
  fields := #[]
  methods := #[k2m0, k2m1]
  instanceTypes := #[]
  staticTypes := #[]
  resolved := Array.replicate 54 none
  statics := none }

def pool3 : Array CpInfo := pool [(1, u "java/lang/Cloneable"), (0, .class_ 1), (0, u "java/lang/Object"), (0, .class_ 3)] 3

/-- java/lang/Cloneable -/
def k3 : Class := { plain "java/lang/Cloneable" (some 0) with
  accessFlags := 1537
  interfaces := #[]
  cf := some (fileOf pool3 2 #[] #[] 1537 4 #[] #[])
  fields := #[]
  methods := #[]
  instanceTypes := #[]
  staticTypes := #[]
  resolved := Array.replicate 8 none
  statics := none }

def pool4 : Array CpInfo := pool [(1, u "java/io/Serializable"), (0, .class_ 1), (0, u "java/lang/Object"), (0, .class_ 3)] 3

/-- java/io/Serializable -/
def k4 : Class := { plain "java/io/Serializable" (some 0) with
  accessFlags := 1537
  interfaces := #[]
  cf := some (fileOf pool4 2 #[] #[] 1537 4 #[] #[])
  fields := #[]
  methods := #[]
  instanceTypes := #[]
  staticTypes := #[]
  resolved := Array.replicate 8 none
  statics := none }

/-- the primitive byte -/
def k5 : Class := { plain "byte" none with kind := .primitive 'B', accessFlags := 0x411 }
/-- [B -/
def k6 : Class := { plain "[B" (some 0) with kind := .array 5 .byte, interfaces := #[3, 4], accessFlags := 1041 }

/-- the primitive int -/
def k7 : Class := { plain "int" none with kind := .primitive 'I', accessFlags := 0x411 }
/-- [I -/
def k8 : Class := { plain "[I" (some 0) with kind := .array 7 .int, interfaces := #[3, 4], accessFlags := 1041 }

def heap : Heap := #[]
def classes : Array Class := #[k0, k1, k2, k3, k4, k5, k6, k7, k8]
def interned : List (Array UInt16 × Addr) := []
def slotsUsed : Nat := 0
def theMethod : MethodId := ⟨1, 1⟩
def args0 : Array Value := #[.int 5, .int 3, .int 4, .int 2, .int 1, .int 9]
def aboutOver (below : List Frame) : State where
  vm := { classes := classes, interned := interned.toArray }
  heap := heap
  slotsUsed := slotsUsed
  threads := #[{ frames := .invoking theMethod args0 :: below }]
def below0 : List Frame := [.native { method := ⟨0, 0⟩, args := #[] }]
def about1 : State := aboutOver below0
def p0 : Program := .bare "" "" ""
def e0 : Env := launch0.env 0 0 0
theorem w_frames : about1.frames = Frame.invoking theMethod args0 :: below0 := rfl
set_option maxRecDepth 65536 in
theorem w_args : argsFit about1.vm theMethod args0 = true := by decide +kernel
set_option maxRecDepth 65536 in
theorem w_heap : heapFits about1 = true := by decide +kernel
set_option maxRecDepth 65536 in
theorem w_runnable : about1.curStatus? = some .runnable := by decide +kernel
set_option maxRecDepth 65536 in
theorem w_alone : about1.alone = true := by decide +kernel
set_option maxRecDepth 65536 in
theorem w_named : about1.methodNamed? x = some theMethod := by decide +kernel
set_option maxRecDepth 65536 in
theorem w_hears : about1.hears theMethod below0 = true := by decide +kernel
set_option maxRecDepth 65536 in
theorem w_ripe : about1.ripe theMethod args0 below0 = true := by decide +kernel
theorem w_running : about1.status = .running := rfl
set_option maxRecDepth 65536 in
theorem w_room : about1.hasRoom e0.platform room_1 = true :=
  launch0.hasRoom_least _ room_1 (by decide +kernel) (by decide +kernel) (by decide +kernel) (by decide +kernel) (by decide +kernel) (by decide +kernel)
theorem allAtoms_all (ts : List Jvm.Cond) (a : Array Jvm.Value) (st : Jvm.State) : (allAtoms ts).before a st = ts.all (fun c => c.before a st) := by
  induction ts with
  | nil => rfl
  | cons c t ih =>
    show (Jvm.Cond.and c (allAtoms t)).before a st = _
    rw [Jvm.Cond.before_and, ih, List.all_cons]
def words1 : List Jvm.Cond := Jvm.Cond.code x code maxLocals ret :: tables_1
/-- a 'code' word, met by the world's own term for the bytes: nothing is compared byte by byte -/
theorem code_word {y : MethodName} {bytes : ByteArray} {mx : Nat} {rt : Option FieldType} {a : Array Value} {s : State} {m : MethodId} {meth : Method} {c : Code} (h1 : s.methodNamed? y = some m) (h2 : s.vm.method? m = some meth) (h3 : meth.code = some c) (h4 : c.code = bytes)
    (h5 : (c.maxLocals == mx && c.exceptionTable.isEmpty && decide (c.maxStack ≤ mostOperands) && decide (meth.sig.returnType = rt) && !meth.locks && decide (parseMethodDescriptor y.desc = some meth.sig)) = true) : (Jvm.Cond.code y bytes mx rt).before a s = true := by
  simp only [Bool.and_eq_true, beq_iff_eq, Bool.not_eq_true', decide_eq_true_eq] at h5
  obtain ⟨⟨⟨⟨⟨g1, g2⟩, g3⟩, g4⟩, g5⟩, g6⟩ := h5
  simp [Cond.before, Cond.holds, Cond.value, h1, h2, h3, h4, g1, g2, g3, g4, g5, g6]
def isCode : Jvm.Cond → Bool
  | .code _ _ _ _ => true
  | _ => false
theorem all_split {L : List Jvm.Cond} {P : Jvm.Cond → Bool} (h1 : L.all (fun c => isCode c || P c) = true) (h2 : ∀ c ∈ L.filter isCode, P c = true) : L.all P = true := by
  refine List.all_eq_true.mpr fun c hc => ?_
  have h := List.all_eq_true.mp h1 c hc
  rcases Bool.eq_false_or_eq_true (isCode c) with hi | hi
  · exact h2 c (List.mem_filter.mpr ⟨hc, hi⟩)
  · simpa [hi] using h
set_option maxRecDepth 65536 in
theorem w_c0 : (Jvm.Cond.code x code maxLocals ret).before args0 about1 = true := code_word (m := ⟨1, 1⟩) (meth := k1m1) (c := k1c1) (by decide +kernel) rfl rfl rfl (by decide +kernel)
set_option maxRecDepth 65536 in
theorem w_c1 : (Jvm.Cond.code ({ cls := "com/example/palamedes/palamedes/SortedInts", name := "lastAtMost", desc := "([II)I" } : Jvm.MethodName) prog_5_method_2_code (5 : Nat) (Option.some Jvm.ClassFile.FieldType.int)).before args0 about1 = true := code_word (m := ⟨2, 1⟩) (meth := k2m1) (c := k2c1) (by decide +kernel) rfl rfl rfl (by decide +kernel)
def codes1 : List Jvm.Cond := [Jvm.Cond.code x code maxLocals ret, Jvm.Cond.code ({ cls := "com/example/palamedes/palamedes/SortedInts", name := "lastAtMost", desc := "([II)I" } : Jvm.MethodName) prog_5_method_2_code (5 : Nat) (Option.some Jvm.ClassFile.FieldType.int)]
set_option maxRecDepth 65536 in
theorem codes_eq : words1.filter isCode = codes1 := rfl
theorem w_codes : ∀ c ∈ words1.filter isCode, c.before args0 about1 = true := by
  rw [codes_eq]
  intro c hc
  simp only [codes1, List.mem_cons, List.not_mem_nil, or_false] at hc
  rcases hc with rfl | rfl
  · exact w_c0
  · exact w_c1
set_option maxRecDepth 65536 in
theorem w_t1 : words1.all (fun c => isCode c || c.before args0 about1) = true := by decide +kernel
theorem w_tables : (allAtoms (Jvm.Cond.code x code maxLocals ret :: tables_1)).before args0 about1 = true := by
  rw [allAtoms_all]
  show words1.all (fun c => c.before args0 about1) = true
  refine all_split ?_ w_codes
  rw [w_t1]
set_option maxRecDepth 65536 in
theorem w_case : (Jvm.Cond.and given_1 narrow_1).before args0 about1 = true := by decide +kernel
theorem w_applies : (headSpec (Jvm.Cond.code x code maxLocals ret :: tables_1) room_1).applies x e0.platform about1 = true :=
  (Spec.applies_iff w_frames).mpr ⟨w_running, w_runnable, w_alone, w_named, w_hears, w_ripe, w_room, w_tables⟩
theorem atStart : AtStart classFile x code maxLocals ret World_1 tables_1 room_1 Calls_1 rest_1 Pre_1 launch0 p0 e0 about1 theMethod args0 below0 :=
  ⟨lists_1, trivial, launch0.admits_env _ _ _, launch0.least_env, fairChoices_fair.cas, fairChoices_fair.clock, w_frames, w_args, w_heap, w_applies, trivial, trivial, w_case⟩
end start1
theorem witness_1 : WitnessClaimed_1 := ⟨start1.p0, start1.e0, start1.about1, start1.theMethod, start1.args0, start1.below0, start1.atStart⟩
end Jvm.Pilot.@@N@@
