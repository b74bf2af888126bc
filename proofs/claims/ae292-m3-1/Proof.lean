import JvmDerived
import JvmDerived.Pilot.@@N@@Statement
import JvmDerived.Pilot.@@N@@Code
set_option linter.unusedVariables false
set_option linter.unusedSimpArgs false
@@BLOCK:NumsL.lean.txt@@
namespace Jvm.Pilot.@@N@@
open Jvm Jvm.ClassFile Sem Op Lib Jvm.Free Jvm.Stand Jvm.LawKit Jvm.RoadKit Bundle Jvm.Pilot.@@N@@.Jvm.D
section OwnKit
variable {p : Program} {l : Launch} {e : Env} {R : Room} {s : State} {m : MethodId} {args : Array Value} {below : List Frame} {meth : Method} {c : Code} {T T' : State} {Z : State} {h : Heap} {n0 k n mx : Nat} {y : MethodName} {bytes : ByteArray} {ret : Option FieldType} {Q : Option Value → Heap → Prop} {pc : Nat} {Ls : Array Slot} {st rest : List Value} {a0 : Array Value} {g g' : JFrame}
/-- where a body's walk stands: all that its steps ask, bundled -/
def OW (p : Program) (l : Launch) (e : Env) (R : Room) (s : State) (m : MethodId) (args : Array Value) (below : List Frame) (meth : Method) (c : Code) (Z : State) (y : MethodName) (bytes : ByteArray) (mx : Nat) (ret : Option FieldType) (n0 : Nat) (T : State) (h : Heap) (k n : Nat) : Prop :=
  p.tables.exec = Jvm.exec ∧ Z.Warmed39 s.vm ∧ s.vm.findClass y.cls = some m.cls ∧ c.code = bytes ∧ c.maxLocals = mx ∧ meth.sig.returnType = ret ∧ meth.name = y.name ∧ meth.locks = false ∧ n0 ≤ s.heap.size ∧ T.heap = h ∧ ∃ locs, Stand p l e R s m args below meth c T locs k n ∧ Fr n0 locs
/-- what a body owes from the frame g on: it returns, and Q holds of what it returns and of the heap -/
def OE (p : Program) (e : Env) (R : Room) (below : List Frame) (s : State) (n0 : Nat) (Q : Option Value → Heap → Prop) (T : State) (g : JFrame) : Prop :=
  ∃ t o, Steps p.tables e below (T.setTop g) t ∧ t.status = .running ∧ Ended t below o ∧ ∃ v L, o = .returned v ∧ (Q v t.heap ∧ Fr n0 L) ∧ FrameEnd s o t L R.cells R.slots
theorem OE.by (hs : ∀ t, Steps p.tables e below (T'.setTop g') t → Steps p.tables e below (T.setTop g) t) (K : OE p e R below s n0 Q T' g') : OE p e R below s n0 Q T g := by
  obtain ⟨t, o, h1, r⟩ := K; exact ⟨t, o, hs t h1, r⟩
theorem OW.size (X : OW p l e R s m args below meth c Z y bytes mx ret n0 T h k n) : n0 ≤ h.size := by
  obtain ⟨-, -, -, -, -, -, -, -, h0, rfl, locs, S, -⟩ := X
  exact Nat.le_trans h0 S.same.2.1
theorem OW.more (X : OW p l e R s m args below meth c Z y bytes mx ret n0 T h k n) {k' n' : Nat} (hk : k ≤ k') (hn : n ≤ n') : OW p l e R s m args below meth c Z y bytes mx ret n0 T h k' n' := by
  obtain ⟨h1, h2, h3, h4, h5, h6, h7, h8, h9, h10, locs, S, N⟩ := X
  exact ⟨h1, h2, h3, h4, h5, h6, h7, h8, h9, h10, locs, S.more hk hn, N⟩
theorem o_iloadN (X : OW p l e R s m args below meth c Z y bytes mx ret n0 T h k n) {j : Fin 4} {v : Int32} (hd : decode bytes pc = .ok (.iload_n j, 1)) (hl : Ls[j.val]? = some (.val (.int v))) (pc' : Nat) (hp : pc + 1 = pc') (K : OE p e R below s n0 Q T (mkF m pc' Ls (.int v :: st))) : OE p e R below s n0 Q T (mkF m pc Ls st) := by
  obtain ⟨hx, hZ, hown, hby, hmx, hret, hnm, hlk, h0, hT, locs, S, N⟩ := X; subst hp
  exact OE.by (fun t q => XS.iloadN S.here hx rfl (hb hby hd) hl q) K
theorem o_iload (X : OW p l e R s m args below meth c Z y bytes mx ret n0 T h k n) {j : Nat} {v : Int32} (hd : decode bytes pc = .ok (.iload j, 2)) (hl : Ls[j]? = some (.val (.int v))) (pc' : Nat) (hp : pc + 2 = pc') (K : OE p e R below s n0 Q T (mkF m pc' Ls (.int v :: st))) : OE p e R below s n0 Q T (mkF m pc Ls st) := by
  obtain ⟨hx, hZ, hown, hby, hmx, hret, hnm, hlk, h0, hT, locs, S, N⟩ := X; subst hp
  exact OE.by (fun t q => XS.iload S.here hx rfl (hb hby hd) hl q) K
theorem o_aloadN (X : OW p l e R s m args below meth c Z y bytes mx ret n0 T h k n) {j : Fin 4} {v : Value} (hd : decode bytes pc = .ok (.aload_n j, 1)) (hl : Ls[j.val]? = some (.val v)) (hv : v.isRef = true) (pc' : Nat) (hp : pc + 1 = pc') (K : OE p e R below s n0 Q T (mkF m pc' Ls (v :: st))) : OE p e R below s n0 Q T (mkF m pc Ls st) := by
  obtain ⟨hx, hZ, hown, hby, hmx, hret, hnm, hlk, h0, hT, locs, S, N⟩ := X; subst hp
  exact OE.by (fun t q => XS.aloadN S.here hx rfl (hb hby hd) hl hv q) K
theorem o_aload (X : OW p l e R s m args below meth c Z y bytes mx ret n0 T h k n) {j : Nat} {v : Value} (hd : decode bytes pc = .ok (.aload j, 2)) (hl : Ls[j]? = some (.val v)) (hv : v.isRef = true) (pc' : Nat) (hp : pc + 2 = pc') (K : OE p e R below s n0 Q T (mkF m pc' Ls (v :: st))) : OE p e R below s n0 Q T (mkF m pc Ls st) := by
  obtain ⟨hx, hZ, hown, hby, hmx, hret, hnm, hlk, h0, hT, locs, S, N⟩ := X; subst hp
  exact OE.by (fun t q => XS.aload S.here hx rfl (hb hby hd) hl hv q) K
theorem o_lloadN (X : OW p l e R s m args below meth c Z y bytes mx ret n0 T h k n) {j : Fin 4} {v : Int64} (hd : decode bytes pc = .ok (.lload_n j, 1)) (hl : Ls[j.val]? = some (.val (.long v))) (pc' : Nat) (hp : pc + 1 = pc') (K : OE p e R below s n0 Q T (mkF m pc' Ls (.long v :: st))) : OE p e R below s n0 Q T (mkF m pc Ls st) := by
  obtain ⟨hx, hZ, hown, hby, hmx, hret, hnm, hlk, h0, hT, locs, S, N⟩ := X; subst hp
  exact OE.by (fun t q => XT.lloadN S.here hx rfl (hb hby hd) hl q) K
theorem o_lload (X : OW p l e R s m args below meth c Z y bytes mx ret n0 T h k n) {j : Nat} {v : Int64} (hd : decode bytes pc = .ok (.lload j, 2)) (hl : Ls[j]? = some (.val (.long v))) (pc' : Nat) (hp : pc + 2 = pc') (K : OE p e R below s n0 Q T (mkF m pc' Ls (.long v :: st))) : OE p e R below s n0 Q T (mkF m pc Ls st) := by
  obtain ⟨hx, hZ, hown, hby, hmx, hret, hnm, hlk, h0, hT, locs, S, N⟩ := X; subst hp
  exact OE.by (fun t q => XT.lload S.here hx rfl (hb hby hd) hl q) K
theorem o_iconst (X : OW p l e R s m args below meth c Z y bytes mx ret n0 T h k n) {i : Int} {v : Int32} (hd : decode bytes pc = .ok (.iconst i, 1)) (hv : Int32.ofInt i = v) (pc' : Nat) (hp : pc + 1 = pc') (K : OE p e R below s n0 Q T (mkF m pc' Ls (.int v :: st))) : OE p e R below s n0 Q T (mkF m pc Ls st) := by
  obtain ⟨hx, hZ, hown, hby, hmx, hret, hnm, hlk, h0, hT, locs, S, N⟩ := X; subst hp hv
  exact OE.by (fun t q => XS.iconst S.here hx rfl (hb hby hd) q) K
theorem o_bipush (X : OW p l e R s m args below meth c Z y bytes mx ret n0 T h k n) {i : Int} {v : Int32} (hd : decode bytes pc = .ok (.bipush i, 2)) (hv : (Int8.ofInt i).toInt32 = v) (pc' : Nat) (hp : pc + 2 = pc') (K : OE p e R below s n0 Q T (mkF m pc' Ls (.int v :: st))) : OE p e R below s n0 Q T (mkF m pc Ls st) := by
  obtain ⟨hx, hZ, hown, hby, hmx, hret, hnm, hlk, h0, hT, locs, S, N⟩ := X; subst hp hv
  exact OE.by (fun t q => XS.bipush S.here hx rfl (hb hby hd) q) K
theorem o_sipush (X : OW p l e R s m args below meth c Z y bytes mx ret n0 T h k n) {i : Int} {v : Int32} (hd : decode bytes pc = .ok (.sipush i, 3)) (hv : (Int16.ofInt i).toInt32 = v) (pc' : Nat) (hp : pc + 3 = pc') (K : OE p e R below s n0 Q T (mkF m pc' Ls (.int v :: st))) : OE p e R below s n0 Q T (mkF m pc Ls st) := by
  obtain ⟨hx, hZ, hown, hby, hmx, hret, hnm, hlk, h0, hT, locs, S, N⟩ := X; subst hp hv
  exact OE.by (fun t q => XS.sipush S.here hx rfl (hb hby hd) q) K
theorem o_lconst (X : OW p l e R s m args below meth c Z y bytes mx ret n0 T h k n) {i : Fin 2} {v : Int64} (hd : decode bytes pc = .ok (.lconst i, 1)) (hv : Int64.ofNat i = v) (pc' : Nat) (hp : pc + 1 = pc') (K : OE p e R below s n0 Q T (mkF m pc' Ls (.long v :: st))) : OE p e R below s n0 Q T (mkF m pc Ls st) := by
  obtain ⟨hx, hZ, hown, hby, hmx, hret, hnm, hlk, h0, hT, locs, S, N⟩ := X; subst hp hv
  exact OE.by (fun t q => XT.lconst S.here hx rfl (hb hby hd) q) K
theorem o_iadd (X : OW p l e R s m args below meth c Z y bytes mx ret n0 T h k n) {x z : Int32} (hd : decode bytes pc = .ok (.iadd, 1))  (pc' : Nat) (hp : pc + 1 = pc') (K : OE p e R below s n0 Q T (mkF m pc' Ls (.int (x + z) :: st))) : OE p e R below s n0 Q T (mkF m pc Ls (.int z :: .int x :: st)) := by
  obtain ⟨hx, hZ, hown, hby, hmx, hret, hnm, hlk, h0, hT, locs, S, N⟩ := X; subst hp
  exact OE.by (fun t q => XS.iadd S.here hx rfl (hb hby hd) rfl q) K
theorem o_isub (X : OW p l e R s m args below meth c Z y bytes mx ret n0 T h k n) {x z : Int32} (hd : decode bytes pc = .ok (.isub, 1))  (pc' : Nat) (hp : pc + 1 = pc') (K : OE p e R below s n0 Q T (mkF m pc' Ls (.int (x - z) :: st))) : OE p e R below s n0 Q T (mkF m pc Ls (.int z :: .int x :: st)) := by
  obtain ⟨hx, hZ, hown, hby, hmx, hret, hnm, hlk, h0, hT, locs, S, N⟩ := X; subst hp
  exact OE.by (fun t q => XS.isub S.here hx rfl (hb hby hd) rfl q) K
theorem o_imul (X : OW p l e R s m args below meth c Z y bytes mx ret n0 T h k n) {x z : Int32} (hd : decode bytes pc = .ok (.imul, 1))  (pc' : Nat) (hp : pc + 1 = pc') (K : OE p e R below s n0 Q T (mkF m pc' Ls (.int (x * z) :: st))) : OE p e R below s n0 Q T (mkF m pc Ls (.int z :: .int x :: st)) := by
  obtain ⟨hx, hZ, hown, hby, hmx, hret, hnm, hlk, h0, hT, locs, S, N⟩ := X; subst hp
  exact OE.by (fun t q => XS.imul S.here hx rfl (hb hby hd) rfl q) K
theorem o_iand (X : OW p l e R s m args below meth c Z y bytes mx ret n0 T h k n) {x z : Int32} (hd : decode bytes pc = .ok (.iand, 1))  (pc' : Nat) (hp : pc + 1 = pc') (K : OE p e R below s n0 Q T (mkF m pc' Ls (.int (x &&& z) :: st))) : OE p e R below s n0 Q T (mkF m pc Ls (.int z :: .int x :: st)) := by
  obtain ⟨hx, hZ, hown, hby, hmx, hret, hnm, hlk, h0, hT, locs, S, N⟩ := X; subst hp
  exact OE.by (fun t q => XS.iand S.here hx rfl (hb hby hd) rfl q) K
theorem o_ior (X : OW p l e R s m args below meth c Z y bytes mx ret n0 T h k n) {x z : Int32} (hd : decode bytes pc = .ok (.ior, 1))  (pc' : Nat) (hp : pc + 1 = pc') (K : OE p e R below s n0 Q T (mkF m pc' Ls (.int (x ||| z) :: st))) : OE p e R below s n0 Q T (mkF m pc Ls (.int z :: .int x :: st)) := by
  obtain ⟨hx, hZ, hown, hby, hmx, hret, hnm, hlk, h0, hT, locs, S, N⟩ := X; subst hp
  exact OE.by (fun t q => XT.ior S.here hx rfl (hb hby hd) rfl q) K
theorem o_ixor (X : OW p l e R s m args below meth c Z y bytes mx ret n0 T h k n) {x z : Int32} (hd : decode bytes pc = .ok (.ixor, 1))  (pc' : Nat) (hp : pc + 1 = pc') (K : OE p e R below s n0 Q T (mkF m pc' Ls (.int (x ^^^ z) :: st))) : OE p e R below s n0 Q T (mkF m pc Ls (.int z :: .int x :: st)) := by
  obtain ⟨hx, hZ, hown, hby, hmx, hret, hnm, hlk, h0, hT, locs, S, N⟩ := X; subst hp
  exact OE.by (fun t q => XT.ixor S.here hx rfl (hb hby hd) rfl q) K
theorem o_ishl (X : OW p l e R s m args below meth c Z y bytes mx ret n0 T h k n) {x z : Int32} (hd : decode bytes pc = .ok (.ishl, 1))  (pc' : Nat) (hp : pc + 1 = pc') (K : OE p e R below s n0 Q T (mkF m pc' Ls (.int (x <<< (z &&& 31)) :: st))) : OE p e R below s n0 Q T (mkF m pc Ls (.int z :: .int x :: st)) := by
  obtain ⟨hx, hZ, hown, hby, hmx, hret, hnm, hlk, h0, hT, locs, S, N⟩ := X; subst hp
  exact OE.by (fun t q => XT.ishl S.here hx rfl (hb hby hd) rfl q) K
theorem o_ishr (X : OW p l e R s m args below meth c Z y bytes mx ret n0 T h k n) {x z : Int32} (hd : decode bytes pc = .ok (.ishr, 1))  (pc' : Nat) (hp : pc + 1 = pc') (K : OE p e R below s n0 Q T (mkF m pc' Ls (.int (x >>> (z &&& 31)) :: st))) : OE p e R below s n0 Q T (mkF m pc Ls (.int z :: .int x :: st)) := by
  obtain ⟨hx, hZ, hown, hby, hmx, hret, hnm, hlk, h0, hT, locs, S, N⟩ := X; subst hp
  exact OE.by (fun t q => XT.ishr S.here hx rfl (hb hby hd) rfl q) K
theorem o_iushr (X : OW p l e R s m args below meth c Z y bytes mx ret n0 T h k n) {x z : Int32} (hd : decode bytes pc = .ok (.iushr, 1))  (pc' : Nat) (hp : pc + 1 = pc') (K : OE p e R below s n0 Q T (mkF m pc' Ls (.int (XT.ushr x z) :: st))) : OE p e R below s n0 Q T (mkF m pc Ls (.int z :: .int x :: st)) := by
  obtain ⟨hx, hZ, hown, hby, hmx, hret, hnm, hlk, h0, hT, locs, S, N⟩ := X; subst hp
  exact OE.by (fun t q => XT.iushr S.here hx rfl (hb hby hd) rfl q) K
theorem o_idiv (X : OW p l e R s m args below meth c Z y bytes mx ret n0 T h k n) {x z : Int32} (hd : decode bytes pc = .ok (.idiv, 1)) (hz : z ≠ 0) (pc' : Nat) (hp : pc + 1 = pc') (K : OE p e R below s n0 Q T (mkF m pc' Ls (.int (x / z) :: st))) : OE p e R below s n0 Q T (mkF m pc Ls (.int z :: .int x :: st)) := by
  obtain ⟨hx, hZ, hown, hby, hmx, hret, hnm, hlk, h0, hT, locs, S, N⟩ := X; subst hp
  exact OE.by (fun t q => XS.idiv S.here hx rfl (hb hby hd) rfl hz q) K
theorem o_irem (X : OW p l e R s m args below meth c Z y bytes mx ret n0 T h k n) {x z : Int32} (hd : decode bytes pc = .ok (.irem, 1)) (hz : z ≠ 0) (pc' : Nat) (hp : pc + 1 = pc') (K : OE p e R below s n0 Q T (mkF m pc' Ls (.int (x % z) :: st))) : OE p e R below s n0 Q T (mkF m pc Ls (.int z :: .int x :: st)) := by
  obtain ⟨hx, hZ, hown, hby, hmx, hret, hnm, hlk, h0, hT, locs, S, N⟩ := X; subst hp
  exact OE.by (fun t q => iremM S hx rfl (hb hby hd) rfl hz q) K
theorem o_ladd (X : OW p l e R s m args below meth c Z y bytes mx ret n0 T h k n) {x z : Int64} (hd : decode bytes pc = .ok (.ladd, 1))  (pc' : Nat) (hp : pc + 1 = pc') (K : OE p e R below s n0 Q T (mkF m pc' Ls (.long (x + z) :: st))) : OE p e R below s n0 Q T (mkF m pc Ls (.long z :: .long x :: st)) := by
  obtain ⟨hx, hZ, hown, hby, hmx, hret, hnm, hlk, h0, hT, locs, S, N⟩ := X; subst hp
  exact OE.by (fun t q => XT.ladd S.here hx rfl (hb hby hd) rfl q) K
theorem o_lsub (X : OW p l e R s m args below meth c Z y bytes mx ret n0 T h k n) {x z : Int64} (hd : decode bytes pc = .ok (.lsub, 1))  (pc' : Nat) (hp : pc + 1 = pc') (K : OE p e R below s n0 Q T (mkF m pc' Ls (.long (x - z) :: st))) : OE p e R below s n0 Q T (mkF m pc Ls (.long z :: .long x :: st)) := by
  obtain ⟨hx, hZ, hown, hby, hmx, hret, hnm, hlk, h0, hT, locs, S, N⟩ := X; subst hp
  exact OE.by (fun t q => XT.lsub S.here hx rfl (hb hby hd) rfl q) K
theorem o_lor (X : OW p l e R s m args below meth c Z y bytes mx ret n0 T h k n) {x z : Int64} (hd : decode bytes pc = .ok (.lor, 1))  (pc' : Nat) (hp : pc + 1 = pc') (K : OE p e R below s n0 Q T (mkF m pc' Ls (.long (x ||| z) :: st))) : OE p e R below s n0 Q T (mkF m pc Ls (.long z :: .long x :: st)) := by
  obtain ⟨hx, hZ, hown, hby, hmx, hret, hnm, hlk, h0, hT, locs, S, N⟩ := X; subst hp
  exact OE.by (fun t q => XT.lor S.here hx rfl (hb hby hd) rfl q) K
theorem o_land (X : OW p l e R s m args below meth c Z y bytes mx ret n0 T h k n) {x z : Int64} (hd : decode bytes pc = .ok (.land, 1))  (pc' : Nat) (hp : pc + 1 = pc') (K : OE p e R below s n0 Q T (mkF m pc' Ls (.long (x &&& z) :: st))) : OE p e R below s n0 Q T (mkF m pc Ls (.long z :: .long x :: st)) := by
  obtain ⟨hx, hZ, hown, hby, hmx, hret, hnm, hlk, h0, hT, locs, S, N⟩ := X; subst hp
  exact OE.by (fun t q => XT.land S.here hx rfl (hb hby hd) rfl q) K
theorem o_lmul (X : OW p l e R s m args below meth c Z y bytes mx ret n0 T h k n) {x z : Int64} (hd : decode bytes pc = .ok (.lmul, 1))  (pc' : Nat) (hp : pc + 1 = pc') (K : OE p e R below s n0 Q T (mkF m pc' Ls (.long (x * z) :: st))) : OE p e R below s n0 Q T (mkF m pc Ls (.long z :: .long x :: st)) := by
  obtain ⟨hx, hZ, hown, hby, hmx, hret, hnm, hlk, h0, hT, locs, S, N⟩ := X; subst hp
  exact OE.by (fun t q => XT.lmul S.here hx rfl (hb hby hd) rfl q) K
theorem o_lshl (X : OW p l e R s m args below meth c Z y bytes mx ret n0 T h k n) {x : Int64} {z : Int32} (hd : decode bytes pc = .ok (.lshl, 1))  (pc' : Nat) (hp : pc + 1 = pc') (K : OE p e R below s n0 Q T (mkF m pc' Ls (.long (x <<< (z.toInt64 &&& 63)) :: st))) : OE p e R below s n0 Q T (mkF m pc Ls (.int z :: .long x :: st)) := by
  obtain ⟨hx, hZ, hown, hby, hmx, hret, hnm, hlk, h0, hT, locs, S, N⟩ := X; subst hp
  exact OE.by (fun t q => XT.lshl S.here hx rfl (hb hby hd) rfl q) K
theorem o_lushr (X : OW p l e R s m args below meth c Z y bytes mx ret n0 T h k n) {x : Int64} {z : Int32} (hd : decode bytes pc = .ok (.lushr, 1))  (pc' : Nat) (hp : pc + 1 = pc') (K : OE p e R below s n0 Q T (mkF m pc' Ls (.long (XT.ushrL x z) :: st))) : OE p e R below s n0 Q T (mkF m pc Ls (.int z :: .long x :: st)) := by
  obtain ⟨hx, hZ, hown, hby, hmx, hret, hnm, hlk, h0, hT, locs, S, N⟩ := X; subst hp
  exact OE.by (fun t q => XT.lushr S.here hx rfl (hb hby hd) rfl q) K
theorem o_lcmp (X : OW p l e R s m args below meth c Z y bytes mx ret n0 T h k n) {x z : Int64} (hd : decode bytes pc = .ok (.lcmp, 1))  (pc' : Nat) (hp : pc + 1 = pc') (K : OE p e R below s n0 Q T (mkF m pc' Ls (.int (XT.cmpL x z) :: st))) : OE p e R below s n0 Q T (mkF m pc Ls (.long z :: .long x :: st)) := by
  obtain ⟨hx, hZ, hown, hby, hmx, hret, hnm, hlk, h0, hT, locs, S, N⟩ := X; subst hp
  exact OE.by (fun t q => XT.lcmp S.here hx rfl (hb hby hd) rfl q) K
theorem o_i2l (X : OW p l e R s m args below meth c Z y bytes mx ret n0 T h k n) {x : Int32} (hd : decode bytes pc = .ok (.i2l, 1))  (pc' : Nat) (hp : pc + 1 = pc') (K : OE p e R below s n0 Q T (mkF m pc' Ls (.long x.toInt64 :: st))) : OE p e R below s n0 Q T (mkF m pc Ls (.int x :: st)) := by
  obtain ⟨hx, hZ, hown, hby, hmx, hret, hnm, hlk, h0, hT, locs, S, N⟩ := X; subst hp
  exact OE.by (fun t q => XT.i2l S.here hx rfl (hb hby hd) rfl q) K
theorem o_l2i (X : OW p l e R s m args below meth c Z y bytes mx ret n0 T h k n) {x : Int64} (hd : decode bytes pc = .ok (.l2i, 1))  (pc' : Nat) (hp : pc + 1 = pc') (K : OE p e R below s n0 Q T (mkF m pc' Ls (.int x.toInt32 :: st))) : OE p e R below s n0 Q T (mkF m pc Ls (.long x :: st)) := by
  obtain ⟨hx, hZ, hown, hby, hmx, hret, hnm, hlk, h0, hT, locs, S, N⟩ := X; subst hp
  exact OE.by (fun t q => XT.l2i S.here hx rfl (hb hby hd) rfl q) K
theorem o_i2b (X : OW p l e R s m args below meth c Z y bytes mx ret n0 T h k n) {x : Int32} (hd : decode bytes pc = .ok (.i2b, 1))  (pc' : Nat) (hp : pc + 1 = pc') (K : OE p e R below s n0 Q T (mkF m pc' Ls (.int x.toInt8.toInt32 :: st))) : OE p e R below s n0 Q T (mkF m pc Ls (.int x :: st)) := by
  obtain ⟨hx, hZ, hown, hby, hmx, hret, hnm, hlk, h0, hT, locs, S, N⟩ := X; subst hp
  exact OE.by (fun t q => XT.i2b S.here hx rfl (hb hby hd) rfl q) K
theorem o_i2c (X : OW p l e R s m args below meth c Z y bytes mx ret n0 T h k n) {x : Int32} (hd : decode bytes pc = .ok (.i2c, 1))  (pc' : Nat) (hp : pc + 1 = pc') (K : OE p e R below s n0 Q T (mkF m pc' Ls (.int x.toUInt32.toUInt16.toUInt32.toInt32 :: st))) : OE p e R below s n0 Q T (mkF m pc Ls (.int x :: st)) := by
  obtain ⟨hx, hZ, hown, hby, hmx, hret, hnm, hlk, h0, hT, locs, S, N⟩ := X; subst hp
  exact OE.by (fun t q => XT.i2c S.here hx rfl (hb hby hd) rfl q) K
theorem o_dup (X : OW p l e R s m args below meth c Z y bytes mx ret n0 T h k n) {v : Value} (hd : decode bytes pc = .ok (.dup, 1)) (hc : v.category = 1) (pc' : Nat) (hp : pc + 1 = pc') (K : OE p e R below s n0 Q T (mkF m pc' Ls (v :: v :: st))) : OE p e R below s n0 Q T (mkF m pc Ls (v :: st)) := by
  obtain ⟨hx, hZ, hown, hby, hmx, hret, hnm, hlk, h0, hT, locs, S, N⟩ := X; subst hp
  exact OE.by (fun t q => XS.dup S.here hx rfl (hb hby hd) rfl hc q) K
theorem o_pop (X : OW p l e R s m args below meth c Z y bytes mx ret n0 T h k n) {v : Value} (hd : decode bytes pc = .ok (.pop, 1)) (hc : v.category = 1) (pc' : Nat) (hp : pc + 1 = pc') (K : OE p e R below s n0 Q T (mkF m pc' Ls st)) : OE p e R below s n0 Q T (mkF m pc Ls (v :: st)) := by
  obtain ⟨hx, hZ, hown, hby, hmx, hret, hnm, hlk, h0, hT, locs, S, N⟩ := X; subst hp
  exact OE.by (fun t q => XT.pop S.here hx rfl (hb hby hd) rfl hc q) K
theorem o_dupX1 (X : OW p l e R s m args below meth c Z y bytes mx ret n0 T h k n) {v w : Value} (hd : decode bytes pc = .ok (.dup_x1, 1)) (hc : v.category = 1) (hc' : w.category = 1) (pc' : Nat) (hp : pc + 1 = pc') (K : OE p e R below s n0 Q T (mkF m pc' Ls (v :: w :: v :: st))) : OE p e R below s n0 Q T (mkF m pc Ls (v :: w :: st)) := by
  obtain ⟨hx, hZ, hown, hby, hmx, hret, hnm, hlk, h0, hT, locs, S, N⟩ := X; subst hp
  exact OE.by (fun t q => XT.dupX1 S.here hx rfl (hb hby hd) rfl hc hc' q) K
theorem o_dup2 (X : OW p l e R s m args below meth c Z y bytes mx ret n0 T h k n) {v w : Value} (hd : decode bytes pc = .ok (.dup2, 1)) (hc : v.category = 1) (hc' : w.category = 1) (pc' : Nat) (hp : pc + 1 = pc') (K : OE p e R below s n0 Q T (mkF m pc' Ls (v :: w :: v :: w :: st))) : OE p e R below s n0 Q T (mkF m pc Ls (v :: w :: st)) := by
  obtain ⟨hx, hZ, hown, hby, hmx, hret, hnm, hlk, h0, hT, locs, S, N⟩ := X; subst hp
  exact OE.by (fun t q => XT.dup2 S.here hx rfl (hb hby hd) rfl hc hc' q) K
theorem o_istoreN (X : OW p l e R s m args below meth c Z y bytes mx ret n0 T h k n) {j : Fin 4} {v : Int32} (hd : decode bytes pc = .ok (.istore_n j, 1)) (Ls' : Array Slot) (hl : storeLocals Ls j.val (.int v) = some Ls') (pc' : Nat) (hp : pc + 1 = pc') (K : OE p e R below s n0 Q T (mkF m pc' Ls' st)) : OE p e R below s n0 Q T (mkF m pc Ls (.int v :: st)) := by
  obtain ⟨hx, hZ, hown, hby, hmx, hret, hnm, hlk, h0, hT, locs, S, N⟩ := X; subst hp
  exact OE.by (fun t q => XS.istoreN S.here hx rfl (hb hby hd) rfl hl q) K
theorem o_istore (X : OW p l e R s m args below meth c Z y bytes mx ret n0 T h k n) {j : Nat} {v : Int32} (hd : decode bytes pc = .ok (.istore j, 2)) (Ls' : Array Slot) (hl : storeLocals Ls j (.int v) = some Ls') (pc' : Nat) (hp : pc + 2 = pc') (K : OE p e R below s n0 Q T (mkF m pc' Ls' st)) : OE p e R below s n0 Q T (mkF m pc Ls (.int v :: st)) := by
  obtain ⟨hx, hZ, hown, hby, hmx, hret, hnm, hlk, h0, hT, locs, S, N⟩ := X; subst hp
  exact OE.by (fun t q => XS.istore S.here hx rfl (hb hby hd) rfl hl q) K
theorem o_lstoreN (X : OW p l e R s m args below meth c Z y bytes mx ret n0 T h k n) {j : Fin 4} {v : Int64} (hd : decode bytes pc = .ok (.lstore_n j, 1)) (Ls' : Array Slot) (hl : storeLocals Ls j.val (.long v) = some Ls') (pc' : Nat) (hp : pc + 1 = pc') (K : OE p e R below s n0 Q T (mkF m pc' Ls' st)) : OE p e R below s n0 Q T (mkF m pc Ls (.long v :: st)) := by
  obtain ⟨hx, hZ, hown, hby, hmx, hret, hnm, hlk, h0, hT, locs, S, N⟩ := X; subst hp
  exact OE.by (fun t q => XT.lstoreN S.here hx rfl (hb hby hd) rfl hl q) K
theorem o_lstore (X : OW p l e R s m args below meth c Z y bytes mx ret n0 T h k n) {j : Nat} {v : Int64} (hd : decode bytes pc = .ok (.lstore j, 2)) (Ls' : Array Slot) (hl : storeLocals Ls j (.long v) = some Ls') (pc' : Nat) (hp : pc + 2 = pc') (K : OE p e R below s n0 Q T (mkF m pc' Ls' st)) : OE p e R below s n0 Q T (mkF m pc Ls (.long v :: st)) := by
  obtain ⟨hx, hZ, hown, hby, hmx, hret, hnm, hlk, h0, hT, locs, S, N⟩ := X; subst hp
  exact OE.by (fun t q => XT.lstore S.here hx rfl (hb hby hd) rfl hl q) K
theorem o_astoreN (X : OW p l e R s m args below meth c Z y bytes mx ret n0 T h k n) {j : Fin 4} {v : Value} (hd : decode bytes pc = .ok (.astore_n j, 1)) (hv : v.isRef = true) (Ls' : Array Slot) (hl : storeLocals Ls j.val v = some Ls') (pc' : Nat) (hp : pc + 1 = pc') (K : OE p e R below s n0 Q T (mkF m pc' Ls' st)) : OE p e R below s n0 Q T (mkF m pc Ls (v :: st)) := by
  obtain ⟨hx, hZ, hown, hby, hmx, hret, hnm, hlk, h0, hT, locs, S, N⟩ := X; subst hp
  exact OE.by (fun t q => XS.astoreN S.here hx rfl (hb hby hd) rfl hv hl q) K
theorem o_astore (X : OW p l e R s m args below meth c Z y bytes mx ret n0 T h k n) {j : Nat} {v : Value} (hd : decode bytes pc = .ok (.astore j, 2)) (hv : v.isRef = true) (Ls' : Array Slot) (hl : storeLocals Ls j v = some Ls') (pc' : Nat) (hp : pc + 2 = pc') (K : OE p e R below s n0 Q T (mkF m pc' Ls' st)) : OE p e R below s n0 Q T (mkF m pc Ls (v :: st)) := by
  obtain ⟨hx, hZ, hown, hby, hmx, hret, hnm, hlk, h0, hT, locs, S, N⟩ := X; subst hp
  exact OE.by (fun t q => XS.astore S.here hx rfl (hb hby hd) rfl hv hl q) K
theorem o_iinc (X : OW p l e R s m args below meth c Z y bytes mx ret n0 T h k n) {j : Nat} {i : Int} {v w : Int32} (hd : decode bytes pc = .ok (.iinc j i, 3)) (hg : Ls[j]? = some (.val (.int v))) (hw : v + Int32.ofInt i = w) (Ls' : Array Slot) (hl : storeLocals Ls j (.int w) = some Ls') (pc' : Nat) (hp : pc + 3 = pc') (K : OE p e R below s n0 Q T (mkF m pc' Ls' st)) : OE p e R below s n0 Q T (mkF m pc Ls st) := by
  obtain ⟨hx, hZ, hown, hby, hmx, hret, hnm, hlk, h0, hT, locs, S, N⟩ := X; subst hp hw
  exact OE.by (fun t q => XS.iinc S.here hx rfl (hb hby hd) hg hl q) K
theorem o_goto (X : OW p l e R s m args below meth c Z y bytes mx ret n0 T h k n) {o : Int} (hd : decode bytes pc = .ok (.goto o, 3)) (pc' : Nat) (ho : 0 ≤ (pc : Int) + o) (hp : ((pc : Int) + o).toNat = pc') (K : OE p e R below s n0 Q T (mkF m pc' Ls st)) : OE p e R below s n0 Q T (mkF m pc Ls st) := by
  obtain ⟨hx, hZ, hown, hby, hmx, hret, hnm, hlk, h0, hT, locs, S, N⟩ := X
  exact OE.by (fun t q => XS.goto S.here hx rfl rfl (hb hby hd) ho hp q) K
theorem o_icmpEq (X : OW p l e R s m args below meth c Z y bytes mx ret n0 T h k n) {o : Int} {x z : Int32} (hd : decode bytes pc = .ok (.if_icmp .eq o, 3)) (pcT pcF : Nat) (ho : 0 ≤ (pc : Int) + o) (hT : ((pc : Int) + o).toNat = pcT) (hF : pc + 3 = pcF) (KT : x = z → OE p e R below s n0 Q T (mkF m pcT Ls st)) (KF : ¬ x = z → OE p e R below s n0 Q T (mkF m pcF Ls st)) : OE p e R below s n0 Q T (mkF m pc Ls (.int z :: .int x :: st)) := by
  obtain ⟨hx, hZ, hown, hby, hmx, hret, hnm, hlk, h0, hT', locs, S, N⟩ := X; subst hF
  by_cases q : x = z
  · exact OE.by (fun t r => XS.icmpYes S.here hx rfl rfl (hb hby hd) rfl ((teq q).1) ho hT r) (KT q)
  · exact OE.by (fun t r => XS.icmpNo S.here hx rfl (hb hby hd) rfl ((feq q).1) r) (KF q)
theorem o_ifEq (X : OW p l e R s m args below meth c Z y bytes mx ret n0 T h k n) {o : Int} {x : Int32} (hd : decode bytes pc = .ok (.ifCond .eq o, 3)) (pcT pcF : Nat) (ho : 0 ≤ (pc : Int) + o) (hT : ((pc : Int) + o).toNat = pcT) (hF : pc + 3 = pcF) (KT : x = 0 → OE p e R below s n0 Q T (mkF m pcT Ls st)) (KF : ¬ x = 0 → OE p e R below s n0 Q T (mkF m pcF Ls st)) : OE p e R below s n0 Q T (mkF m pc Ls (.int x :: st)) := by
  obtain ⟨hx, hZ, hown, hby, hmx, hret, hnm, hlk, h0, hT', locs, S, N⟩ := X; subst hF
  by_cases q : x = 0
  · exact OE.by (fun t r => XS.ifYes S.here hx rfl rfl (hb hby hd) rfl ((if0 _ _).trans (teq q).1) ho hT r) (KT q)
  · exact OE.by (fun t r => XS.ifNo S.here hx rfl (hb hby hd) rfl ((if0 _ _).trans (feq q).1) r) (KF q)
theorem o_icmpNe (X : OW p l e R s m args below meth c Z y bytes mx ret n0 T h k n) {o : Int} {x z : Int32} (hd : decode bytes pc = .ok (.if_icmp .ne o, 3)) (pcT pcF : Nat) (ho : 0 ≤ (pc : Int) + o) (hT : ((pc : Int) + o).toNat = pcT) (hF : pc + 3 = pcF) (KT : ¬ x = z → OE p e R below s n0 Q T (mkF m pcT Ls st)) (KF : x = z → OE p e R below s n0 Q T (mkF m pcF Ls st)) : OE p e R below s n0 Q T (mkF m pc Ls (.int z :: .int x :: st)) := by
  obtain ⟨hx, hZ, hown, hby, hmx, hret, hnm, hlk, h0, hT', locs, S, N⟩ := X; subst hF
  by_cases q : x = z
  · exact OE.by (fun t r => XS.icmpNo S.here hx rfl (hb hby hd) rfl ((teq q).2) r) (KF q)
  · exact OE.by (fun t r => XS.icmpYes S.here hx rfl rfl (hb hby hd) rfl ((feq q).2) ho hT r) (KT q)
theorem o_ifNe (X : OW p l e R s m args below meth c Z y bytes mx ret n0 T h k n) {o : Int} {x : Int32} (hd : decode bytes pc = .ok (.ifCond .ne o, 3)) (pcT pcF : Nat) (ho : 0 ≤ (pc : Int) + o) (hT : ((pc : Int) + o).toNat = pcT) (hF : pc + 3 = pcF) (KT : ¬ x = 0 → OE p e R below s n0 Q T (mkF m pcT Ls st)) (KF : x = 0 → OE p e R below s n0 Q T (mkF m pcF Ls st)) : OE p e R below s n0 Q T (mkF m pc Ls (.int x :: st)) := by
  obtain ⟨hx, hZ, hown, hby, hmx, hret, hnm, hlk, h0, hT', locs, S, N⟩ := X; subst hF
  by_cases q : x = 0
  · exact OE.by (fun t r => XS.ifNo S.here hx rfl (hb hby hd) rfl ((if0 _ _).trans (teq q).2) r) (KF q)
  · exact OE.by (fun t r => XS.ifYes S.here hx rfl rfl (hb hby hd) rfl ((if0 _ _).trans (feq q).2) ho hT r) (KT q)
theorem o_icmpLt (X : OW p l e R s m args below meth c Z y bytes mx ret n0 T h k n) {o : Int} {x z : Int32} (hd : decode bytes pc = .ok (.if_icmp .lt o, 3)) (pcT pcF : Nat) (ho : 0 ≤ (pc : Int) + o) (hT : ((pc : Int) + o).toNat = pcT) (hF : pc + 3 = pcF) (KT : x < z → OE p e R below s n0 Q T (mkF m pcT Ls st)) (KF : ¬ x < z → OE p e R below s n0 Q T (mkF m pcF Ls st)) : OE p e R below s n0 Q T (mkF m pc Ls (.int z :: .int x :: st)) := by
  obtain ⟨hx, hZ, hown, hby, hmx, hret, hnm, hlk, h0, hT', locs, S, N⟩ := X; subst hF
  by_cases q : x < z
  · exact OE.by (fun t r => XS.icmpYes S.here hx rfl rfl (hb hby hd) rfl ((tlt q).1) ho hT r) (KT q)
  · exact OE.by (fun t r => XS.icmpNo S.here hx rfl (hb hby hd) rfl ((flt q).1) r) (KF q)
theorem o_ifLt (X : OW p l e R s m args below meth c Z y bytes mx ret n0 T h k n) {o : Int} {x : Int32} (hd : decode bytes pc = .ok (.ifCond .lt o, 3)) (pcT pcF : Nat) (ho : 0 ≤ (pc : Int) + o) (hT : ((pc : Int) + o).toNat = pcT) (hF : pc + 3 = pcF) (KT : x < 0 → OE p e R below s n0 Q T (mkF m pcT Ls st)) (KF : ¬ x < 0 → OE p e R below s n0 Q T (mkF m pcF Ls st)) : OE p e R below s n0 Q T (mkF m pc Ls (.int x :: st)) := by
  obtain ⟨hx, hZ, hown, hby, hmx, hret, hnm, hlk, h0, hT', locs, S, N⟩ := X; subst hF
  by_cases q : x < 0
  · exact OE.by (fun t r => XS.ifYes S.here hx rfl rfl (hb hby hd) rfl ((if0 _ _).trans (tlt q).1) ho hT r) (KT q)
  · exact OE.by (fun t r => XS.ifNo S.here hx rfl (hb hby hd) rfl ((if0 _ _).trans (flt q).1) r) (KF q)
theorem o_icmpGe (X : OW p l e R s m args below meth c Z y bytes mx ret n0 T h k n) {o : Int} {x z : Int32} (hd : decode bytes pc = .ok (.if_icmp .ge o, 3)) (pcT pcF : Nat) (ho : 0 ≤ (pc : Int) + o) (hT : ((pc : Int) + o).toNat = pcT) (hF : pc + 3 = pcF) (KT : ¬ x < z → OE p e R below s n0 Q T (mkF m pcT Ls st)) (KF : x < z → OE p e R below s n0 Q T (mkF m pcF Ls st)) : OE p e R below s n0 Q T (mkF m pc Ls (.int z :: .int x :: st)) := by
  obtain ⟨hx, hZ, hown, hby, hmx, hret, hnm, hlk, h0, hT', locs, S, N⟩ := X; subst hF
  by_cases q : x < z
  · exact OE.by (fun t r => XS.icmpNo S.here hx rfl (hb hby hd) rfl ((tlt q).2.1) r) (KF q)
  · exact OE.by (fun t r => XS.icmpYes S.here hx rfl rfl (hb hby hd) rfl ((flt q).2.1) ho hT r) (KT q)
theorem o_ifGe (X : OW p l e R s m args below meth c Z y bytes mx ret n0 T h k n) {o : Int} {x : Int32} (hd : decode bytes pc = .ok (.ifCond .ge o, 3)) (pcT pcF : Nat) (ho : 0 ≤ (pc : Int) + o) (hT : ((pc : Int) + o).toNat = pcT) (hF : pc + 3 = pcF) (KT : ¬ x < 0 → OE p e R below s n0 Q T (mkF m pcT Ls st)) (KF : x < 0 → OE p e R below s n0 Q T (mkF m pcF Ls st)) : OE p e R below s n0 Q T (mkF m pc Ls (.int x :: st)) := by
  obtain ⟨hx, hZ, hown, hby, hmx, hret, hnm, hlk, h0, hT', locs, S, N⟩ := X; subst hF
  by_cases q : x < 0
  · exact OE.by (fun t r => XS.ifNo S.here hx rfl (hb hby hd) rfl ((if0 _ _).trans (tlt q).2.1) r) (KF q)
  · exact OE.by (fun t r => XS.ifYes S.here hx rfl rfl (hb hby hd) rfl ((if0 _ _).trans (flt q).2.1) ho hT r) (KT q)
theorem o_icmpGt (X : OW p l e R s m args below meth c Z y bytes mx ret n0 T h k n) {o : Int} {x z : Int32} (hd : decode bytes pc = .ok (.if_icmp .gt o, 3)) (pcT pcF : Nat) (ho : 0 ≤ (pc : Int) + o) (hT : ((pc : Int) + o).toNat = pcT) (hF : pc + 3 = pcF) (KT : z < x → OE p e R below s n0 Q T (mkF m pcT Ls st)) (KF : ¬ z < x → OE p e R below s n0 Q T (mkF m pcF Ls st)) : OE p e R below s n0 Q T (mkF m pc Ls (.int z :: .int x :: st)) := by
  obtain ⟨hx, hZ, hown, hby, hmx, hret, hnm, hlk, h0, hT', locs, S, N⟩ := X; subst hF
  by_cases q : z < x
  · exact OE.by (fun t r => XS.icmpYes S.here hx rfl rfl (hb hby hd) rfl ((tlt q).2.2.1) ho hT r) (KT q)
  · exact OE.by (fun t r => XS.icmpNo S.here hx rfl (hb hby hd) rfl ((flt q).2.2.1) r) (KF q)
theorem o_ifGt (X : OW p l e R s m args below meth c Z y bytes mx ret n0 T h k n) {o : Int} {x : Int32} (hd : decode bytes pc = .ok (.ifCond .gt o, 3)) (pcT pcF : Nat) (ho : 0 ≤ (pc : Int) + o) (hT : ((pc : Int) + o).toNat = pcT) (hF : pc + 3 = pcF) (KT : 0 < x → OE p e R below s n0 Q T (mkF m pcT Ls st)) (KF : ¬ 0 < x → OE p e R below s n0 Q T (mkF m pcF Ls st)) : OE p e R below s n0 Q T (mkF m pc Ls (.int x :: st)) := by
  obtain ⟨hx, hZ, hown, hby, hmx, hret, hnm, hlk, h0, hT', locs, S, N⟩ := X; subst hF
  by_cases q : 0 < x
  · exact OE.by (fun t r => XS.ifYes S.here hx rfl rfl (hb hby hd) rfl ((if0 _ _).trans (tlt q).2.2.1) ho hT r) (KT q)
  · exact OE.by (fun t r => XS.ifNo S.here hx rfl (hb hby hd) rfl ((if0 _ _).trans (flt q).2.2.1) r) (KF q)
theorem o_icmpLe (X : OW p l e R s m args below meth c Z y bytes mx ret n0 T h k n) {o : Int} {x z : Int32} (hd : decode bytes pc = .ok (.if_icmp .le o, 3)) (pcT pcF : Nat) (ho : 0 ≤ (pc : Int) + o) (hT : ((pc : Int) + o).toNat = pcT) (hF : pc + 3 = pcF) (KT : ¬ z < x → OE p e R below s n0 Q T (mkF m pcT Ls st)) (KF : z < x → OE p e R below s n0 Q T (mkF m pcF Ls st)) : OE p e R below s n0 Q T (mkF m pc Ls (.int z :: .int x :: st)) := by
  obtain ⟨hx, hZ, hown, hby, hmx, hret, hnm, hlk, h0, hT', locs, S, N⟩ := X; subst hF
  by_cases q : z < x
  · exact OE.by (fun t r => XS.icmpNo S.here hx rfl (hb hby hd) rfl ((tlt q).2.2.2) r) (KF q)
  · exact OE.by (fun t r => XS.icmpYes S.here hx rfl rfl (hb hby hd) rfl ((flt q).2.2.2) ho hT r) (KT q)
theorem o_ifLe (X : OW p l e R s m args below meth c Z y bytes mx ret n0 T h k n) {o : Int} {x : Int32} (hd : decode bytes pc = .ok (.ifCond .le o, 3)) (pcT pcF : Nat) (ho : 0 ≤ (pc : Int) + o) (hT : ((pc : Int) + o).toNat = pcT) (hF : pc + 3 = pcF) (KT : ¬ 0 < x → OE p e R below s n0 Q T (mkF m pcT Ls st)) (KF : 0 < x → OE p e R below s n0 Q T (mkF m pcF Ls st)) : OE p e R below s n0 Q T (mkF m pc Ls (.int x :: st)) := by
  obtain ⟨hx, hZ, hown, hby, hmx, hret, hnm, hlk, h0, hT', locs, S, N⟩ := X; subst hF
  by_cases q : 0 < x
  · exact OE.by (fun t r => XS.ifNo S.here hx rfl (hb hby hd) rfl ((if0 _ _).trans (tlt q).2.2.2) r) (KF q)
  · exact OE.by (fun t r => XS.ifYes S.here hx rfl rfl (hb hby hd) rfl ((if0 _ _).trans (flt q).2.2.2) ho hT r) (KT q)
theorem o_ifnullR (X : OW p l e R s m args below meth c Z y bytes mx ret n0 T h k n) {o : Int} {a : Addr} (hd : decode bytes pc = .ok (.ifnull o, 3)) (pc' : Nat) (hp : pc + 3 = pc') (K : OE p e R below s n0 Q T (mkF m pc' Ls st)) : OE p e R below s n0 Q T (mkF m pc Ls (.ref a :: st)) := by
  obtain ⟨hx, hZ, hown, hby, hmx, hret, hnm, hlk, h0, hT, locs, S, N⟩ := X; subst hp
  exact OE.by (fun t q => XS.ifnullNo S.here hx rfl (hb hby hd) rfl q) K
theorem o_ifnonnullR (X : OW p l e R s m args below meth c Z y bytes mx ret n0 T h k n) {o : Int} {a : Addr} (hd : decode bytes pc = .ok (.ifnonnull o, 3)) (pc' : Nat) (ho : 0 ≤ (pc : Int) + o) (hp : ((pc : Int) + o).toNat = pc') (K : OE p e R below s n0 Q T (mkF m pc' Ls st)) : OE p e R below s n0 Q T (mkF m pc Ls (.ref a :: st)) := by
  obtain ⟨hx, hZ, hown, hby, hmx, hret, hnm, hlk, h0, hT, locs, S, N⟩ := X
  exact OE.by (fun t q => XT.ifnonnullYes S.here hx rfl rfl (hb hby hd) rfl ho hp q) K
theorem o_acmpEqN (X : OW p l e R s m args below meth c Z y bytes mx ret n0 T h k n) {o : Int} {a b : Addr} (hd : decode bytes pc = .ok (.if_acmp .eq o, 3)) (hab : a ≠ b) (pc' : Nat) (hp : pc + 3 = pc') (K : OE p e R below s n0 Q T (mkF m pc' Ls st)) : OE p e R below s n0 Q T (mkF m pc Ls (.ref b :: .ref a :: st)) := by
  obtain ⟨hx, hZ, hown, hby, hmx, hret, hnm, hlk, h0, hT, locs, S, N⟩ := X; subst hp
  exact OE.by (fun t q => XT.acmpNo S.here hx rfl (hb hby hd) rfl rfl rfl (decide_eq_false fun r => hab (Value.ref.inj r)) q) K
theorem o_acmpNeY (X : OW p l e R s m args below meth c Z y bytes mx ret n0 T h k n) {o : Int} {a b : Addr} (hd : decode bytes pc = .ok (.if_acmp .ne o, 3)) (hab : a ≠ b) (pc' : Nat) (ho : 0 ≤ (pc : Int) + o) (hp : ((pc : Int) + o).toNat = pc') (K : OE p e R below s n0 Q T (mkF m pc' Ls st)) : OE p e R below s n0 Q T (mkF m pc Ls (.ref b :: .ref a :: st)) := by
  obtain ⟨hx, hZ, hown, hby, hmx, hret, hnm, hlk, h0, hT, locs, S, N⟩ := X
  exact OE.by (fun t q => XT.acmpYes S.here hx rfl rfl (hb hby hd) rfl rfl rfl (decide_eq_true fun r => hab (Value.ref.inj r)) ho hp q) K
theorem o_ldc (X : OW p l e R s m args below meth c Z y bytes mx ret n0 T h k n) {i : Nat} {v : Int32} (hd : decode bytes pc = .ok (.ldc i, 2)) (w : (Cond.constant y.cls i v).before a0 Z = true) (pc' : Nat) (hp : pc + 2 = pc') (K : OE p e R below s n0 Q T (mkF m pc' Ls (.int v :: st))) : OE p e R below s n0 Q T (mkF m pc Ls st) := by
  obtain ⟨hx, hZ, hown, hby, hmx, hret, hnm, hlk, h0, hT, locs, S, N⟩ := X; subst hp
  exact OE.by (fun t q => S.ldcInt hx hown (mvT hZ w) (g := mkF m pc Ls st) rfl (hb hby hd) t q) K
theorem o_ldc2L (X : OW p l e R s m args below meth c Z y bytes mx ret n0 T h k n) {i : Nat} {v : Int64} (hd : decode bytes pc = .ok (.ldc2_w i, 3)) (w : (Cond.constantLong y.cls i v).before a0 Z = true) (pc' : Nat) (hp : pc + 3 = pc') (K : OE p e R below s n0 Q T (mkF m pc' Ls (.long v :: st))) : OE p e R below s n0 Q T (mkF m pc Ls st) := by
  obtain ⟨hx, hZ, hown, hby, hmx, hret, hnm, hlk, h0, hT, locs, S, N⟩ := X; subst hp
  exact OE.by (fun t q => S.ldc2Long hx hown (mvT hZ w) (g := mkF m pc Ls st) rfl (hb hby hd) t q) K
theorem o_retZ (X : OW p l e R s m args below meth c Z y bytes mx (some .boolean) n0 T h k n) {z : Int32} (hd : decode bytes pc = .ok (.ireturn, 1)) (hk : k ≤ R.cells) (hn : n ≤ R.slots) (hq : Q (some (.int (nar .boolean z))) h) : OE p e R below s n0 Q T (mkF m pc Ls (.int z :: st)) := by
  obtain ⟨hx, hZ, hown, hby, hmx, hret, hnm, hlk, h0, hT, locs, S, N⟩ := X
  obtain ⟨fs, hr, hrun, hended, hW, hsame⟩ := S.leave (v := some (.int (nar .boolean z))) (fun q => by rw [hret] at q; cases q) hlk
  exact ⟨_, _, retN S hx (t := .boolean) hret (by simp) (hb hby hd) hr, hrun, hended, _, _, rfl, ⟨by show Q _ T.heap; rw [hT]; exact hq, N⟩, ⟨_, rfl⟩, hW, hsame.mono hk hn⟩
theorem o_retB (X : OW p l e R s m args below meth c Z y bytes mx (some .byte) n0 T h k n) {z : Int32} (hd : decode bytes pc = .ok (.ireturn, 1)) (hk : k ≤ R.cells) (hn : n ≤ R.slots) (hq : Q (some (.int (nar .byte z))) h) : OE p e R below s n0 Q T (mkF m pc Ls (.int z :: st)) := by
  obtain ⟨hx, hZ, hown, hby, hmx, hret, hnm, hlk, h0, hT, locs, S, N⟩ := X
  obtain ⟨fs, hr, hrun, hended, hW, hsame⟩ := S.leave (v := some (.int (nar .byte z))) (fun q => by rw [hret] at q; cases q) hlk
  exact ⟨_, _, retN S hx (t := .byte) hret (by simp) (hb hby hd) hr, hrun, hended, _, _, rfl, ⟨by show Q _ T.heap; rw [hT]; exact hq, N⟩, ⟨_, rfl⟩, hW, hsame.mono hk hn⟩
theorem o_retC (X : OW p l e R s m args below meth c Z y bytes mx (some .char) n0 T h k n) {z : Int32} (hd : decode bytes pc = .ok (.ireturn, 1)) (hk : k ≤ R.cells) (hn : n ≤ R.slots) (hq : Q (some (.int (nar .char z))) h) : OE p e R below s n0 Q T (mkF m pc Ls (.int z :: st)) := by
  obtain ⟨hx, hZ, hown, hby, hmx, hret, hnm, hlk, h0, hT, locs, S, N⟩ := X
  obtain ⟨fs, hr, hrun, hended, hW, hsame⟩ := S.leave (v := some (.int (nar .char z))) (fun q => by rw [hret] at q; cases q) hlk
  exact ⟨_, _, retN S hx (t := .char) hret (by simp) (hb hby hd) hr, hrun, hended, _, _, rfl, ⟨by show Q _ T.heap; rw [hT]; exact hq, N⟩, ⟨_, rfl⟩, hW, hsame.mono hk hn⟩
theorem o_retI (X : OW p l e R s m args below meth c Z y bytes mx (some .int) n0 T h k n) {z : Int32} (hd : decode bytes pc = .ok (.ireturn, 1)) (hk : k ≤ R.cells) (hn : n ≤ R.slots) (hq : Q (some (.int z)) h) : OE p e R below s n0 Q T (mkF m pc Ls (.int z :: st)) := by
  obtain ⟨hx, hZ, hown, hby, hmx, hret, hnm, hlk, h0, hT, locs, S, N⟩ := X
  obtain ⟨fs, hr, hrun, hended, hW, hsame⟩ := S.leave (v := some (.int z)) (fun q => by rw [hret] at q; cases q) hlk
  exact ⟨_, _, retOut S hx hret rfl (Or.inl ⟨rfl, Or.inl rfl, z, rfl⟩) (hb hby hd) hr, hrun, hended, _, _, rfl, ⟨by show Q _ T.heap; rw [hT]; exact hq, N⟩, ⟨_, rfl⟩, hW, hsame.mono hk hn⟩
theorem o_retJ (X : OW p l e R s m args below meth c Z y bytes mx (some .long) n0 T h k n) {z : Int64} (hd : decode bytes pc = .ok (.lreturn, 1)) (hk : k ≤ R.cells) (hn : n ≤ R.slots) (hq : Q (some (.long z)) h) : OE p e R below s n0 Q T (mkF m pc Ls (.long z :: st)) := by
  obtain ⟨hx, hZ, hown, hby, hmx, hret, hnm, hlk, h0, hT, locs, S, N⟩ := X
  obtain ⟨fs, hr, hrun, hended, hW, hsame⟩ := S.leave (v := some (.long z)) (fun q => by rw [hret] at q; cases q) hlk
  exact ⟨_, _, retOut S hx hret rfl (Or.inr (Or.inl ⟨rfl, rfl, z, rfl⟩)) (hb hby hd) hr, hrun, hended, _, _, rfl, ⟨by show Q _ T.heap; rw [hT]; exact hq, N⟩, ⟨_, rfl⟩, hW, hsame.mono hk hn⟩
theorem o_retA {ty : FieldType} (X : OW p l e R s m args below meth c Z y bytes mx (some ty) n0 T h k n) (hty : ty.isReference = true) {a : Addr} (hnar : narrow ty (.ref a) = .ref a) (hd : decode bytes pc = .ok (.areturn, 1)) (hk : k ≤ R.cells) (hn : n ≤ R.slots) (hq : Q (some (.ref a)) h) : OE p e R below s n0 Q T (mkF m pc Ls (.ref a :: st)) := by
  obtain ⟨hx, hZ, hown, hby, hmx, hret, hnm, hlk, h0, hT, locs, S, N⟩ := X
  obtain ⟨fs, hr, hrun, hended, hW, hsame⟩ := S.leave (v := some (.ref a)) (fun q => by rw [hret] at q; cases q) hlk
  exact ⟨_, _, retOut S hx hret hnar (Or.inr (Or.inr (Or.inr (Or.inr ⟨rfl, hty, rfl⟩)))) (hb hby hd) hr, hrun, hended, _, _, rfl, ⟨by show Q _ T.heap; rw [hT]; exact hq, N⟩, ⟨_, rfl⟩, hW, hsame.mono hk hn⟩
theorem o_ret (X : OW p l e R s m args below meth c Z y bytes mx none n0 T h k n) (hd : decode bytes pc = .ok (.return_, 1)) (hk : k ≤ R.cells) (hn : n ≤ R.slots) (hq : Q none h) : OE p e R below s n0 Q T (mkF m pc Ls []) := by
  obtain ⟨hx, hZ, hown, hby, hmx, hret, hnm, hlk, h0, hT, locs, S, N⟩ := X
  obtain ⟨fs, hr, hrun, hended, hW, hsame⟩ := S.leave (v := none) (fun _ => rfl) hlk
  exact ⟨_, _, S.returnOut hx hret (hb hby hd) hr, hrun, hended, _, _, rfl, ⟨by show Q _ T.heap; rw [hT]; exact hq, N⟩, ⟨_, rfl⟩, hW, hsame.mono hk hn⟩
/-! the heap: a list of places, each with what its cell says -/
def OA (Z : State) (ty : FieldType) (vs : List Int32) (c : Cell) : Prop := Z.isArrayOf c ty ∧ c.vm ≠ .unknown ∧ c.slots = (vs.map Value.int).toArray ∧ (∀ x ∈ vs, fits ty (.int x) = true) ∧ Z.vm.findClass ("[" ++ ty.toString) = some c.cls
def OL (n0 : Nat) (h : Heap) (L : List (Addr × (Cell → Prop))) : Prop := (L.map (·.1)).Nodup ∧ ∀ q ∈ L, n0 ≤ q.1 ∧ ∃ c : Cell, h[q.1]? = some c ∧ q.2 c
variable {L : List (Addr × (Cell → Prop))} {h' : Heap} {a : Addr} {ty : FieldType} {vs : List Int32} {PP : Cell → Prop}
theorem OL.nil : OL n0 h [] := ⟨List.nodup_nil, fun _ q => nomatch q⟩
theorem OL.ext (H : OL n0 h L) (E : Ext h h') : OL n0 h' L := ⟨H.1, fun q hq => by obtain ⟨h1, c, h2, h3⟩ := H.2 q hq; exact ⟨h1, c, E.2 _ _ h2, h3⟩⟩
theorem OL.lt (H : OL n0 h L) {q : Addr × (Cell → Prop)} (hq : q ∈ L) : q.1 < h.size := by obtain ⟨-, c, h2, -⟩ := H.2 q hq; exact (Array.getElem?_eq_some_iff.mp h2).1
theorem OL.push (H : OL n0 h L) (E : Ext h h') (h0 : n0 ≤ h.size) {c : Cell} (hc : h'[h.size]? = some c) (hp : PP c) : OL n0 h' ((h.size, PP) :: L) := by
  refine ⟨?_, fun q hq => ?_⟩
  · rw [List.map_cons, List.nodup_cons]
    refine ⟨fun hx => ?_, H.1⟩
    obtain ⟨q, hq, e⟩ := List.mem_map.mp hx
    have e' : q.1 = h.size := e
    exact absurd (H.lt hq) (by rw [e']; exact Nat.lt_irrefl _)
  · rcases List.mem_cons.mp hq with hq | hq
    · cases hq; exact ⟨h0, c, hc, hp⟩
    · exact (H.ext E).2 q hq
theorem OL.perm {L' : List (Addr × (Cell → Prop))} (H : OL n0 h L) (q : L.Perm L') : OL n0 h L' := ⟨(q.map (·.1)).nodup_iff.mp H.1, fun z hz => H.2 z (q.mem_iff.mpr hz)⟩
/-- the i-th place comes to the front -/
theorem OL.front (H : OL n0 h L) (i : Nat) {q : Addr × (Cell → Prop)} (hi : L[i]? = some q) : OL n0 h (q :: L.eraseIdx i) := by
  obtain ⟨hl, e⟩ := List.getElem?_eq_some_iff.mp hi
  refine H.perm ?_
  have e1 : L = L.take i ++ q :: L.drop (i + 1) := by rw [← e, List.getElem_cons_drop]; exact (List.take_append_drop i L).symm
  have e2 : L.eraseIdx i = L.take i ++ L.drop (i + 1) := List.eraseIdx_eq_take_drop_succ L i
  rw [e2]
  exact (List.Perm.of_eq e1).trans List.perm_middle
theorem OL.get (H : OL n0 h L) {i : Nat} (hi : L[i]? = some (a, PP)) : n0 ≤ a ∧ ∃ c : Cell, h[a]? = some c ∧ PP c := H.2 (a, PP) (List.mem_of_getElem? hi)
theorem OL.ne (H : OL n0 h L) {i j : Nat} {b : Addr} {PB : Cell → Prop} (hi : L[i]? = some (a, PP)) (hj : L[j]? = some (b, PB)) (hij : i ≠ j) : a ≠ b := by
  intro e; subst e
  have h1 : (L.map (·.1))[i]? = some a := by simp [hi]
  have h2 : (L.map (·.1))[j]? = some a := by simp [hj]
  obtain ⟨l1, -⟩ := List.getElem?_eq_some_iff.mp h1
  exact hij ((List.getElem?_inj l1 H.1).mp (h1.trans h2.symm))
theorem OL.wr (H : OL n0 h L) {i sl : Nat} {v : Value} {P' : Cell → Prop} (hi : L[i]? = some (a, PP)) (W : Wr h h' a sl v) (hP : ∀ c : Cell, h[a]? = some c → PP c → P' (c.setSlot sl v)) : OL n0 h' (L.set i (a, P')) := by
  have hmap : (L.set i (a, P')).map (·.1) = L.map (·.1) := by
    apply List.ext_getElem?
    intro j
    simp only [List.getElem?_map, List.getElem?_set]
    split
    · rename_i e; subst e; rw [if_pos (List.getElem?_eq_some_iff.mp hi).1, hi]; rfl
    · rfl
  refine ⟨by rw [hmap]; exact H.1, fun q hq => ?_⟩
  obtain ⟨j, hj⟩ := List.getElem?_of_mem hq
  rw [List.getElem?_set] at hj
  split at hj
  · rename_i e; subst e
    split at hj
    · cases hj
      obtain ⟨h1, c, h2, h3⟩ := H.get hi
      obtain ⟨c', e1, -, -, -, -, -, e7⟩ := wr_at W h2
      exact ⟨h1, c', e1, by rw [(e7 rfl).1]; exact hP c h2 h3⟩
    · cases hj
  · rename_i e
    obtain ⟨b, PB⟩ := q
    obtain ⟨h1, c, h2, h3⟩ := H.get hj
    obtain ⟨c', e1, -, -, -, e5, -⟩ := wr_at W h2
    have := e5 (H.ne hj hi (fun r => e r.symm))
    subst this
    exact ⟨h1, c', e1, h3⟩
theorem OA.set {c : Cell} {j : Nat} {x : Int32} (A : OA Z ty vs c) (hf : fits ty (.int x) = true) : OA Z ty (vs.set j x) (c.setSlot j (.int x)) := by
  obtain ⟨h1, h2, h3, h4, h5⟩ := A
  refine ⟨h1, h2, ?_, fun z hz => ?_, h5⟩
  · show c.slots.setIfInBounds j (.int x) = _
    rw [h3]; simp [List.map_set]
  · rcases List.mem_or_eq_of_mem_set hz with q | q
    · exact h4 z q
    · rw [q]; exact hf
theorem OA.new {k : ClassId} {z : Int32} {N : Nat} (hN : z.toInt = N) (hd : defaultValue ty = .int 0) (hf : fits ty (.int 0) = true) (A : Arr Z h a (newA k ty z) ty) (E : Exa Z h a ("[" ++ ty.toString)) : OA Z ty (List.replicate N 0) (newA k ty z) := by
  obtain ⟨c, kk, e1, e2, -⟩ := E
  cases A.1.symm.trans e1
  refine ⟨A.2.1, A.2.2, ?_, fun x hx => by rw [List.eq_of_mem_replicate hx]; exact hf, e2⟩
  have e : z.toNatClampNeg = N := by simp only [Int32.toNatClampNeg, hN]; rfl
  show Array.replicate z.toNatClampNeg (defaultValue ty) = _
  rw [e, hd]; simp
theorem o_idx {j : Int32} {i N : Nat} (hj : j.toInt = i) (hi : i < N) : ¬ (j < 0 ∨ N ≤ j.toNatClampNeg) ∧ j.toNatClampNeg = i := by
  have e : j.toNatClampNeg = i := by simp only [Int32.toNatClampNeg, hj]; rfl
  refine ⟨?_, e⟩
  rw [e, Int32.lt_iff_toInt_lt, hj, show (0 : Int32).toInt = 0 from rfl]; omega
theorem OA.size {c : Cell} (A : OA Z ty vs c) : c.slots.size = vs.length := by rw [A.2.2.1]; simp
theorem o_newarray (X : OW p l e R s m args below meth c Z y bytes mx ret n0 T h k n) (H : OL n0 h L) {aty : ArrayType} (hd : decode bytes pc = .ok (.newarray aty, 2)) (w : (Cond.arrayClass (newarray.typeOf aty)).before a0 Z = true) (hdv : defaultValue (newarray.typeOf aty) = .int 0) (hfv : fits (newarray.typeOf aty) (.int 0) = true) {z : Int32} (N cap : Nat) (hN : z.toInt = N) (hcap : N ≤ cap) (hb8 : cap * 8 ≤ 536870912) (k2 n2 : Nat) (hk2 : k + 1 = k2) (hn2 : n + cap = n2) (hc : k2 ≤ R.cells) (hl : n2 ≤ R.slots) (pc' : Nat) (hp : pc + 2 = pc')
    (K : ∀ T' h' a, OW p l e R s m args below meth c Z y bytes mx ret n0 T' h' k2 n2 → OL n0 h' ((a, OA Z (newarray.typeOf aty) (List.replicate N 0)) :: L) → OE p e R below s n0 Q T' (mkF m pc' Ls (.ref a :: st))) : OE p e R below s n0 Q T (mkF m pc Ls (.int z :: st)) := by
  have h0 := X.size
  obtain ⟨hx, hZ, hown, hby, hmx, hret, hnm, hlk, hn0, hT, locs, S, N0⟩ := X; subst hp hk2 hn2
  obtain ⟨T', h', cA, S', hT', E, A, EX, stp⟩ := newPE S hx hZ w hT (g := mkF m pc Ls (.int z :: st)) rfl (hb hby hd) rfl (by rw [Int32.lt_iff_toInt_lt, hN, show (0 : Int32).toInt = 0 from rfl]; omega) (cap := cap) (by simp only [Int32.toNatClampNeg, hN]; exact hcap) hb8 hc hl rfl
  exact OE.by stp (K T' h' h.size ⟨hx, hZ, hown, hby, hmx, hret, hnm, hlk, hn0, hT', locs, S', N0⟩ (H.push E h0 A.1 (OA.new hN hdv hfv A EX)))
theorem o_arraylength (X : OW p l e R s m args below meth c Z y bytes mx ret n0 T h k n) (H : OL n0 h L) (i : Nat) (hi : L[i]? = some (a, OA Z ty vs)) (hd : decode bytes pc = .ok (.arraylength, 1)) (z : Int32) (hz : Int32.ofNat vs.length = z) (pc' : Nat) (hp : pc + 1 = pc')
    (K : OE p e R below s n0 Q T (mkF m pc' Ls (.int z :: st))) : OE p e R below s n0 Q T (mkF m pc Ls (.ref a :: st)) := by
  obtain ⟨hx, hZ, hown, hby, hmx, hret, hnm, hlk, hn0, hT, locs, S, N0⟩ := X; subst hp
  obtain ⟨h1, c', h2, A⟩ := H.get hi
  refine OE.by (fun t q => S.arraylength hx (by rw [hT]; exact h2) (State.isArrayOf_alike hZ.alike A.1) (g := mkF m pc Ls (.ref a :: st)) rfl rfl (hb hby hd) t ?_) K
  have e1 : c'.slots.size.toInt32 = z := by rw [A.size]; exact hz
  rw [e1]; exact q
theorem o_iaload (X : OW p l e R s m args below meth c Z y bytes mx ret n0 T h k n) (H : OL n0 h L) (i : Nat) (hi : L[i]? = some (a, OA Z .int vs)) (hd : decode bytes pc = .ok (.iaload, 1)) {j : Int32} (jn : Nat) (hj : j.toInt = jn) (v : Int32) (hv : vs[jn]? = some v) (pc' : Nat) (hp : pc + 1 = pc')
    (K : OE p e R below s n0 Q T (mkF m pc' Ls (.int v :: st))) : OE p e R below s n0 Q T (mkF m pc Ls (.int j :: .ref a :: st)) := by
  obtain ⟨hx, hZ, hown, hby, hmx, hret, hnm, hlk, hn0, hT, locs, S, N0⟩ := X; subst hp
  obtain ⟨h1, c', h2, A⟩ := H.get hi
  have hlt := (List.getElem?_eq_some_iff.mp hv).1
  obtain ⟨q1, q2⟩ := o_idx hj (N := c'.slots.size) (by rw [A.size]; exact hlt)
  exact OE.by (fun t q => S.iaload hx (by rw [hT]; exact h2) (State.isArrayOf_alike hZ.alike A.1) A.2.1 q1 (v := .int v) (by rw [q2, A.2.2.1]; simp [hv]) (g := mkF m pc Ls (.int j :: .ref a :: st)) rfl rfl (hb hby hd) t q) K
theorem o_baloadB (X : OW p l e R s m args below meth c Z y bytes mx ret n0 T h k n) (H : OL n0 h L) (i : Nat) (hi : L[i]? = some (a, OA Z .byte vs)) (hd : decode bytes pc = .ok (.baload, 1)) {j : Int32} (jn : Nat) (hj : j.toInt = jn) (v : Int32) (hv : vs[jn]? = some v) (pc' : Nat) (hp : pc + 1 = pc')
    (K : OE p e R below s n0 Q T (mkF m pc' Ls (.int v :: st))) : OE p e R below s n0 Q T (mkF m pc Ls (.int j :: .ref a :: st)) := by
  obtain ⟨hx, hZ, hown, hby, hmx, hret, hnm, hlk, hn0, hT, locs, S, N0⟩ := X; subst hp
  obtain ⟨h1, c', h2, A⟩ := H.get hi
  have hlt := (List.getElem?_eq_some_iff.mp hv).1
  obtain ⟨q1, q2⟩ := o_idx hj (N := c'.slots.size) (by rw [A.size]; exact hlt)
  exact OE.by (fun t q => S.baloadBytes hx (by rw [hT]; exact h2) (State.isArrayOf_alike hZ.alike A.1) A.2.1 q1 (v := .int v) (by rw [q2, A.2.2.1]; simp [hv]) (g := mkF m pc Ls (.int j :: .ref a :: st)) rfl rfl (hb hby hd) t q) K
theorem o_baloadZ (X : OW p l e R s m args below meth c Z y bytes mx ret n0 T h k n) (H : OL n0 h L) (i : Nat) (hi : L[i]? = some (a, OA Z .boolean vs)) (hd : decode bytes pc = .ok (.baload, 1)) {j : Int32} (jn : Nat) (hj : j.toInt = jn) (v : Int32) (hv : vs[jn]? = some v) (pc' : Nat) (hp : pc + 1 = pc')
    (K : OE p e R below s n0 Q T (mkF m pc' Ls (.int v :: st))) : OE p e R below s n0 Q T (mkF m pc Ls (.int j :: .ref a :: st)) := by
  obtain ⟨hx, hZ, hown, hby, hmx, hret, hnm, hlk, hn0, hT, locs, S, N0⟩ := X; subst hp
  obtain ⟨h1, c', h2, A⟩ := H.get hi
  have hlt := (List.getElem?_eq_some_iff.mp hv).1
  obtain ⟨q1, q2⟩ := o_idx hj (N := c'.slots.size) (by rw [A.size]; exact hlt)
  exact OE.by (fun t q => S.baloadBooleans hx (by rw [hT]; exact h2) (State.isArrayOf_alike hZ.alike A.1) A.2.1 q1 (v := .int v) (by rw [q2, A.2.2.1]; simp [hv]) (g := mkF m pc Ls (.int j :: .ref a :: st)) rfl rfl (hb hby hd) t q) K
theorem o_iastore (X : OW p l e R s m args below meth c Z y bytes mx ret n0 T h k n) (H : OL n0 h L) (i : Nat) (hi : L[i]? = some (a, OA Z .int vs)) (hd : decode bytes pc = .ok (.iastore, 1)) {j x : Int32} (jn : Nat) (hj : j.toInt = jn) (hlt : jn < vs.length) (pc' : Nat) (hp : pc + 1 = pc')
    (K : ∀ T' h', OW p l e R s m args below meth c Z y bytes mx ret n0 T' h' k n → OL n0 h' (L.set i (a, OA Z .int (vs.set jn x))) → OE p e R below s n0 Q T' (mkF m pc' Ls st)) : OE p e R below s n0 Q T (mkF m pc Ls (.int x :: .int j :: .ref a :: st)) := by
  obtain ⟨hx, hZ, hown, hby, hmx, hret, hnm, hlk, hn0, hT, locs, S, N0⟩ := X; subst hp
  obtain ⟨h1, c', h2, A⟩ := H.get hi
  obtain ⟨q1, q2⟩ := o_idx hj (N := c'.slots.size) (by rw [A.size]; exact hlt)
  obtain ⟨T', h', S', hT', W, stp⟩ := stI S hx hZ hT ⟨h2, A.1, A.2.1⟩ q1 (x := x) (g := mkF m pc Ls (.int x :: .int j :: .ref a :: st)) rfl rfl (hb hby hd)
  rw [q2] at W S'
  exact OE.by stp (K T' h' ⟨hx, hZ, hown, hby, hmx, hret, hnm, hlk, hn0, hT', _, S', N0.app fun z hz => by cases List.mem_singleton.mp hz; exact h1⟩ (H.wr hi W fun c _ B => B.set rfl))
theorem o_bastoreB (X : OW p l e R s m args below meth c Z y bytes mx ret n0 T h k n) (H : OL n0 h L) (i : Nat) (hi : L[i]? = some (a, OA Z .byte vs)) (hd : decode bytes pc = .ok (.bastore, 1)) {j x : Int32} (jn : Nat) (hj : j.toInt = jn) (hlt : jn < vs.length) (v : Int32) (hv : x.toInt8.toInt32 = v) (pc' : Nat) (hp : pc + 1 = pc')
    (K : ∀ T' h', OW p l e R s m args below meth c Z y bytes mx ret n0 T' h' k n → OL n0 h' (L.set i (a, OA Z .byte (vs.set jn v))) → OE p e R below s n0 Q T' (mkF m pc' Ls st)) : OE p e R below s n0 Q T (mkF m pc Ls (.int x :: .int j :: .ref a :: st)) := by
  obtain ⟨hx, hZ, hown, hby, hmx, hret, hnm, hlk, hn0, hT, locs, S, N0⟩ := X; subst hp hv
  obtain ⟨h1, c', h2, A⟩ := H.get hi
  obtain ⟨q1, q2⟩ := o_idx hj (N := c'.slots.size) (by rw [A.size]; exact hlt)
  obtain ⟨T', h', S', hT', W, stp⟩ := stB S hx hZ hT ⟨h2, A.1, A.2.1⟩ q1 (x := x) (g := mkF m pc Ls (.int x :: .int j :: .ref a :: st)) rfl rfl (hb hby hd)
  rw [q2] at W S'
  exact OE.by stp (K T' h' ⟨hx, hZ, hown, hby, hmx, hret, hnm, hlk, hn0, hT', _, S', N0.app fun z hz => by cases List.mem_singleton.mp hz; exact h1⟩ (H.wr hi W fun c _ B => B.set (fits_nar_byte x)))
theorem o_bastoreZ (X : OW p l e R s m args below meth c Z y bytes mx ret n0 T h k n) (H : OL n0 h L) (i : Nat) (hi : L[i]? = some (a, OA Z .boolean vs)) (hd : decode bytes pc = .ok (.bastore, 1)) {j x : Int32} (jn : Nat) (hj : j.toInt = jn) (hlt : jn < vs.length) (v : Int32) (hv : nar .boolean x = v) (pc' : Nat) (hp : pc + 1 = pc')
    (K : ∀ T' h', OW p l e R s m args below meth c Z y bytes mx ret n0 T' h' k n → OL n0 h' (L.set i (a, OA Z .boolean (vs.set jn v))) → OE p e R below s n0 Q T' (mkF m pc' Ls st)) : OE p e R below s n0 Q T (mkF m pc Ls (.int x :: .int j :: .ref a :: st)) := by
  obtain ⟨hx, hZ, hown, hby, hmx, hret, hnm, hlk, hn0, hT, locs, S, N0⟩ := X; subst hp hv
  obtain ⟨h1, c', h2, A⟩ := H.get hi
  obtain ⟨q1, q2⟩ := o_idx hj (N := c'.slots.size) (by rw [A.size]; exact hlt)
  obtain ⟨T', h', S', hT', W, stp⟩ := stZ S hx hZ hT ⟨h2, A.1, A.2.1⟩ q1 (x := x) (g := mkF m pc Ls (.int x :: .int j :: .ref a :: st)) rfl rfl (hb hby hd)
  rw [q2] at W S'
  exact OE.by stp (K T' h' ⟨hx, hZ, hown, hby, hmx, hret, hnm, hlk, hn0, hT', _, S', N0.app fun z hz => by cases List.mem_singleton.mp hz; exact h1⟩ (H.wr hi W fun c _ B => B.set (fits_nar_bool x)))
theorem o_b8 (x : Int32) : x.toInt8.toInt32.toInt8.toInt32 = x.toInt8.toInt32 := by simp
/-! contracts and calls -/
def OC (l : Launch) (Z : State) (y : MethodName) (bytes : ByteArray) (mx : Nat) (ret : Option FieldType) (ws : List Jvm.Cond) (rm : Room) (n0 : Nat) (as' : Array Value) (h0 : Heap) (Q : Option Value → Heap → Prop) : Prop :=
  MetFree l y (head1 (Jvm.Cond.code y bytes mx ret :: ws) rm) (fun a U => a = as' ∧ Z.Warmed39 U.vm ∧ U.heap = h0) (fun _ _ _ _ _ => True) (fun _ U o U' => ∃ v L, o = .returned v ∧ (Q v U'.heap ∧ Fr n0 L) ∧ FrameEnd U o U' L rm.cells rm.slots)
theorem OC.of {ws : List Jvm.Cond} {rm : Room} {as' : Array Value} {h0 : Heap} (hp : plainName y.cls = true) (hn : n0 ≤ h0.size) (Ls : Array Slot) (hef : ∀ m : MethodId, entryFrame m as' mx = mkF m 0 Ls [])
    (B : ∀ p e s m below meth c T, OW p l e rm s m as' below meth c Z y bytes mx ret n0 T h0 0 0 → ∀ Q' : Option Value → Heap → Prop, (∀ r h, Q r h → Q' r h) → OE p e rm below s n0 Q' T (mkF m 0 Ls [])) : OC l Z y bytes mx ret ws rm n0 as' h0 Q := by
  refine MetFree.of_bodySF (plainFor_of_name hp) hisR ?_
  intro p e s m args below meth c s₁ Bd hml0 hP hK
  obtain ⟨rfl, hZ, hh⟩ := hP
  have hnm := (name_of_methodNamed Bd.named Bd.method).1
  have X0 : Stand p l e rm s m args below meth c s₁ [] 0 0 := Stand.of_body Bd
  have e0 : s₁.heap = h0 := by rw [← hh, Bd.state]; rfl
  rw [hef m]
  exact B p e s m below meth c s₁ ⟨Bd.exec, hZ, findClass_of_methodNamed Bd.named, Bd.bytes, hml0, Bd.returns, hnm, Bd.notSynchronized, by rw [hh]; exact hn, e0, [], X0, Fr.nil n0⟩ Q (fun _ _ q => q)
theorem o_callS (X : OW p l e R s m args below meth c Z y bytes mx ret n0 T h k n) {i : Nat} (hd : decode bytes pc = .ok (.invokestatic i, 3)) {y' : MethodName} {bytes' : ByteArray} {mx' : Nat} {ret' : Option FieldType} {rm : Room} {as' : Array Value} {Q' : Option Value → Heap → Prop} (C : OC l Z y' bytes' mx' ret' [] rm n0 as' h Q')
    (w1 : (Cond.methodLink y.cls i y').before a0 Z = true) (w2 : (Cond.static y').before a0 Z = true) (w3 : (Cond.initialized y'.cls).before a0 Z = true) (w4 : (Cond.code y' bytes' mx' ret').before a0 Z = true) (hy : y'.cls ≠ "java/lang/invoke/MethodHandle" ∧ y'.cls ≠ "java/lang/invoke/VarHandle")
    (Wd : Nat) (hf : rm.frames + 1 ≤ R.frames) (hlo : Wd + (mx' + 11) + rm.locals ≤ R.locals) (hls : Ls.size = mx) (argsL : List Value) (has : as' = argsL.toArray) {ps : List FieldType} {r' : Option FieldType} (hpd : parseMethodDescriptor y'.desc = some ⟨ps, r'⟩) (hlen : argsL.length = ps.length) (hst : st = argsL.reverse ++ rest) (hW : (rest.map fun v => v.category).sum ≤ Wd) (k2 n2 : Nat) (hk2 : k + rm.cells = k2) (hn2 : n + rm.slots = n2) (hk : k2 ≤ R.cells) (hn : n2 ≤ R.slots) (pc' : Nat) (hp : pc + 3 = pc')
    (K : ∀ v T' h', OW p l e R s m args below meth c Z y bytes mx ret n0 T' h' k2 n2 → Q' v h' → OE p e R below s n0 Q T' (mkF m pc' Ls (v.toList ++ rest))) : OE p e R below s n0 Q T (mkF m pc Ls st) := by
  obtain ⟨hx, hZ, hown, hby, hmx, hret, hnm, hlk, hn0, hT, locs, S, N0⟩ := X; subst hp has hk2 hn2
  obtain ⟨v, _, ⟨T2, L2, k2, n2⟩, -, X2, ⟨Lc, hQ, l2, y2, z2⟩, stp⟩ := Jvm.LawKit.callS S hx (y := y') hown (mvT hZ w1) (mvT hZ w2) (mvT hZ w3) (mvT hZ w4) hy (backOf (W := Wd) (Q := fun v hh LL => Q' v hh ∧ Fr n0 LL) C hZ w4 w3 hf hlo) (g := mkF m pc Ls st) rfl (by rw [hmx]; exact hls) (argsL := argsL) (rest := rest) (lenOf hpd hlen) hst (by show 2 * 0 + _ ≤ _; omega) (hb hby hd) (fun _ _ => ⟨rfl, hT, hk, hn⟩)
  dsimp only [Pt.U, Pt.locs, Pt.cells, Pt.slots] at X2 l2 y2 z2 stp hQ
  subst l2 y2 z2
  exact OE.by stp (K v T2 T2.heap ⟨hx, hZ, hown, hby, hmx, hret, hnm, hlk, hn0, rfl, _, X2, N0.app hQ.2⟩ hQ.1)
theorem o_dconst1 (X : OW p l e R s m args below meth c Z y bytes mx ret n0 T h k n) (hd : decode bytes pc = .ok (.dconst 1, 1)) (pc' : Nat) (hp : pc + 1 = pc') (K : OE p e R below s n0 Q T (mkF m pc' Ls (.double FP.dconst1 :: st))) : OE p e R below s n0 Q T (mkF m pc Ls st) := by
  obtain ⟨hx, hZ, hown, hby, hmx, hret, hnm, hlk, h0, hT, locs, S, N⟩ := X; subst hp
  exact OE.by (fun t q => XS.dconst1 S.here hx rfl (hb hby hd) rfl q) K
theorem o_dloadN (X : OW p l e R s m args below meth c Z y bytes mx ret n0 T h k n) {j : Fin 4} {v : UInt64} (hd : decode bytes pc = .ok (.dload_n j, 1)) (hl : Ls[j.val]? = some (.val (.double v))) (pc' : Nat) (hp : pc + 1 = pc') (K : OE p e R below s n0 Q T (mkF m pc' Ls (.double v :: st))) : OE p e R below s n0 Q T (mkF m pc Ls st) := by
  obtain ⟨hx, hZ, hown, hby, hmx, hret, hnm, hlk, h0, hT, locs, S, N⟩ := X; subst hp
  exact OE.by (fun t q => XS.dloadN S.here hx rfl (hb hby hd) hl q) K
theorem o_dload (X : OW p l e R s m args below meth c Z y bytes mx ret n0 T h k n) {j : Nat} {v : UInt64} (hd : decode bytes pc = .ok (.dload j, 2)) (hl : Ls[j]? = some (.val (.double v))) (pc' : Nat) (hp : pc + 2 = pc') (K : OE p e R below s n0 Q T (mkF m pc' Ls (.double v :: st))) : OE p e R below s n0 Q T (mkF m pc Ls st) := by
  obtain ⟨hx, hZ, hown, hby, hmx, hret, hnm, hlk, h0, hT, locs, S, N⟩ := X; subst hp
  exact OE.by (fun t q => XS.dload S.here hx rfl (hb hby hd) hl q) K
/-! objects -/
def OFc (Z : State) (cell : Cell) (O nm d : String) (v : Value) : Prop := ∃ (cf : ClassId) (k : Class) (i : Nat) (f : Field), Z.fieldFound? O nm d = some (cf, k, i, f) ∧ f.isStatic = false ∧ cell.vm ≠ .unknown ∧ cell.vm.isStatics = false ∧ Z.vm.assignable cell.cls cf = true ∧ cell.slots[f.slot]? = some v
def OO (Z : State) (C : String) (fs : List (String × String × String × Value)) (cell : Cell) : Prop := (∃ k : Class, Z.vm.findClass C = some cell.cls ∧ Z.vm.classes[cell.cls]? = some k ∧ cell.vm.isStatics = false ∧ (k.kind = .ordinary → cell.slots.size = k.instanceTypes.size)) ∧ ∀ f ∈ fs, OFc Z cell f.1 f.2.1 f.2.2.1 f.2.2.2
variable {fs : List (String × String × String × Value)} {C O nm d : String} {v : Value}
theorem oq0 {α : Type} {P : α → Prop} : ∀ q ∈ ([] : List α), P q := fun _ q => nomatch q
theorem oqS {α : Type} {P : α → Prop} {z : α} {M : List α} (q : P z) (r : ∀ x ∈ M, P x) : ∀ x ∈ z :: M, P x := List.forall_mem_cons.mpr ⟨q, r⟩
theorem o_new (X : OW p l e R s m args below meth c Z y bytes mx ret n0 T h k n) (H : OL n0 h L) {i nn : Nat} (hd : decode bytes pc = .ok (.new i, 3)) (w : (Cond.classLink y.cls i C).before a0 Z = true) (wi : (Cond.instantiable C nn).before a0 Z = true) (wz : (Cond.initialized C).before a0 Z = true) (fs : List (String × String × String × Value)) (hfs : ∀ f ∈ fs, ∃ ty, Laid Z a0 C f.1 f.2.1 f.2.2.1 ∧ parseFieldDescriptor f.2.2.1 = some ty ∧ f.2.2.2 = defaultValue ty) (k2 n2 : Nat) (hk2 : k + 1 = k2) (hn2 : n + nn = n2) (hc : k2 ≤ R.cells) (hl : n2 ≤ R.slots) (pc' : Nat) (hp : pc + 3 = pc')
    (K : ∀ T' h' a, OW p l e R s m args below meth c Z y bytes mx ret n0 T' h' k2 n2 → OL n0 h' ((a, OO Z C fs) :: L) → OE p e R below s n0 Q T' (mkF m pc' Ls (.ref a :: st))) : OE p e R below s n0 Q T (mkF m pc Ls st) := by
  have h0 := X.size
  obtain ⟨hx, hZ, hown, hby, hmx, hret, hnm, hlk, hn0, hT, locs, S, N0⟩ := X; subst hp hk2 hn2
  obtain ⟨T', h', S', hT', E, A, D, -, stp⟩ := newO S hx hZ hown w wi wz hT (g := mkF m pc Ls st) rfl (hb hby hd) hc hl
  obtain ⟨cell, kk, g1, g2, g3, g4, g5⟩ := A
  refine OE.by stp (K T' h' h.size ⟨hx, hZ, hown, hby, hmx, hret, hnm, hlk, hn0, hT', locs, S', N0⟩ (H.push E h0 g1 ⟨⟨kk, g2, g3, g4, g5⟩, fun f hf => ?_⟩))
  obtain ⟨ty, q1, q2, q3⟩ := hfs f hf
  obtain ⟨cell', cf, kf, ii, ff, r1, r2, r3, r4, r5, r6, r7⟩ := D q1 q2
  cases g1.symm.trans r1
  exact ⟨cf, kf, ii, ff, r2, r3, r4, r5, r6, by rw [q3]; exact r7⟩
theorem OO.fld {cell : Cell} (A : OO Z C fs cell) (hc : h[a]? = some cell) {j : Nat} (hj : fs[j]? = some (O, nm, d, v)) : Fld Z h a O nm d v := by
  obtain ⟨cf, kf, ii, ff, r2, r3, r4, r5, r6, r7⟩ := A.2 _ (List.mem_of_getElem? hj)
  exact ⟨cell, cf, kf, ii, ff, hc, r2, r3, r4, r5, r6, r7⟩
theorem OO.exa {cell : Cell} (A : OO Z C fs cell) (hc : h[a]? = some cell) : Exa Z h a C := by
  obtain ⟨⟨kk, g2, g3, g4, g5⟩, -⟩ := A; exact ⟨cell, kk, hc, g2, g3, g4, g5⟩
theorem o_getF (X : OW p l e R s m args below meth c Z y bytes mx ret n0 T h k n) (H : OL n0 h L) (i : Nat) (hi : L[i]? = some (a, OO Z C fs)) {ix : Nat} (hd : decode bytes pc = .ok (.getfield ix, 3)) (j : Nat) (hj : fs[j]? = some (O, nm, d, v)) (w : (Cond.fieldLink y.cls ix O nm d).before a0 Z = true) (pc' : Nat) (hp : pc + 3 = pc')
    (K : ∀ T', OW p l e R s m args below meth c Z y bytes mx ret n0 T' h k n → OE p e R below s n0 Q T' (mkF m pc' Ls (v :: st))) : OE p e R below s n0 Q T (mkF m pc Ls (.ref a :: st)) := by
  obtain ⟨hx, hZ, hown, hby, hmx, hret, hnm, hlk, hn0, hT, locs, S, N0⟩ := X; subst hp
  obtain ⟨h1, cell, h2, A⟩ := H.get hi
  obtain ⟨T', S', hT', stp⟩ := getF S hx hZ hown (host := "") (Or.inl w) Via.refl hT (A.fld h2 hj) (g := mkF m pc Ls (.ref a :: st)) rfl rfl (hb hby hd)
  exact OE.by stp (K T' ⟨hx, hZ, hown, hby, hmx, hret, hnm, hlk, hn0, hT', locs, S', N0⟩)
theorem o_putF (X : OW p l e R s m args below meth c Z y bytes mx ret n0 T h k n) (H : OL n0 h L) (i : Nat) (hi : L[i]? = some (a, OO Z C fs)) {ix kk : Nat} (hd : decode bytes pc = .ok (.putfield ix, 3)) (j : Nat) {old : Value} (hj : fs[j]? = some (O, nm, d, old)) (w : (Cond.fieldLink y.cls ix O nm d).before a0 Z = true)
    (Lw : (Cond.lays C O nm d).before a0 Z = true ∨ ((Cond.laysFinal C O nm d).before a0 Z = true ∧ y.cls = O ∧ y.name = "<init>")) (wi : (Cond.instantiable C kk).before a0 Z = true) {ty : FieldType} (hty : parseFieldDescriptor d = some ty) (hnr : narrow ty v = v) (hft : fits ty v = true) (hsl : ∀ q ∈ fs.eraseIdx j, RoadKit.slotOf Z q.1 q.2.1 q.2.2.1 ≠ RoadKit.slotOf Z O nm d) (pc' : Nat) (hp : pc + 3 = pc')
    (K : ∀ T' h', OW p l e R s m args below meth c Z y bytes mx ret n0 T' h' k n → OL n0 h' (L.set i (a, OO Z C (fs.set j (O, nm, d, v)))) → OE p e R below s n0 Q T' (mkF m pc' Ls st)) : OE p e R below s n0 Q T (mkF m pc Ls (v :: .ref a :: st)) := by
  obtain ⟨hx, hZ, hown, hby, hmx, hret, hnm, hlk, hn0, hT, locs, S, N0⟩ := X; subst hp
  obtain ⟨h1, cell, h2, A⟩ := H.get hi
  obtain ⟨T', h', S', hT', W, stp⟩ := putF S hx hZ hown (host := "") (Or.inl w) Via.refl hT (A.fld h2 hj) (A.exa h2) (Lw.imp id fun q => ⟨q.1, q.2.1, hnm.trans q.2.2⟩) wi hty hnr hft (g := mkF m pc Ls (v :: .ref a :: st)) rfl rfl (hb hby hd)
  refine OE.by stp (K T' h' ⟨hx, hZ, hown, hby, hmx, hret, hnm, hlk, hn0, hT', _, S', N0.app fun z hz => by cases List.mem_singleton.mp hz; exact h1⟩ (H.wr hi W fun c' hc' B => ?_))
  obtain ⟨⟨kq, g2, g3, g4, g5⟩, F⟩ := B
  refine ⟨⟨kq, g2, g3, g4, fun q => by rw [sz_set]; exact g5 q⟩, fun q hq => ?_⟩
  obtain ⟨j', hj'⟩ := List.getElem?_of_mem hq
  rw [List.getElem?_set] at hj'
  split at hj'
  · split at hj'
    · cases hj'
      obtain ⟨cf, kf, ii, ff, r2, r3, r4, r5, r6, r7⟩ := F _ (List.mem_of_getElem? hj)
      have hlt := (Array.getElem?_eq_some_iff.mp r7).1
      refine ⟨cf, kf, ii, ff, r2, r3, r4, r5, r6, ?_⟩
      have es : RoadKit.slotOf Z O nm d = ff.slot := by simp only [RoadKit.slotOf]; simp only at r2; rw [r2]; rfl
      show (c'.slots.setIfInBounds (RoadKit.slotOf Z O nm d) v)[ff.slot]? = some v
      rw [es, Array.getElem?_setIfInBounds_self_of_lt hlt]
    · cases hj'
  · rename_i hne
    obtain ⟨cf, kf, ii, ff, r2, r3, r4, r5, r6, r7⟩ := F _ (List.mem_of_getElem? hj')
    refine ⟨cf, kf, ii, ff, r2, r3, r4, r5, r6, ?_⟩
    have ne := hsl q (List.mem_eraseIdx_iff_getElem?.mpr ⟨j', fun z => hne z.symm, hj'⟩)
    have es : RoadKit.slotOf Z q.1 q.2.1 q.2.2.1 = ff.slot := by simp only [RoadKit.slotOf]; rw [r2]; rfl
    show (c'.slots.setIfInBounds (RoadKit.slotOf Z O nm d) v)[ff.slot]? = some q.2.2.2
    rw [← es, Array.getElem?_setIfInBounds_ne (fun z => ne z.symm), es]; exact r7
theorem o_initO (X : OW p l e R s m args below meth c Z y bytes mx ret n0 T h k n) {i : Nat} (hd : decode bytes pc = .ok (.invokespecial i, 3)) (w1 : (Cond.methodLink y.cls i Lib.objectInit).before a0 Z = true) (w2 : (Cond.instanceMethod Lib.objectInit).before a0 Z = true) (w3 : (Cond.code Lib.objectInit ⟨#[0xb1]⟩ 1 none).before a0 Z = true) (hls : Ls.size = mx) (hf : 1 ≤ R.frames) (Wd : Nat) (hW : (st.map fun v => v.category).sum ≤ Wd) (hlo : Wd + 12 ≤ R.locals) (pc' : Nat) (hp : pc + 3 = pc')
    (K : ∀ T', OW p l e R s m args below meth c Z y bytes mx ret n0 T' h k n → OE p e R below s n0 Q T' (mkF m pc' Ls st)) : OE p e R below s n0 Q T (mkF m pc Ls (.ref a :: st)) := by
  obtain ⟨hx, hZ, hown, hby, hmx, hret, hnm, hlk, hn0, hT, locs, S, N0⟩ := X; subst hp
  obtain ⟨T', S', hT', stp⟩ := initO S hx hZ hown w1 w2 w3 hT (g := mkF m pc Ls (.ref a :: st)) rfl (by rw [hmx]; exact hls) rfl (hb hby hd) hf (W := Wd) (by show 2 * 0 + _ ≤ _; omega) hlo
  exact OE.by stp (K T' ⟨hx, hZ, hown, hby, hmx, hret, hnm, hlk, hn0, hT', locs, S', N0⟩)
theorem o_callI (X : OW p l e R s m args below meth c Z y bytes mx ret n0 T h k n) {i : Nat} (hd : decode bytes pc = .ok (.invokespecial i, 3)) {y' : MethodName} {bytes' : ByteArray} {mx' : Nat} {rm : Room} {as' : Array Value} {Q' : Option Value → Heap → Prop} (C : OC l Z y' bytes' mx' none [] rm n0 as' h Q') (hini : y'.name = "<init>")
    (w1 : (Cond.methodLink y.cls i y').before a0 Z = true) (w2 : (Cond.instanceMethod y').before a0 Z = true) (w3 : (Cond.initialized y'.cls).before a0 Z = true) (w4 : (Cond.code y' bytes' mx' none).before a0 Z = true) (hy : y'.cls ≠ "java/lang/invoke/MethodHandle" ∧ y'.cls ≠ "java/lang/invoke/VarHandle")
    (Wd : Nat) (hf : rm.frames + 1 ≤ R.frames) (hlo : Wd + (mx' + 11) + rm.locals ≤ R.locals) (hls : Ls.size = mx) (argsL : List Value) (has : as' = (.ref a :: argsL).toArray) {ps : List FieldType} {r' : Option FieldType} (hpd : parseMethodDescriptor y'.desc = some ⟨ps, r'⟩) (hlen : argsL.length = ps.length) (hst : st = argsL.reverse ++ .ref a :: rest) (hW : (rest.map fun v => v.category).sum ≤ Wd) (k2 n2 : Nat) (hk2 : k + rm.cells = k2) (hn2 : n + rm.slots = n2) (hk : k2 ≤ R.cells) (hn : n2 ≤ R.slots) (pc' : Nat) (hp : pc + 3 = pc')
    (K : ∀ v T' h', OW p l e R s m args below meth c Z y bytes mx ret n0 T' h' k2 n2 → Q' v h' → OE p e R below s n0 Q T' (mkF m pc' Ls (v.toList ++ rest))) : OE p e R below s n0 Q T (mkF m pc Ls st) := by
  obtain ⟨hx, hZ, hown, hby, hmx, hret, hnm, hlk, hn0, hT, locs, S, N0⟩ := X; subst hp has hk2 hn2
  obtain ⟨v, _, ⟨T2, L2, k2, n2⟩, -, X2, ⟨Lc, hQ, l2, y2, z2⟩, stp⟩ := S.specialBack hx (y := y') hini hown (mvT hZ w1) (mvT hZ w2) (mvT hZ w4) hy (backOf (W := Wd) (Q := fun v hh LL => Q' v hh ∧ Fr n0 LL) C hZ w4 w3 hf hlo) (g := mkF m pc Ls st) rfl (by rw [hmx]; exact hls) (Steps.refl _) (a := a) (argsL := argsL) (rest := rest) (lenOf hpd hlen) hst (by show 2 * 0 + _ ≤ _; omega) (hb hby hd) (fun _ _ => ⟨rfl, hT, hk, hn⟩)
  dsimp only [Pt.U, Pt.locs, Pt.cells, Pt.slots] at X2 l2 y2 z2 stp hQ
  subst l2 y2 z2
  exact OE.by (fun t q => stp.trans q) (K v T2 T2.heap ⟨hx, hZ, hown, hby, hmx, hret, hnm, hlk, hn0, rfl, _, X2, N0.app hQ.2⟩ hQ.1)
theorem o_callV (X : OW p l e R s m args below meth c Z y bytes mx ret n0 T h k n) (H : OL n0 h L) (io : Nat) {Cc : String} (hi : L[io]? = some (a, OO Z Cc fs)) {i : Nat} (hd : decode bytes pc = .ok (.invokevirtual i, 3)) {y' : MethodName} {bytes' : ByteArray} {mx' : Nat} {ret' : Option FieldType} {rm : Room} {as' : Array Value} {Q' : Option Value → Heap → Prop} (C : OC l Z y' bytes' mx' ret' [] rm n0 as' h Q')
    (w1 : (Cond.methodLink y.cls i y').before a0 Z = true) (w2 : (Cond.declares y').before a0 Z = true) (w5 : (Cond.selects Cc y' y').before a0 Z = true) (w6 : (Cond.instanceMethod y').before a0 Z = true) (w3 : (Cond.initialized y'.cls).before a0 Z = true) (w4 : (Cond.code y' bytes' mx' ret').before a0 Z = true) (hy : y'.cls ≠ "java/lang/invoke/MethodHandle" ∧ y'.cls ≠ "java/lang/invoke/VarHandle")
    (Wd : Nat) (hf : rm.frames + 1 ≤ R.frames) (hlo : Wd + (mx' + 11) + rm.locals ≤ R.locals) (hls : Ls.size = mx) (argsL : List Value) (has : as' = (.ref a :: argsL).toArray) {ps : List FieldType} {r' : Option FieldType} (hpd : parseMethodDescriptor y'.desc = some ⟨ps, r'⟩) (hlen : argsL.length = ps.length) (hst : st = argsL.reverse ++ .ref a :: rest) (hW : (rest.map fun v => v.category).sum ≤ Wd) (k2 n2 : Nat) (hk2 : k + rm.cells = k2) (hn2 : n + rm.slots = n2) (hk : k2 ≤ R.cells) (hn : n2 ≤ R.slots) (pc' : Nat) (hp : pc + 3 = pc')
    (K : ∀ v T' h', OW p l e R s m args below meth c Z y bytes mx ret n0 T' h' k2 n2 → Q' v h' → OE p e R below s n0 Q T' (mkF m pc' Ls (v.toList ++ rest))) : OE p e R below s n0 Q T (mkF m pc Ls st) := by
  obtain ⟨hx, hZ, hown, hby, hmx, hret, hnm, hlk, hn0, hT, locs, S, N0⟩ := X; subst hp has hk2 hn2
  obtain ⟨h1, cell, h2, A⟩ := H.get hi
  obtain ⟨cq, kq, q1, q2, q3⟩ := isOf hZ hT (A.exa h2)
  obtain ⟨v, _, ⟨T2, L2, k2, n2⟩, -, X2, ⟨Lc, hQ, l2, y2, z2⟩, stp⟩ := S.virtualBack hx (y := y') (z := y') hown (mvT hZ w1) (mvT hZ w2) (notFace_of_selects (args := #[]) (mvT hZ w5)) (mvT hZ w5) (mvT hZ w6) hy (backOf (W := Wd) (Q := fun v hh LL => Q' v hh ∧ Fr n0 LL) C hZ w4 w3 hf hlo) q1 q3 (g := mkF m pc Ls st) rfl (by rw [hmx]; exact hls) (Steps.refl _) (argsL := argsL) (rest := rest) (lenOf hpd hlen) hst (by show 2 * 0 + _ ≤ _; omega) (hb hby hd) (fun _ _ => ⟨rfl, hT, hk, hn⟩)
  dsimp only [Pt.U, Pt.locs, Pt.cells, Pt.slots] at X2 l2 y2 z2 stp hQ
  subst l2 y2 z2
  exact OE.by (fun t q => stp.trans q) (K v T2 T2.heap ⟨hx, hZ, hown, hby, hmx, hret, hnm, hlk, hn0, rfl, _, X2, N0.app hQ.2⟩ hQ.1)
end OwnKit
theorem d1_0 : decode prog_43_method_1_code 0 = .ok (.aload_n 0, 1) := by decide +kernel
theorem d1_1 : decode prog_43_method_1_code 1 = .ok (.invokespecial 1, 3) := by decide +kernel
theorem d1_4 : decode prog_43_method_1_code 4 = .ok (.aload_n 0, 1) := by decide +kernel
theorem d1_5 : decode prog_43_method_1_code 5 = .ok (.iload_n 1, 1) := by decide +kernel
theorem d1_6 : decode prog_43_method_1_code 6 = .ok (.putfield 7, 3) := by decide +kernel
theorem d1_9 : decode prog_43_method_1_code 9 = .ok (.aload_n 0, 1) := by decide +kernel
theorem d1_10 : decode prog_43_method_1_code 10 = .ok (.iload_n 2, 1) := by decide +kernel
theorem d1_11 : decode prog_43_method_1_code 11 = .ok (.putfield 13, 3) := by decide +kernel
theorem d1_14 : decode prog_43_method_1_code 14 = .ok (.aload_n 0, 1) := by decide +kernel
theorem d1_15 : decode prog_43_method_1_code 15 = .ok (.dload_n 3, 1) := by decide +kernel
theorem d1_16 : decode prog_43_method_1_code 16 = .ok (.putfield 16, 3) := by decide +kernel
theorem d1_19 : decode prog_43_method_1_code 19 = .ok (.aload_n 0, 1) := by decide +kernel
theorem d1_20 : decode prog_43_method_1_code 20 = .ok (.dload 5, 2) := by decide +kernel
theorem d1_22 : decode prog_43_method_1_code 22 = .ok (.putfield 20, 3) := by decide +kernel
theorem d1_25 : decode prog_43_method_1_code 25 = .ok (.aload_n 0, 1) := by decide +kernel
theorem d1_26 : decode prog_43_method_1_code 26 = .ok (.aload 7, 2) := by decide +kernel
theorem d1_28 : decode prog_43_method_1_code 28 = .ok (.putfield 23, 3) := by decide +kernel
theorem d1_31 : decode prog_43_method_1_code 31 = .ok (.aload_n 0, 1) := by decide +kernel
theorem d1_32 : decode prog_43_method_1_code 32 = .ok (.aload 8, 2) := by decide +kernel
theorem d1_34 : decode prog_43_method_1_code 34 = .ok (.putfield 27, 3) := by decide +kernel
theorem d1_37 : decode prog_43_method_1_code 37 = .ok (.return_, 1) := by decide +kernel
theorem d2_0 : decode object_method_1_code 0 = .ok (.return_, 1) := by decide +kernel
theorem d3_0 : decode prog_43_method_6_code 0 = .ok (.lconst 0, 1) := by decide +kernel
theorem d3_1 : decode prog_43_method_6_code 1 = .ok (.lstore_n 2, 1) := by decide +kernel
theorem d3_2 : decode prog_43_method_6_code 2 = .ok (.iconst 0, 1) := by decide +kernel
theorem d3_3 : decode prog_43_method_6_code 3 = .ok (.istore 4, 2) := by decide +kernel
theorem d3_5 : decode prog_43_method_6_code 5 = .ok (.iload 4, 2) := by decide +kernel
theorem d3_7 : decode prog_43_method_6_code 7 = .ok (.aload_n 0, 1) := by decide +kernel
theorem d3_8 : decode prog_43_method_6_code 8 = .ok (.getfield 7, 3) := by decide +kernel
theorem d3_11 : decode prog_43_method_6_code 11 = .ok (.if_icmp .ge 27, 3) := by decide +kernel
theorem d3_14 : decode prog_43_method_6_code 14 = .ok (.lload_n 2, 1) := by decide +kernel
theorem d3_15 : decode prog_43_method_6_code 15 = .ok (.aload_n 0, 1) := by decide +kernel
theorem d3_16 : decode prog_43_method_6_code 16 = .ok (.getfield 23, 3) := by decide +kernel
theorem d3_19 : decode prog_43_method_6_code 19 = .ok (.iload_n 1, 1) := by decide +kernel
theorem d3_20 : decode prog_43_method_6_code 20 = .ok (.aload_n 0, 1) := by decide +kernel
theorem d3_21 : decode prog_43_method_6_code 21 = .ok (.getfield 7, 3) := by decide +kernel
theorem d3_24 : decode prog_43_method_6_code 24 = .ok (.imul, 1) := by decide +kernel
theorem d3_25 : decode prog_43_method_6_code 25 = .ok (.iload 4, 2) := by decide +kernel
theorem d3_27 : decode prog_43_method_6_code 27 = .ok (.iadd, 1) := by decide +kernel
theorem d3_28 : decode prog_43_method_6_code 28 = .ok (.iaload, 1) := by decide +kernel
theorem d3_29 : decode prog_43_method_6_code 29 = .ok (.i2l, 1) := by decide +kernel
theorem d3_30 : decode prog_43_method_6_code 30 = .ok (.ladd, 1) := by decide +kernel
theorem d3_31 : decode prog_43_method_6_code 31 = .ok (.lstore_n 2, 1) := by decide +kernel
theorem d3_32 : decode prog_43_method_6_code 32 = .ok (.iinc 4 1, 3) := by decide +kernel
theorem d3_35 : decode prog_43_method_6_code 35 = .ok (.goto (-30), 3) := by decide +kernel
theorem d3_38 : decode prog_43_method_6_code 38 = .ok (.lload_n 2, 1) := by decide +kernel
theorem d3_39 : decode prog_43_method_6_code 39 = .ok (.lreturn, 1) := by decide +kernel
theorem pn_0 : plainName "com/example/palamedes/palamedes/lda/TopicModel" = true := by first | (simp [plainName, overriddenIn]; done) | decide +kernel
theorem pn_2 : plainName "com/example/palamedes/palamedes/lda/TopicModelWordTokensPinLaw" = true := by first | (simp [plainName, overriddenIn]; done) | decide +kernel
theorem pd_1 : parseMethodDescriptor "(IIDD[I[I)V" = some ⟨[.int, .int, .double, .double, (.array .int), (.array .int)], none⟩ := by decide +kernel
theorem pd_2 : parseMethodDescriptor "()V" = some ⟨[], none⟩ := by decide +kernel
theorem pd_3 : parseMethodDescriptor "(I)J" = some ⟨[.int], (some .long)⟩ := by decide +kernel
theorem v_cmp0 (x z : Int64) : XT.cmpL x z = 0 ↔ x = z := by
  unfold XT.cmpL; split <;> (try split) <;> simp_all [Int64.lt_iff_toInt_lt, ← Int64.toInt_inj] <;> omega
theorem v_t (x : Int32) : 1 + (x &&& 3) = 1 ∨ 1 + (x &&& 3) = 2 ∨ 1 + (x &&& 3) = 3 ∨ 1 + (x &&& 3) = 4 := by
  have h := Jvm.Kit.i32_mask x 3 (k := 2) (by decide) (by decide)
  have h2 := Jvm.Kit.i32_add (p := 1) (q := x &&& 3) (by rw [h, show (1 : Int32).toInt = 1 from rfl]; omega) (by rw [h, show (1 : Int32).toInt = 1 from rfl]; omega)
  simp only [← Int32.toInt_inj, Int32.reduceToInt] at *; omega
theorem v_w (x : Int32) : (x &&& 2147483647) % 3 = 0 ∨ (x &&& 2147483647) % 3 = 1 ∨ (x &&& 2147483647) % 3 = 2 := by
  have h := Jvm.Kit.i32_mask x 2147483647 (k := 31) (by decide) (by decide)
  have r := (c_irem (x &&& 2147483647) 3 3 rfl).1 (by omega)
  simp only [← Int32.toInt_inj, Int32.reduceToInt]; omega
set_option maxRecDepth 65536 in
set_option maxHeartbeats 40000000 in
theorem c_init (l : Launch) (Z : State) (a0 : Array Value) (hw : ∀ d ∈ tables_1, d.before a0 Z = true) (ws : List Jvm.Cond) (n0 : Nat) (h0 : Heap) (hn0 : n0 ≤ h0.size) (xo : Addr) (xt xw : Int32) (d1 d2 : UInt64) (xc xk : Addr) (u0 u1 u2 u3 u4 u5 : Value) (L' : List (Addr × (Cell → Prop))) (H0 : OL n0 h0 ((xo, OO Z "com/example/palamedes/palamedes/lda/TopicModel" [("com/example/palamedes/palamedes/lda/TopicModel", "topics", "I", u0), ("com/example/palamedes/palamedes/lda/TopicModel", "words", "I", u1), ("com/example/palamedes/palamedes/lda/TopicModel", "alpha", "D", u2), ("com/example/palamedes/palamedes/lda/TopicModel", "beta", "D", u3), ("com/example/palamedes/palamedes/lda/TopicModel", "wordTopicCounts", "[I", u4), ("com/example/palamedes/palamedes/lda/TopicModel", "topicCounts", "[I", u5)]) :: L')) :
    OC l Z (⟨"com/example/palamedes/palamedes/lda/TopicModel", "<init>", "(IIDD[I[I)V"⟩ : MethodName) prog_43_method_1_code 9 none ws ({ frames := 1, cells := 0, slots := 0, locals := 12 } : Room) n0 #[(.ref xo), (.int xt), (.int xw), (.double d1), (.double d2), (.ref xc), (.ref xk)] h0 (fun r h => r = none ∧ OL n0 h ((xo, OO Z "com/example/palamedes/palamedes/lda/TopicModel" [("com/example/palamedes/palamedes/lda/TopicModel", "topics", "I", .int xt), ("com/example/palamedes/palamedes/lda/TopicModel", "words", "I", .int xw), ("com/example/palamedes/palamedes/lda/TopicModel", "alpha", "D", .double d1), ("com/example/palamedes/palamedes/lda/TopicModel", "beta", "D", .double d2), ("com/example/palamedes/palamedes/lda/TopicModel", "wordTopicCounts", "[I", .ref xc), ("com/example/palamedes/palamedes/lda/TopicModel", "topicCounts", "[I", .ref xk)]) :: L')) := by
  refine OC.of pn_0 hn0 #[.val (.ref xo), .val (.int xt), .val (.int xw), .val (.double d1), .second, .val (.double d2), .second, .val (.ref xc), .val (.ref xk)] (fun m => by first | (simp [entryFrame, mkF, argsToLocals, Value.category, maxLocals]; done) | rfl) ?_
  intro p e s m below meth cd0 T0 X0 Q' hQ
  refine o_aloadN X0 d1_0 rfl rfl 1 rfl ?_
  refine o_initO X0 d1_1 (hw _ (List.mem_of_getElem? (i := 8) rfl)) (hw _ (List.mem_of_getElem? (i := 9) rfl)) (hw _ (List.mem_of_getElem? (i := 10) rfl)) rfl (by decide) 0 (Nat.le_of_eq rfl) (by decide) 4 rfl ?_
  intro T1 X1
  refine o_aloadN X1 d1_4 rfl rfl 5 rfl ?_
  refine o_iloadN X1 d1_5 rfl 6 rfl ?_
  refine o_putF X1 H0 0 rfl d1_6 0 rfl (hw _ (List.mem_of_getElem? (i := 11) rfl)) (Or.inr ⟨(hw _ (List.mem_of_getElem? (i := 12) rfl)), rfl, rfl⟩) (hw _ (List.mem_of_getElem? (i := 3) rfl)) (ty := .int) (by decide) rfl rfl (oqS (slot_ne (C := "com/example/palamedes/palamedes/lda/TopicModel") (Or.inr (hw _ (List.mem_of_getElem? (i := 14) rfl))) (Or.inr (hw _ (List.mem_of_getElem? (i := 12) rfl))) (by show "words" ≠ "topics"; decide) (t := .int) (by show parseFieldDescriptor "I" = some .int; decide) (t' := .int) (by show parseFieldDescriptor "I" = some .int; decide)) (oqS (slot_ne (C := "com/example/palamedes/palamedes/lda/TopicModel") (Or.inr (hw _ (List.mem_of_getElem? (i := 16) rfl))) (Or.inr (hw _ (List.mem_of_getElem? (i := 12) rfl))) (by show "alpha" ≠ "topics"; decide) (t := .double) (by show parseFieldDescriptor "D" = some .double; decide) (t' := .int) (by show parseFieldDescriptor "I" = some .int; decide)) (oqS (slot_ne (C := "com/example/palamedes/palamedes/lda/TopicModel") (Or.inr (hw _ (List.mem_of_getElem? (i := 18) rfl))) (Or.inr (hw _ (List.mem_of_getElem? (i := 12) rfl))) (by show "beta" ≠ "topics"; decide) (t := .double) (by show parseFieldDescriptor "D" = some .double; decide) (t' := .int) (by show parseFieldDescriptor "I" = some .int; decide)) (oqS (slot_ne (C := "com/example/palamedes/palamedes/lda/TopicModel") (Or.inr (hw _ (List.mem_of_getElem? (i := 20) rfl))) (Or.inr (hw _ (List.mem_of_getElem? (i := 12) rfl))) (by show "wordTopicCounts" ≠ "topics"; decide) (t := (.array .int)) (by show parseFieldDescriptor "[I" = some (.array .int); decide) (t' := .int) (by show parseFieldDescriptor "I" = some .int; decide)) (oqS (slot_ne (C := "com/example/palamedes/palamedes/lda/TopicModel") (Or.inr (hw _ (List.mem_of_getElem? (i := 22) rfl))) (Or.inr (hw _ (List.mem_of_getElem? (i := 12) rfl))) (by show "topicCounts" ≠ "topics"; decide) (t := (.array .int)) (by show parseFieldDescriptor "[I" = some (.array .int); decide) (t' := .int) (by show parseFieldDescriptor "I" = some .int; decide)) oq0))))) 9 rfl ?_
  intro T2 h2 X2 H2
  replace H2 : OL n0 h2 ((xo, OO Z "com/example/palamedes/palamedes/lda/TopicModel" [("com/example/palamedes/palamedes/lda/TopicModel", "topics", "I", .int xt), ("com/example/palamedes/palamedes/lda/TopicModel", "words", "I", u1), ("com/example/palamedes/palamedes/lda/TopicModel", "alpha", "D", u2), ("com/example/palamedes/palamedes/lda/TopicModel", "beta", "D", u3), ("com/example/palamedes/palamedes/lda/TopicModel", "wordTopicCounts", "[I", u4), ("com/example/palamedes/palamedes/lda/TopicModel", "topicCounts", "[I", u5)]) :: L') := H2
  refine o_aloadN X2 d1_9 rfl rfl 10 rfl ?_
  refine o_iloadN X2 d1_10 rfl 11 rfl ?_
  refine o_putF X2 H2 0 rfl d1_11 1 rfl (hw _ (List.mem_of_getElem? (i := 13) rfl)) (Or.inr ⟨(hw _ (List.mem_of_getElem? (i := 14) rfl)), rfl, rfl⟩) (hw _ (List.mem_of_getElem? (i := 3) rfl)) (ty := .int) (by decide) rfl rfl (oqS (slot_ne (C := "com/example/palamedes/palamedes/lda/TopicModel") (Or.inr (hw _ (List.mem_of_getElem? (i := 12) rfl))) (Or.inr (hw _ (List.mem_of_getElem? (i := 14) rfl))) (by show "topics" ≠ "words"; decide) (t := .int) (by show parseFieldDescriptor "I" = some .int; decide) (t' := .int) (by show parseFieldDescriptor "I" = some .int; decide)) (oqS (slot_ne (C := "com/example/palamedes/palamedes/lda/TopicModel") (Or.inr (hw _ (List.mem_of_getElem? (i := 16) rfl))) (Or.inr (hw _ (List.mem_of_getElem? (i := 14) rfl))) (by show "alpha" ≠ "words"; decide) (t := .double) (by show parseFieldDescriptor "D" = some .double; decide) (t' := .int) (by show parseFieldDescriptor "I" = some .int; decide)) (oqS (slot_ne (C := "com/example/palamedes/palamedes/lda/TopicModel") (Or.inr (hw _ (List.mem_of_getElem? (i := 18) rfl))) (Or.inr (hw _ (List.mem_of_getElem? (i := 14) rfl))) (by show "beta" ≠ "words"; decide) (t := .double) (by show parseFieldDescriptor "D" = some .double; decide) (t' := .int) (by show parseFieldDescriptor "I" = some .int; decide)) (oqS (slot_ne (C := "com/example/palamedes/palamedes/lda/TopicModel") (Or.inr (hw _ (List.mem_of_getElem? (i := 20) rfl))) (Or.inr (hw _ (List.mem_of_getElem? (i := 14) rfl))) (by show "wordTopicCounts" ≠ "words"; decide) (t := (.array .int)) (by show parseFieldDescriptor "[I" = some (.array .int); decide) (t' := .int) (by show parseFieldDescriptor "I" = some .int; decide)) (oqS (slot_ne (C := "com/example/palamedes/palamedes/lda/TopicModel") (Or.inr (hw _ (List.mem_of_getElem? (i := 22) rfl))) (Or.inr (hw _ (List.mem_of_getElem? (i := 14) rfl))) (by show "topicCounts" ≠ "words"; decide) (t := (.array .int)) (by show parseFieldDescriptor "[I" = some (.array .int); decide) (t' := .int) (by show parseFieldDescriptor "I" = some .int; decide)) oq0))))) 14 rfl ?_
  intro T3 h3 X3 H3
  replace H3 : OL n0 h3 ((xo, OO Z "com/example/palamedes/palamedes/lda/TopicModel" [("com/example/palamedes/palamedes/lda/TopicModel", "topics", "I", .int xt), ("com/example/palamedes/palamedes/lda/TopicModel", "words", "I", .int xw), ("com/example/palamedes/palamedes/lda/TopicModel", "alpha", "D", u2), ("com/example/palamedes/palamedes/lda/TopicModel", "beta", "D", u3), ("com/example/palamedes/palamedes/lda/TopicModel", "wordTopicCounts", "[I", u4), ("com/example/palamedes/palamedes/lda/TopicModel", "topicCounts", "[I", u5)]) :: L') := H3
  refine o_aloadN X3 d1_14 rfl rfl 15 rfl ?_
  refine o_dloadN X3 d1_15 rfl 16 rfl ?_
  refine o_putF X3 H3 0 rfl d1_16 2 rfl (hw _ (List.mem_of_getElem? (i := 15) rfl)) (Or.inr ⟨(hw _ (List.mem_of_getElem? (i := 16) rfl)), rfl, rfl⟩) (hw _ (List.mem_of_getElem? (i := 3) rfl)) (ty := .double) (by decide) rfl rfl (oqS (slot_ne (C := "com/example/palamedes/palamedes/lda/TopicModel") (Or.inr (hw _ (List.mem_of_getElem? (i := 12) rfl))) (Or.inr (hw _ (List.mem_of_getElem? (i := 16) rfl))) (by show "topics" ≠ "alpha"; decide) (t := .int) (by show parseFieldDescriptor "I" = some .int; decide) (t' := .double) (by show parseFieldDescriptor "D" = some .double; decide)) (oqS (slot_ne (C := "com/example/palamedes/palamedes/lda/TopicModel") (Or.inr (hw _ (List.mem_of_getElem? (i := 14) rfl))) (Or.inr (hw _ (List.mem_of_getElem? (i := 16) rfl))) (by show "words" ≠ "alpha"; decide) (t := .int) (by show parseFieldDescriptor "I" = some .int; decide) (t' := .double) (by show parseFieldDescriptor "D" = some .double; decide)) (oqS (slot_ne (C := "com/example/palamedes/palamedes/lda/TopicModel") (Or.inr (hw _ (List.mem_of_getElem? (i := 18) rfl))) (Or.inr (hw _ (List.mem_of_getElem? (i := 16) rfl))) (by show "beta" ≠ "alpha"; decide) (t := .double) (by show parseFieldDescriptor "D" = some .double; decide) (t' := .double) (by show parseFieldDescriptor "D" = some .double; decide)) (oqS (slot_ne (C := "com/example/palamedes/palamedes/lda/TopicModel") (Or.inr (hw _ (List.mem_of_getElem? (i := 20) rfl))) (Or.inr (hw _ (List.mem_of_getElem? (i := 16) rfl))) (by show "wordTopicCounts" ≠ "alpha"; decide) (t := (.array .int)) (by show parseFieldDescriptor "[I" = some (.array .int); decide) (t' := .double) (by show parseFieldDescriptor "D" = some .double; decide)) (oqS (slot_ne (C := "com/example/palamedes/palamedes/lda/TopicModel") (Or.inr (hw _ (List.mem_of_getElem? (i := 22) rfl))) (Or.inr (hw _ (List.mem_of_getElem? (i := 16) rfl))) (by show "topicCounts" ≠ "alpha"; decide) (t := (.array .int)) (by show parseFieldDescriptor "[I" = some (.array .int); decide) (t' := .double) (by show parseFieldDescriptor "D" = some .double; decide)) oq0))))) 19 rfl ?_
  intro T4 h4 X4 H4
  replace H4 : OL n0 h4 ((xo, OO Z "com/example/palamedes/palamedes/lda/TopicModel" [("com/example/palamedes/palamedes/lda/TopicModel", "topics", "I", .int xt), ("com/example/palamedes/palamedes/lda/TopicModel", "words", "I", .int xw), ("com/example/palamedes/palamedes/lda/TopicModel", "alpha", "D", .double d1), ("com/example/palamedes/palamedes/lda/TopicModel", "beta", "D", u3), ("com/example/palamedes/palamedes/lda/TopicModel", "wordTopicCounts", "[I", u4), ("com/example/palamedes/palamedes/lda/TopicModel", "topicCounts", "[I", u5)]) :: L') := H4
  refine o_aloadN X4 d1_19 rfl rfl 20 rfl ?_
  refine o_dload X4 d1_20 rfl 22 rfl ?_
  refine o_putF X4 H4 0 rfl d1_22 3 rfl (hw _ (List.mem_of_getElem? (i := 17) rfl)) (Or.inr ⟨(hw _ (List.mem_of_getElem? (i := 18) rfl)), rfl, rfl⟩) (hw _ (List.mem_of_getElem? (i := 3) rfl)) (ty := .double) (by decide) rfl rfl (oqS (slot_ne (C := "com/example/palamedes/palamedes/lda/TopicModel") (Or.inr (hw _ (List.mem_of_getElem? (i := 12) rfl))) (Or.inr (hw _ (List.mem_of_getElem? (i := 18) rfl))) (by show "topics" ≠ "beta"; decide) (t := .int) (by show parseFieldDescriptor "I" = some .int; decide) (t' := .double) (by show parseFieldDescriptor "D" = some .double; decide)) (oqS (slot_ne (C := "com/example/palamedes/palamedes/lda/TopicModel") (Or.inr (hw _ (List.mem_of_getElem? (i := 14) rfl))) (Or.inr (hw _ (List.mem_of_getElem? (i := 18) rfl))) (by show "words" ≠ "beta"; decide) (t := .int) (by show parseFieldDescriptor "I" = some .int; decide) (t' := .double) (by show parseFieldDescriptor "D" = some .double; decide)) (oqS (slot_ne (C := "com/example/palamedes/palamedes/lda/TopicModel") (Or.inr (hw _ (List.mem_of_getElem? (i := 16) rfl))) (Or.inr (hw _ (List.mem_of_getElem? (i := 18) rfl))) (by show "alpha" ≠ "beta"; decide) (t := .double) (by show parseFieldDescriptor "D" = some .double; decide) (t' := .double) (by show parseFieldDescriptor "D" = some .double; decide)) (oqS (slot_ne (C := "com/example/palamedes/palamedes/lda/TopicModel") (Or.inr (hw _ (List.mem_of_getElem? (i := 20) rfl))) (Or.inr (hw _ (List.mem_of_getElem? (i := 18) rfl))) (by show "wordTopicCounts" ≠ "beta"; decide) (t := (.array .int)) (by show parseFieldDescriptor "[I" = some (.array .int); decide) (t' := .double) (by show parseFieldDescriptor "D" = some .double; decide)) (oqS (slot_ne (C := "com/example/palamedes/palamedes/lda/TopicModel") (Or.inr (hw _ (List.mem_of_getElem? (i := 22) rfl))) (Or.inr (hw _ (List.mem_of_getElem? (i := 18) rfl))) (by show "topicCounts" ≠ "beta"; decide) (t := (.array .int)) (by show parseFieldDescriptor "[I" = some (.array .int); decide) (t' := .double) (by show parseFieldDescriptor "D" = some .double; decide)) oq0))))) 25 rfl ?_
  intro T5 h5 X5 H5
  replace H5 : OL n0 h5 ((xo, OO Z "com/example/palamedes/palamedes/lda/TopicModel" [("com/example/palamedes/palamedes/lda/TopicModel", "topics", "I", .int xt), ("com/example/palamedes/palamedes/lda/TopicModel", "words", "I", .int xw), ("com/example/palamedes/palamedes/lda/TopicModel", "alpha", "D", .double d1), ("com/example/palamedes/palamedes/lda/TopicModel", "beta", "D", .double d2), ("com/example/palamedes/palamedes/lda/TopicModel", "wordTopicCounts", "[I", u4), ("com/example/palamedes/palamedes/lda/TopicModel", "topicCounts", "[I", u5)]) :: L') := H5
  refine o_aloadN X5 d1_25 rfl rfl 26 rfl ?_
  refine o_aload X5 d1_26 rfl rfl 28 rfl ?_
  refine o_putF X5 H5 0 rfl d1_28 4 rfl (hw _ (List.mem_of_getElem? (i := 19) rfl)) (Or.inr ⟨(hw _ (List.mem_of_getElem? (i := 20) rfl)), rfl, rfl⟩) (hw _ (List.mem_of_getElem? (i := 3) rfl)) (ty := (.array .int)) (by decide) rfl rfl (oqS (slot_ne (C := "com/example/palamedes/palamedes/lda/TopicModel") (Or.inr (hw _ (List.mem_of_getElem? (i := 12) rfl))) (Or.inr (hw _ (List.mem_of_getElem? (i := 20) rfl))) (by show "topics" ≠ "wordTopicCounts"; decide) (t := .int) (by show parseFieldDescriptor "I" = some .int; decide) (t' := (.array .int)) (by show parseFieldDescriptor "[I" = some (.array .int); decide)) (oqS (slot_ne (C := "com/example/palamedes/palamedes/lda/TopicModel") (Or.inr (hw _ (List.mem_of_getElem? (i := 14) rfl))) (Or.inr (hw _ (List.mem_of_getElem? (i := 20) rfl))) (by show "words" ≠ "wordTopicCounts"; decide) (t := .int) (by show parseFieldDescriptor "I" = some .int; decide) (t' := (.array .int)) (by show parseFieldDescriptor "[I" = some (.array .int); decide)) (oqS (slot_ne (C := "com/example/palamedes/palamedes/lda/TopicModel") (Or.inr (hw _ (List.mem_of_getElem? (i := 16) rfl))) (Or.inr (hw _ (List.mem_of_getElem? (i := 20) rfl))) (by show "alpha" ≠ "wordTopicCounts"; decide) (t := .double) (by show parseFieldDescriptor "D" = some .double; decide) (t' := (.array .int)) (by show parseFieldDescriptor "[I" = some (.array .int); decide)) (oqS (slot_ne (C := "com/example/palamedes/palamedes/lda/TopicModel") (Or.inr (hw _ (List.mem_of_getElem? (i := 18) rfl))) (Or.inr (hw _ (List.mem_of_getElem? (i := 20) rfl))) (by show "beta" ≠ "wordTopicCounts"; decide) (t := .double) (by show parseFieldDescriptor "D" = some .double; decide) (t' := (.array .int)) (by show parseFieldDescriptor "[I" = some (.array .int); decide)) (oqS (slot_ne (C := "com/example/palamedes/palamedes/lda/TopicModel") (Or.inr (hw _ (List.mem_of_getElem? (i := 22) rfl))) (Or.inr (hw _ (List.mem_of_getElem? (i := 20) rfl))) (by show "topicCounts" ≠ "wordTopicCounts"; decide) (t := (.array .int)) (by show parseFieldDescriptor "[I" = some (.array .int); decide) (t' := (.array .int)) (by show parseFieldDescriptor "[I" = some (.array .int); decide)) oq0))))) 31 rfl ?_
  intro T6 h6 X6 H6
  replace H6 : OL n0 h6 ((xo, OO Z "com/example/palamedes/palamedes/lda/TopicModel" [("com/example/palamedes/palamedes/lda/TopicModel", "topics", "I", .int xt), ("com/example/palamedes/palamedes/lda/TopicModel", "words", "I", .int xw), ("com/example/palamedes/palamedes/lda/TopicModel", "alpha", "D", .double d1), ("com/example/palamedes/palamedes/lda/TopicModel", "beta", "D", .double d2), ("com/example/palamedes/palamedes/lda/TopicModel", "wordTopicCounts", "[I", .ref xc), ("com/example/palamedes/palamedes/lda/TopicModel", "topicCounts", "[I", u5)]) :: L') := H6
  refine o_aloadN X6 d1_31 rfl rfl 32 rfl ?_
  refine o_aload X6 d1_32 rfl rfl 34 rfl ?_
  refine o_putF X6 H6 0 rfl d1_34 5 rfl (hw _ (List.mem_of_getElem? (i := 21) rfl)) (Or.inr ⟨(hw _ (List.mem_of_getElem? (i := 22) rfl)), rfl, rfl⟩) (hw _ (List.mem_of_getElem? (i := 3) rfl)) (ty := (.array .int)) (by decide) rfl rfl (oqS (slot_ne (C := "com/example/palamedes/palamedes/lda/TopicModel") (Or.inr (hw _ (List.mem_of_getElem? (i := 12) rfl))) (Or.inr (hw _ (List.mem_of_getElem? (i := 22) rfl))) (by show "topics" ≠ "topicCounts"; decide) (t := .int) (by show parseFieldDescriptor "I" = some .int; decide) (t' := (.array .int)) (by show parseFieldDescriptor "[I" = some (.array .int); decide)) (oqS (slot_ne (C := "com/example/palamedes/palamedes/lda/TopicModel") (Or.inr (hw _ (List.mem_of_getElem? (i := 14) rfl))) (Or.inr (hw _ (List.mem_of_getElem? (i := 22) rfl))) (by show "words" ≠ "topicCounts"; decide) (t := .int) (by show parseFieldDescriptor "I" = some .int; decide) (t' := (.array .int)) (by show parseFieldDescriptor "[I" = some (.array .int); decide)) (oqS (slot_ne (C := "com/example/palamedes/palamedes/lda/TopicModel") (Or.inr (hw _ (List.mem_of_getElem? (i := 16) rfl))) (Or.inr (hw _ (List.mem_of_getElem? (i := 22) rfl))) (by show "alpha" ≠ "topicCounts"; decide) (t := .double) (by show parseFieldDescriptor "D" = some .double; decide) (t' := (.array .int)) (by show parseFieldDescriptor "[I" = some (.array .int); decide)) (oqS (slot_ne (C := "com/example/palamedes/palamedes/lda/TopicModel") (Or.inr (hw _ (List.mem_of_getElem? (i := 18) rfl))) (Or.inr (hw _ (List.mem_of_getElem? (i := 22) rfl))) (by show "beta" ≠ "topicCounts"; decide) (t := .double) (by show parseFieldDescriptor "D" = some .double; decide) (t' := (.array .int)) (by show parseFieldDescriptor "[I" = some (.array .int); decide)) (oqS (slot_ne (C := "com/example/palamedes/palamedes/lda/TopicModel") (Or.inr (hw _ (List.mem_of_getElem? (i := 20) rfl))) (Or.inr (hw _ (List.mem_of_getElem? (i := 22) rfl))) (by show "wordTopicCounts" ≠ "topicCounts"; decide) (t := (.array .int)) (by show parseFieldDescriptor "[I" = some (.array .int); decide) (t' := (.array .int)) (by show parseFieldDescriptor "[I" = some (.array .int); decide)) oq0))))) 37 rfl ?_
  intro T7 h7 X7 H7
  replace H7 : OL n0 h7 ((xo, OO Z "com/example/palamedes/palamedes/lda/TopicModel" [("com/example/palamedes/palamedes/lda/TopicModel", "topics", "I", .int xt), ("com/example/palamedes/palamedes/lda/TopicModel", "words", "I", .int xw), ("com/example/palamedes/palamedes/lda/TopicModel", "alpha", "D", .double d1), ("com/example/palamedes/palamedes/lda/TopicModel", "beta", "D", .double d2), ("com/example/palamedes/palamedes/lda/TopicModel", "wordTopicCounts", "[I", .ref xc), ("com/example/palamedes/palamedes/lda/TopicModel", "topicCounts", "[I", .ref xk)]) :: L') := H7
  exact o_ret X7 d1_37 (by decide) (by decide) (hQ _ _ ⟨rfl, H7⟩)
set_option maxRecDepth 65536 in
set_option maxHeartbeats 40000000 in
theorem c_wt_1_0 (l : Launch) (Z : State) (a0 : Array Value) (hw : ∀ d ∈ tables_1, d.before a0 Z = true) (ws : List Jvm.Cond) (n0 : Nat) (h0 : Heap) (hn0 : n0 ≤ h0.size) (xo xc xk : Addr) (xw : Int32) (d1 d2 : UInt64) (y0 y1 y2 y3 y4 y5 y6 y7 y8 y9 y10 y11 : Int32) (L' : List (Addr × (Cell → Prop))) (H0 : OL n0 h0 ((xo, OO Z "com/example/palamedes/palamedes/lda/TopicModel" [("com/example/palamedes/palamedes/lda/TopicModel", "topics", "I", .int (1 : Int32)), ("com/example/palamedes/palamedes/lda/TopicModel", "words", "I", .int xw), ("com/example/palamedes/palamedes/lda/TopicModel", "alpha", "D", .double d1), ("com/example/palamedes/palamedes/lda/TopicModel", "beta", "D", .double d2), ("com/example/palamedes/palamedes/lda/TopicModel", "wordTopicCounts", "[I", .ref xc), ("com/example/palamedes/palamedes/lda/TopicModel", "topicCounts", "[I", .ref xk)]) :: (xc, OA Z .int [y0, y1, y2, y3, y4, y5, y6, y7, y8, y9, y10, y11]) :: L')) :
    OC l Z (⟨"com/example/palamedes/palamedes/lda/TopicModel", "wordTokens", "(I)J"⟩ : MethodName) prog_43_method_6_code 5 (some .long) ws ({ frames := 0, cells := 0, slots := 0, locals := 0 } : Room) n0 #[(.ref xo), (.int (0 : Int32))] h0 (fun r h => r = some (.long ((0 : Int64) + (Int32.toInt64 y0))) ∧ h0 = h) := by
  refine OC.of pn_0 hn0 #[.val (.ref xo), .val (.int (0 : Int32)), .unset, .unset, .unset] (fun m => by first | (simp [entryFrame, mkF, argsToLocals, Value.category, maxLocals]; done) | rfl) ?_
  intro p e s m below meth cd0 T0 X0 Q' hQ
  refine o_lconst (v := (0 : Int64)) X0 d3_0 rfl 1 rfl ?_
  refine o_lstoreN X0 d3_1 #[.val (.ref xo), .val (.int (0 : Int32)), .val (.long (0 : Int64)), .second, .unset] rfl 2 rfl ?_
  refine o_iconst (v := (0 : Int32)) X0 d3_2 rfl 3 rfl ?_
  refine o_istore X0 d3_3 #[.val (.ref xo), .val (.int (0 : Int32)), .val (.long (0 : Int64)), .second, .val (.int (0 : Int32))] rfl 5 rfl ?_
  refine o_iload X0 d3_5 rfl 7 rfl ?_
  refine o_aloadN X0 d3_7 rfl rfl 8 rfl ?_
  refine o_getF X0 H0 0 rfl d3_8 0 rfl (hw _ (List.mem_of_getElem? (i := 11) rfl)) 11 rfl ?_
  intro T1 X1
  refine o_icmpGe X1 d3_11 38 14 (by decide) (by decide) rfl (fun q => by exfalso; exact absurd q (by decide)) ?_
  intro hc11
  refine o_lloadN X1 d3_14 rfl 15 rfl ?_
  refine o_aloadN X1 d3_15 rfl rfl 16 rfl ?_
  refine o_getF X1 H0 0 rfl d3_16 4 rfl (hw _ (List.mem_of_getElem? (i := 19) rfl)) 19 rfl ?_
  intro T2 X2
  refine o_iloadN X2 d3_19 rfl 20 rfl ?_
  refine o_aloadN X2 d3_20 rfl rfl 21 rfl ?_
  refine o_getF X2 H0 0 rfl d3_21 0 rfl (hw _ (List.mem_of_getElem? (i := 11) rfl)) 24 rfl ?_
  intro T3 X3
  refine o_imul X3 d3_24 25 rfl ?_
  refine o_iload X3 d3_25 rfl 27 rfl ?_
  refine o_iadd X3 d3_27 28 rfl ?_
  refine o_iaload X3 H0 1 rfl d3_28 0 rfl y0 rfl 29 rfl ?_
  refine o_i2l X3 d3_29 30 rfl ?_
  refine o_ladd X3 d3_30 31 rfl ?_
  refine o_lstoreN X3 d3_31 #[.val (.ref xo), .val (.int (0 : Int32)), .val (.long ((0 : Int64) + (Int32.toInt64 y0))), .second, .val (.int (0 : Int32))] rfl 32 rfl ?_
  refine o_iinc (v := (0 : Int32)) (w := (1 : Int32)) X3 d3_32 rfl rfl #[.val (.ref xo), .val (.int (0 : Int32)), .val (.long ((0 : Int64) + (Int32.toInt64 y0))), .second, .val (.int (1 : Int32))] rfl 35 rfl ?_
  refine o_goto X3 d3_35 5 (by decide) (by decide) ?_
  refine o_iload X3 d3_5 rfl 7 rfl ?_
  refine o_aloadN X3 d3_7 rfl rfl 8 rfl ?_
  refine o_getF X3 H0 0 rfl d3_8 0 rfl (hw _ (List.mem_of_getElem? (i := 11) rfl)) 11 rfl ?_
  intro T4 X4
  refine o_icmpGe X4 d3_11 38 14 (by decide) (by decide) rfl ?_ (fun q => by exfalso; exact absurd q (by decide))
  intro hc11_1
  refine o_lloadN X4 d3_38 rfl 39 rfl ?_
  exact o_retJ X4 d3_39 (by decide) (by decide) (hQ _ _ ⟨rfl, rfl⟩)
set_option maxRecDepth 65536 in
set_option maxHeartbeats 40000000 in
theorem c_wt_1_1 (l : Launch) (Z : State) (a0 : Array Value) (hw : ∀ d ∈ tables_1, d.before a0 Z = true) (ws : List Jvm.Cond) (n0 : Nat) (h0 : Heap) (hn0 : n0 ≤ h0.size) (xo xc xk : Addr) (xw : Int32) (d1 d2 : UInt64) (y0 y1 y2 y3 y4 y5 y6 y7 y8 y9 y10 y11 : Int32) (L' : List (Addr × (Cell → Prop))) (H0 : OL n0 h0 ((xo, OO Z "com/example/palamedes/palamedes/lda/TopicModel" [("com/example/palamedes/palamedes/lda/TopicModel", "topics", "I", .int (1 : Int32)), ("com/example/palamedes/palamedes/lda/TopicModel", "words", "I", .int xw), ("com/example/palamedes/palamedes/lda/TopicModel", "alpha", "D", .double d1), ("com/example/palamedes/palamedes/lda/TopicModel", "beta", "D", .double d2), ("com/example/palamedes/palamedes/lda/TopicModel", "wordTopicCounts", "[I", .ref xc), ("com/example/palamedes/palamedes/lda/TopicModel", "topicCounts", "[I", .ref xk)]) :: (xc, OA Z .int [y0, y1, y2, y3, y4, y5, y6, y7, y8, y9, y10, y11]) :: L')) :
    OC l Z (⟨"com/example/palamedes/palamedes/lda/TopicModel", "wordTokens", "(I)J"⟩ : MethodName) prog_43_method_6_code 5 (some .long) ws ({ frames := 0, cells := 0, slots := 0, locals := 0 } : Room) n0 #[(.ref xo), (.int (1 : Int32))] h0 (fun r h => r = some (.long ((0 : Int64) + (Int32.toInt64 y1))) ∧ h0 = h) := by
  refine OC.of pn_0 hn0 #[.val (.ref xo), .val (.int (1 : Int32)), .unset, .unset, .unset] (fun m => by first | (simp [entryFrame, mkF, argsToLocals, Value.category, maxLocals]; done) | rfl) ?_
  intro p e s m below meth cd0 T0 X0 Q' hQ
  refine o_lconst (v := (0 : Int64)) X0 d3_0 rfl 1 rfl ?_
  refine o_lstoreN X0 d3_1 #[.val (.ref xo), .val (.int (1 : Int32)), .val (.long (0 : Int64)), .second, .unset] rfl 2 rfl ?_
  refine o_iconst (v := (0 : Int32)) X0 d3_2 rfl 3 rfl ?_
  refine o_istore X0 d3_3 #[.val (.ref xo), .val (.int (1 : Int32)), .val (.long (0 : Int64)), .second, .val (.int (0 : Int32))] rfl 5 rfl ?_
  refine o_iload X0 d3_5 rfl 7 rfl ?_
  refine o_aloadN X0 d3_7 rfl rfl 8 rfl ?_
  refine o_getF X0 H0 0 rfl d3_8 0 rfl (hw _ (List.mem_of_getElem? (i := 11) rfl)) 11 rfl ?_
  intro T1 X1
  refine o_icmpGe X1 d3_11 38 14 (by decide) (by decide) rfl (fun q => by exfalso; exact absurd q (by decide)) ?_
  intro hc11
  refine o_lloadN X1 d3_14 rfl 15 rfl ?_
  refine o_aloadN X1 d3_15 rfl rfl 16 rfl ?_
  refine o_getF X1 H0 0 rfl d3_16 4 rfl (hw _ (List.mem_of_getElem? (i := 19) rfl)) 19 rfl ?_
  intro T2 X2
  refine o_iloadN X2 d3_19 rfl 20 rfl ?_
  refine o_aloadN X2 d3_20 rfl rfl 21 rfl ?_
  refine o_getF X2 H0 0 rfl d3_21 0 rfl (hw _ (List.mem_of_getElem? (i := 11) rfl)) 24 rfl ?_
  intro T3 X3
  refine o_imul X3 d3_24 25 rfl ?_
  refine o_iload X3 d3_25 rfl 27 rfl ?_
  refine o_iadd X3 d3_27 28 rfl ?_
  refine o_iaload X3 H0 1 rfl d3_28 1 rfl y1 rfl 29 rfl ?_
  refine o_i2l X3 d3_29 30 rfl ?_
  refine o_ladd X3 d3_30 31 rfl ?_
  refine o_lstoreN X3 d3_31 #[.val (.ref xo), .val (.int (1 : Int32)), .val (.long ((0 : Int64) + (Int32.toInt64 y1))), .second, .val (.int (0 : Int32))] rfl 32 rfl ?_
  refine o_iinc (v := (0 : Int32)) (w := (1 : Int32)) X3 d3_32 rfl rfl #[.val (.ref xo), .val (.int (1 : Int32)), .val (.long ((0 : Int64) + (Int32.toInt64 y1))), .second, .val (.int (1 : Int32))] rfl 35 rfl ?_
  refine o_goto X3 d3_35 5 (by decide) (by decide) ?_
  refine o_iload X3 d3_5 rfl 7 rfl ?_
  refine o_aloadN X3 d3_7 rfl rfl 8 rfl ?_
  refine o_getF X3 H0 0 rfl d3_8 0 rfl (hw _ (List.mem_of_getElem? (i := 11) rfl)) 11 rfl ?_
  intro T4 X4
  refine o_icmpGe X4 d3_11 38 14 (by decide) (by decide) rfl ?_ (fun q => by exfalso; exact absurd q (by decide))
  intro hc11_1
  refine o_lloadN X4 d3_38 rfl 39 rfl ?_
  exact o_retJ X4 d3_39 (by decide) (by decide) (hQ _ _ ⟨rfl, rfl⟩)
set_option maxRecDepth 65536 in
set_option maxHeartbeats 40000000 in
theorem c_wt_1_2 (l : Launch) (Z : State) (a0 : Array Value) (hw : ∀ d ∈ tables_1, d.before a0 Z = true) (ws : List Jvm.Cond) (n0 : Nat) (h0 : Heap) (hn0 : n0 ≤ h0.size) (xo xc xk : Addr) (xw : Int32) (d1 d2 : UInt64) (y0 y1 y2 y3 y4 y5 y6 y7 y8 y9 y10 y11 : Int32) (L' : List (Addr × (Cell → Prop))) (H0 : OL n0 h0 ((xo, OO Z "com/example/palamedes/palamedes/lda/TopicModel" [("com/example/palamedes/palamedes/lda/TopicModel", "topics", "I", .int (1 : Int32)), ("com/example/palamedes/palamedes/lda/TopicModel", "words", "I", .int xw), ("com/example/palamedes/palamedes/lda/TopicModel", "alpha", "D", .double d1), ("com/example/palamedes/palamedes/lda/TopicModel", "beta", "D", .double d2), ("com/example/palamedes/palamedes/lda/TopicModel", "wordTopicCounts", "[I", .ref xc), ("com/example/palamedes/palamedes/lda/TopicModel", "topicCounts", "[I", .ref xk)]) :: (xc, OA Z .int [y0, y1, y2, y3, y4, y5, y6, y7, y8, y9, y10, y11]) :: L')) :
    OC l Z (⟨"com/example/palamedes/palamedes/lda/TopicModel", "wordTokens", "(I)J"⟩ : MethodName) prog_43_method_6_code 5 (some .long) ws ({ frames := 0, cells := 0, slots := 0, locals := 0 } : Room) n0 #[(.ref xo), (.int (2 : Int32))] h0 (fun r h => r = some (.long ((0 : Int64) + (Int32.toInt64 y2))) ∧ h0 = h) := by
  refine OC.of pn_0 hn0 #[.val (.ref xo), .val (.int (2 : Int32)), .unset, .unset, .unset] (fun m => by first | (simp [entryFrame, mkF, argsToLocals, Value.category, maxLocals]; done) | rfl) ?_
  intro p e s m below meth cd0 T0 X0 Q' hQ
  refine o_lconst (v := (0 : Int64)) X0 d3_0 rfl 1 rfl ?_
  refine o_lstoreN X0 d3_1 #[.val (.ref xo), .val (.int (2 : Int32)), .val (.long (0 : Int64)), .second, .unset] rfl 2 rfl ?_
  refine o_iconst (v := (0 : Int32)) X0 d3_2 rfl 3 rfl ?_
  refine o_istore X0 d3_3 #[.val (.ref xo), .val (.int (2 : Int32)), .val (.long (0 : Int64)), .second, .val (.int (0 : Int32))] rfl 5 rfl ?_
  refine o_iload X0 d3_5 rfl 7 rfl ?_
  refine o_aloadN X0 d3_7 rfl rfl 8 rfl ?_
  refine o_getF X0 H0 0 rfl d3_8 0 rfl (hw _ (List.mem_of_getElem? (i := 11) rfl)) 11 rfl ?_
  intro T1 X1
  refine o_icmpGe X1 d3_11 38 14 (by decide) (by decide) rfl (fun q => by exfalso; exact absurd q (by decide)) ?_
  intro hc11
  refine o_lloadN X1 d3_14 rfl 15 rfl ?_
  refine o_aloadN X1 d3_15 rfl rfl 16 rfl ?_
  refine o_getF X1 H0 0 rfl d3_16 4 rfl (hw _ (List.mem_of_getElem? (i := 19) rfl)) 19 rfl ?_
  intro T2 X2
  refine o_iloadN X2 d3_19 rfl 20 rfl ?_
  refine o_aloadN X2 d3_20 rfl rfl 21 rfl ?_
  refine o_getF X2 H0 0 rfl d3_21 0 rfl (hw _ (List.mem_of_getElem? (i := 11) rfl)) 24 rfl ?_
  intro T3 X3
  refine o_imul X3 d3_24 25 rfl ?_
  refine o_iload X3 d3_25 rfl 27 rfl ?_
  refine o_iadd X3 d3_27 28 rfl ?_
  refine o_iaload X3 H0 1 rfl d3_28 2 rfl y2 rfl 29 rfl ?_
  refine o_i2l X3 d3_29 30 rfl ?_
  refine o_ladd X3 d3_30 31 rfl ?_
  refine o_lstoreN X3 d3_31 #[.val (.ref xo), .val (.int (2 : Int32)), .val (.long ((0 : Int64) + (Int32.toInt64 y2))), .second, .val (.int (0 : Int32))] rfl 32 rfl ?_
  refine o_iinc (v := (0 : Int32)) (w := (1 : Int32)) X3 d3_32 rfl rfl #[.val (.ref xo), .val (.int (2 : Int32)), .val (.long ((0 : Int64) + (Int32.toInt64 y2))), .second, .val (.int (1 : Int32))] rfl 35 rfl ?_
  refine o_goto X3 d3_35 5 (by decide) (by decide) ?_
  refine o_iload X3 d3_5 rfl 7 rfl ?_
  refine o_aloadN X3 d3_7 rfl rfl 8 rfl ?_
  refine o_getF X3 H0 0 rfl d3_8 0 rfl (hw _ (List.mem_of_getElem? (i := 11) rfl)) 11 rfl ?_
  intro T4 X4
  refine o_icmpGe X4 d3_11 38 14 (by decide) (by decide) rfl ?_ (fun q => by exfalso; exact absurd q (by decide))
  intro hc11_1
  refine o_lloadN X4 d3_38 rfl 39 rfl ?_
  exact o_retJ X4 d3_39 (by decide) (by decide) (hQ _ _ ⟨rfl, rfl⟩)
set_option maxRecDepth 65536 in
set_option maxHeartbeats 40000000 in
theorem c_wt_2_0 (l : Launch) (Z : State) (a0 : Array Value) (hw : ∀ d ∈ tables_1, d.before a0 Z = true) (ws : List Jvm.Cond) (n0 : Nat) (h0 : Heap) (hn0 : n0 ≤ h0.size) (xo xc xk : Addr) (xw : Int32) (d1 d2 : UInt64) (y0 y1 y2 y3 y4 y5 y6 y7 y8 y9 y10 y11 : Int32) (L' : List (Addr × (Cell → Prop))) (H0 : OL n0 h0 ((xo, OO Z "com/example/palamedes/palamedes/lda/TopicModel" [("com/example/palamedes/palamedes/lda/TopicModel", "topics", "I", .int (2 : Int32)), ("com/example/palamedes/palamedes/lda/TopicModel", "words", "I", .int xw), ("com/example/palamedes/palamedes/lda/TopicModel", "alpha", "D", .double d1), ("com/example/palamedes/palamedes/lda/TopicModel", "beta", "D", .double d2), ("com/example/palamedes/palamedes/lda/TopicModel", "wordTopicCounts", "[I", .ref xc), ("com/example/palamedes/palamedes/lda/TopicModel", "topicCounts", "[I", .ref xk)]) :: (xc, OA Z .int [y0, y1, y2, y3, y4, y5, y6, y7, y8, y9, y10, y11]) :: L')) :
    OC l Z (⟨"com/example/palamedes/palamedes/lda/TopicModel", "wordTokens", "(I)J"⟩ : MethodName) prog_43_method_6_code 5 (some .long) ws ({ frames := 0, cells := 0, slots := 0, locals := 0 } : Room) n0 #[(.ref xo), (.int (0 : Int32))] h0 (fun r h => r = some (.long (((0 : Int64) + (Int32.toInt64 y0)) + (Int32.toInt64 y1))) ∧ h0 = h) := by
  refine OC.of pn_0 hn0 #[.val (.ref xo), .val (.int (0 : Int32)), .unset, .unset, .unset] (fun m => by first | (simp [entryFrame, mkF, argsToLocals, Value.category, maxLocals]; done) | rfl) ?_
  intro p e s m below meth cd0 T0 X0 Q' hQ
  refine o_lconst (v := (0 : Int64)) X0 d3_0 rfl 1 rfl ?_
  refine o_lstoreN X0 d3_1 #[.val (.ref xo), .val (.int (0 : Int32)), .val (.long (0 : Int64)), .second, .unset] rfl 2 rfl ?_
  refine o_iconst (v := (0 : Int32)) X0 d3_2 rfl 3 rfl ?_
  refine o_istore X0 d3_3 #[.val (.ref xo), .val (.int (0 : Int32)), .val (.long (0 : Int64)), .second, .val (.int (0 : Int32))] rfl 5 rfl ?_
  refine o_iload X0 d3_5 rfl 7 rfl ?_
  refine o_aloadN X0 d3_7 rfl rfl 8 rfl ?_
  refine o_getF X0 H0 0 rfl d3_8 0 rfl (hw _ (List.mem_of_getElem? (i := 11) rfl)) 11 rfl ?_
  intro T1 X1
  refine o_icmpGe X1 d3_11 38 14 (by decide) (by decide) rfl (fun q => by exfalso; exact absurd q (by decide)) ?_
  intro hc11
  refine o_lloadN X1 d3_14 rfl 15 rfl ?_
  refine o_aloadN X1 d3_15 rfl rfl 16 rfl ?_
  refine o_getF X1 H0 0 rfl d3_16 4 rfl (hw _ (List.mem_of_getElem? (i := 19) rfl)) 19 rfl ?_
  intro T2 X2
  refine o_iloadN X2 d3_19 rfl 20 rfl ?_
  refine o_aloadN X2 d3_20 rfl rfl 21 rfl ?_
  refine o_getF X2 H0 0 rfl d3_21 0 rfl (hw _ (List.mem_of_getElem? (i := 11) rfl)) 24 rfl ?_
  intro T3 X3
  refine o_imul X3 d3_24 25 rfl ?_
  refine o_iload X3 d3_25 rfl 27 rfl ?_
  refine o_iadd X3 d3_27 28 rfl ?_
  refine o_iaload X3 H0 1 rfl d3_28 0 rfl y0 rfl 29 rfl ?_
  refine o_i2l X3 d3_29 30 rfl ?_
  refine o_ladd X3 d3_30 31 rfl ?_
  refine o_lstoreN X3 d3_31 #[.val (.ref xo), .val (.int (0 : Int32)), .val (.long ((0 : Int64) + (Int32.toInt64 y0))), .second, .val (.int (0 : Int32))] rfl 32 rfl ?_
  refine o_iinc (v := (0 : Int32)) (w := (1 : Int32)) X3 d3_32 rfl rfl #[.val (.ref xo), .val (.int (0 : Int32)), .val (.long ((0 : Int64) + (Int32.toInt64 y0))), .second, .val (.int (1 : Int32))] rfl 35 rfl ?_
  refine o_goto X3 d3_35 5 (by decide) (by decide) ?_
  refine o_iload X3 d3_5 rfl 7 rfl ?_
  refine o_aloadN X3 d3_7 rfl rfl 8 rfl ?_
  refine o_getF X3 H0 0 rfl d3_8 0 rfl (hw _ (List.mem_of_getElem? (i := 11) rfl)) 11 rfl ?_
  intro T4 X4
  refine o_icmpGe X4 d3_11 38 14 (by decide) (by decide) rfl (fun q => by exfalso; exact absurd q (by decide)) ?_
  intro hc11_1
  refine o_lloadN X4 d3_14 rfl 15 rfl ?_
  refine o_aloadN X4 d3_15 rfl rfl 16 rfl ?_
  refine o_getF X4 H0 0 rfl d3_16 4 rfl (hw _ (List.mem_of_getElem? (i := 19) rfl)) 19 rfl ?_
  intro T5 X5
  refine o_iloadN X5 d3_19 rfl 20 rfl ?_
  refine o_aloadN X5 d3_20 rfl rfl 21 rfl ?_
  refine o_getF X5 H0 0 rfl d3_21 0 rfl (hw _ (List.mem_of_getElem? (i := 11) rfl)) 24 rfl ?_
  intro T6 X6
  refine o_imul X6 d3_24 25 rfl ?_
  refine o_iload X6 d3_25 rfl 27 rfl ?_
  refine o_iadd X6 d3_27 28 rfl ?_
  refine o_iaload X6 H0 1 rfl d3_28 1 rfl y1 rfl 29 rfl ?_
  refine o_i2l X6 d3_29 30 rfl ?_
  refine o_ladd X6 d3_30 31 rfl ?_
  refine o_lstoreN X6 d3_31 #[.val (.ref xo), .val (.int (0 : Int32)), .val (.long (((0 : Int64) + (Int32.toInt64 y0)) + (Int32.toInt64 y1))), .second, .val (.int (1 : Int32))] rfl 32 rfl ?_
  refine o_iinc (v := (1 : Int32)) (w := (2 : Int32)) X6 d3_32 rfl rfl #[.val (.ref xo), .val (.int (0 : Int32)), .val (.long (((0 : Int64) + (Int32.toInt64 y0)) + (Int32.toInt64 y1))), .second, .val (.int (2 : Int32))] rfl 35 rfl ?_
  refine o_goto X6 d3_35 5 (by decide) (by decide) ?_
  refine o_iload X6 d3_5 rfl 7 rfl ?_
  refine o_aloadN X6 d3_7 rfl rfl 8 rfl ?_
  refine o_getF X6 H0 0 rfl d3_8 0 rfl (hw _ (List.mem_of_getElem? (i := 11) rfl)) 11 rfl ?_
  intro T7 X7
  refine o_icmpGe X7 d3_11 38 14 (by decide) (by decide) rfl ?_ (fun q => by exfalso; exact absurd q (by decide))
  intro hc11_2
  refine o_lloadN X7 d3_38 rfl 39 rfl ?_
  exact o_retJ X7 d3_39 (by decide) (by decide) (hQ _ _ ⟨rfl, rfl⟩)
set_option maxRecDepth 65536 in
set_option maxHeartbeats 40000000 in
theorem c_wt_2_1 (l : Launch) (Z : State) (a0 : Array Value) (hw : ∀ d ∈ tables_1, d.before a0 Z = true) (ws : List Jvm.Cond) (n0 : Nat) (h0 : Heap) (hn0 : n0 ≤ h0.size) (xo xc xk : Addr) (xw : Int32) (d1 d2 : UInt64) (y0 y1 y2 y3 y4 y5 y6 y7 y8 y9 y10 y11 : Int32) (L' : List (Addr × (Cell → Prop))) (H0 : OL n0 h0 ((xo, OO Z "com/example/palamedes/palamedes/lda/TopicModel" [("com/example/palamedes/palamedes/lda/TopicModel", "topics", "I", .int (2 : Int32)), ("com/example/palamedes/palamedes/lda/TopicModel", "words", "I", .int xw), ("com/example/palamedes/palamedes/lda/TopicModel", "alpha", "D", .double d1), ("com/example/palamedes/palamedes/lda/TopicModel", "beta", "D", .double d2), ("com/example/palamedes/palamedes/lda/TopicModel", "wordTopicCounts", "[I", .ref xc), ("com/example/palamedes/palamedes/lda/TopicModel", "topicCounts", "[I", .ref xk)]) :: (xc, OA Z .int [y0, y1, y2, y3, y4, y5, y6, y7, y8, y9, y10, y11]) :: L')) :
    OC l Z (⟨"com/example/palamedes/palamedes/lda/TopicModel", "wordTokens", "(I)J"⟩ : MethodName) prog_43_method_6_code 5 (some .long) ws ({ frames := 0, cells := 0, slots := 0, locals := 0 } : Room) n0 #[(.ref xo), (.int (1 : Int32))] h0 (fun r h => r = some (.long (((0 : Int64) + (Int32.toInt64 y2)) + (Int32.toInt64 y3))) ∧ h0 = h) := by
  refine OC.of pn_0 hn0 #[.val (.ref xo), .val (.int (1 : Int32)), .unset, .unset, .unset] (fun m => by first | (simp [entryFrame, mkF, argsToLocals, Value.category, maxLocals]; done) | rfl) ?_
  intro p e s m below meth cd0 T0 X0 Q' hQ
  refine o_lconst (v := (0 : Int64)) X0 d3_0 rfl 1 rfl ?_
  refine o_lstoreN X0 d3_1 #[.val (.ref xo), .val (.int (1 : Int32)), .val (.long (0 : Int64)), .second, .unset] rfl 2 rfl ?_
  refine o_iconst (v := (0 : Int32)) X0 d3_2 rfl 3 rfl ?_
  refine o_istore X0 d3_3 #[.val (.ref xo), .val (.int (1 : Int32)), .val (.long (0 : Int64)), .second, .val (.int (0 : Int32))] rfl 5 rfl ?_
  refine o_iload X0 d3_5 rfl 7 rfl ?_
  refine o_aloadN X0 d3_7 rfl rfl 8 rfl ?_
  refine o_getF X0 H0 0 rfl d3_8 0 rfl (hw _ (List.mem_of_getElem? (i := 11) rfl)) 11 rfl ?_
  intro T1 X1
  refine o_icmpGe X1 d3_11 38 14 (by decide) (by decide) rfl (fun q => by exfalso; exact absurd q (by decide)) ?_
  intro hc11
  refine o_lloadN X1 d3_14 rfl 15 rfl ?_
  refine o_aloadN X1 d3_15 rfl rfl 16 rfl ?_
  refine o_getF X1 H0 0 rfl d3_16 4 rfl (hw _ (List.mem_of_getElem? (i := 19) rfl)) 19 rfl ?_
  intro T2 X2
  refine o_iloadN X2 d3_19 rfl 20 rfl ?_
  refine o_aloadN X2 d3_20 rfl rfl 21 rfl ?_
  refine o_getF X2 H0 0 rfl d3_21 0 rfl (hw _ (List.mem_of_getElem? (i := 11) rfl)) 24 rfl ?_
  intro T3 X3
  refine o_imul X3 d3_24 25 rfl ?_
  refine o_iload X3 d3_25 rfl 27 rfl ?_
  refine o_iadd X3 d3_27 28 rfl ?_
  refine o_iaload X3 H0 1 rfl d3_28 2 rfl y2 rfl 29 rfl ?_
  refine o_i2l X3 d3_29 30 rfl ?_
  refine o_ladd X3 d3_30 31 rfl ?_
  refine o_lstoreN X3 d3_31 #[.val (.ref xo), .val (.int (1 : Int32)), .val (.long ((0 : Int64) + (Int32.toInt64 y2))), .second, .val (.int (0 : Int32))] rfl 32 rfl ?_
  refine o_iinc (v := (0 : Int32)) (w := (1 : Int32)) X3 d3_32 rfl rfl #[.val (.ref xo), .val (.int (1 : Int32)), .val (.long ((0 : Int64) + (Int32.toInt64 y2))), .second, .val (.int (1 : Int32))] rfl 35 rfl ?_
  refine o_goto X3 d3_35 5 (by decide) (by decide) ?_
  refine o_iload X3 d3_5 rfl 7 rfl ?_
  refine o_aloadN X3 d3_7 rfl rfl 8 rfl ?_
  refine o_getF X3 H0 0 rfl d3_8 0 rfl (hw _ (List.mem_of_getElem? (i := 11) rfl)) 11 rfl ?_
  intro T4 X4
  refine o_icmpGe X4 d3_11 38 14 (by decide) (by decide) rfl (fun q => by exfalso; exact absurd q (by decide)) ?_
  intro hc11_1
  refine o_lloadN X4 d3_14 rfl 15 rfl ?_
  refine o_aloadN X4 d3_15 rfl rfl 16 rfl ?_
  refine o_getF X4 H0 0 rfl d3_16 4 rfl (hw _ (List.mem_of_getElem? (i := 19) rfl)) 19 rfl ?_
  intro T5 X5
  refine o_iloadN X5 d3_19 rfl 20 rfl ?_
  refine o_aloadN X5 d3_20 rfl rfl 21 rfl ?_
  refine o_getF X5 H0 0 rfl d3_21 0 rfl (hw _ (List.mem_of_getElem? (i := 11) rfl)) 24 rfl ?_
  intro T6 X6
  refine o_imul X6 d3_24 25 rfl ?_
  refine o_iload X6 d3_25 rfl 27 rfl ?_
  refine o_iadd X6 d3_27 28 rfl ?_
  refine o_iaload X6 H0 1 rfl d3_28 3 rfl y3 rfl 29 rfl ?_
  refine o_i2l X6 d3_29 30 rfl ?_
  refine o_ladd X6 d3_30 31 rfl ?_
  refine o_lstoreN X6 d3_31 #[.val (.ref xo), .val (.int (1 : Int32)), .val (.long (((0 : Int64) + (Int32.toInt64 y2)) + (Int32.toInt64 y3))), .second, .val (.int (1 : Int32))] rfl 32 rfl ?_
  refine o_iinc (v := (1 : Int32)) (w := (2 : Int32)) X6 d3_32 rfl rfl #[.val (.ref xo), .val (.int (1 : Int32)), .val (.long (((0 : Int64) + (Int32.toInt64 y2)) + (Int32.toInt64 y3))), .second, .val (.int (2 : Int32))] rfl 35 rfl ?_
  refine o_goto X6 d3_35 5 (by decide) (by decide) ?_
  refine o_iload X6 d3_5 rfl 7 rfl ?_
  refine o_aloadN X6 d3_7 rfl rfl 8 rfl ?_
  refine o_getF X6 H0 0 rfl d3_8 0 rfl (hw _ (List.mem_of_getElem? (i := 11) rfl)) 11 rfl ?_
  intro T7 X7
  refine o_icmpGe X7 d3_11 38 14 (by decide) (by decide) rfl ?_ (fun q => by exfalso; exact absurd q (by decide))
  intro hc11_2
  refine o_lloadN X7 d3_38 rfl 39 rfl ?_
  exact o_retJ X7 d3_39 (by decide) (by decide) (hQ _ _ ⟨rfl, rfl⟩)
set_option maxRecDepth 65536 in
set_option maxHeartbeats 40000000 in
theorem c_wt_2_2 (l : Launch) (Z : State) (a0 : Array Value) (hw : ∀ d ∈ tables_1, d.before a0 Z = true) (ws : List Jvm.Cond) (n0 : Nat) (h0 : Heap) (hn0 : n0 ≤ h0.size) (xo xc xk : Addr) (xw : Int32) (d1 d2 : UInt64) (y0 y1 y2 y3 y4 y5 y6 y7 y8 y9 y10 y11 : Int32) (L' : List (Addr × (Cell → Prop))) (H0 : OL n0 h0 ((xo, OO Z "com/example/palamedes/palamedes/lda/TopicModel" [("com/example/palamedes/palamedes/lda/TopicModel", "topics", "I", .int (2 : Int32)), ("com/example/palamedes/palamedes/lda/TopicModel", "words", "I", .int xw), ("com/example/palamedes/palamedes/lda/TopicModel", "alpha", "D", .double d1), ("com/example/palamedes/palamedes/lda/TopicModel", "beta", "D", .double d2), ("com/example/palamedes/palamedes/lda/TopicModel", "wordTopicCounts", "[I", .ref xc), ("com/example/palamedes/palamedes/lda/TopicModel", "topicCounts", "[I", .ref xk)]) :: (xc, OA Z .int [y0, y1, y2, y3, y4, y5, y6, y7, y8, y9, y10, y11]) :: L')) :
    OC l Z (⟨"com/example/palamedes/palamedes/lda/TopicModel", "wordTokens", "(I)J"⟩ : MethodName) prog_43_method_6_code 5 (some .long) ws ({ frames := 0, cells := 0, slots := 0, locals := 0 } : Room) n0 #[(.ref xo), (.int (2 : Int32))] h0 (fun r h => r = some (.long (((0 : Int64) + (Int32.toInt64 y4)) + (Int32.toInt64 y5))) ∧ h0 = h) := by
  refine OC.of pn_0 hn0 #[.val (.ref xo), .val (.int (2 : Int32)), .unset, .unset, .unset] (fun m => by first | (simp [entryFrame, mkF, argsToLocals, Value.category, maxLocals]; done) | rfl) ?_
  intro p e s m below meth cd0 T0 X0 Q' hQ
  refine o_lconst (v := (0 : Int64)) X0 d3_0 rfl 1 rfl ?_
  refine o_lstoreN X0 d3_1 #[.val (.ref xo), .val (.int (2 : Int32)), .val (.long (0 : Int64)), .second, .unset] rfl 2 rfl ?_
  refine o_iconst (v := (0 : Int32)) X0 d3_2 rfl 3 rfl ?_
  refine o_istore X0 d3_3 #[.val (.ref xo), .val (.int (2 : Int32)), .val (.long (0 : Int64)), .second, .val (.int (0 : Int32))] rfl 5 rfl ?_
  refine o_iload X0 d3_5 rfl 7 rfl ?_
  refine o_aloadN X0 d3_7 rfl rfl 8 rfl ?_
  refine o_getF X0 H0 0 rfl d3_8 0 rfl (hw _ (List.mem_of_getElem? (i := 11) rfl)) 11 rfl ?_
  intro T1 X1
  refine o_icmpGe X1 d3_11 38 14 (by decide) (by decide) rfl (fun q => by exfalso; exact absurd q (by decide)) ?_
  intro hc11
  refine o_lloadN X1 d3_14 rfl 15 rfl ?_
  refine o_aloadN X1 d3_15 rfl rfl 16 rfl ?_
  refine o_getF X1 H0 0 rfl d3_16 4 rfl (hw _ (List.mem_of_getElem? (i := 19) rfl)) 19 rfl ?_
  intro T2 X2
  refine o_iloadN X2 d3_19 rfl 20 rfl ?_
  refine o_aloadN X2 d3_20 rfl rfl 21 rfl ?_
  refine o_getF X2 H0 0 rfl d3_21 0 rfl (hw _ (List.mem_of_getElem? (i := 11) rfl)) 24 rfl ?_
  intro T3 X3
  refine o_imul X3 d3_24 25 rfl ?_
  refine o_iload X3 d3_25 rfl 27 rfl ?_
  refine o_iadd X3 d3_27 28 rfl ?_
  refine o_iaload X3 H0 1 rfl d3_28 4 rfl y4 rfl 29 rfl ?_
  refine o_i2l X3 d3_29 30 rfl ?_
  refine o_ladd X3 d3_30 31 rfl ?_
  refine o_lstoreN X3 d3_31 #[.val (.ref xo), .val (.int (2 : Int32)), .val (.long ((0 : Int64) + (Int32.toInt64 y4))), .second, .val (.int (0 : Int32))] rfl 32 rfl ?_
  refine o_iinc (v := (0 : Int32)) (w := (1 : Int32)) X3 d3_32 rfl rfl #[.val (.ref xo), .val (.int (2 : Int32)), .val (.long ((0 : Int64) + (Int32.toInt64 y4))), .second, .val (.int (1 : Int32))] rfl 35 rfl ?_
  refine o_goto X3 d3_35 5 (by decide) (by decide) ?_
  refine o_iload X3 d3_5 rfl 7 rfl ?_
  refine o_aloadN X3 d3_7 rfl rfl 8 rfl ?_
  refine o_getF X3 H0 0 rfl d3_8 0 rfl (hw _ (List.mem_of_getElem? (i := 11) rfl)) 11 rfl ?_
  intro T4 X4
  refine o_icmpGe X4 d3_11 38 14 (by decide) (by decide) rfl (fun q => by exfalso; exact absurd q (by decide)) ?_
  intro hc11_1
  refine o_lloadN X4 d3_14 rfl 15 rfl ?_
  refine o_aloadN X4 d3_15 rfl rfl 16 rfl ?_
  refine o_getF X4 H0 0 rfl d3_16 4 rfl (hw _ (List.mem_of_getElem? (i := 19) rfl)) 19 rfl ?_
  intro T5 X5
  refine o_iloadN X5 d3_19 rfl 20 rfl ?_
  refine o_aloadN X5 d3_20 rfl rfl 21 rfl ?_
  refine o_getF X5 H0 0 rfl d3_21 0 rfl (hw _ (List.mem_of_getElem? (i := 11) rfl)) 24 rfl ?_
  intro T6 X6
  refine o_imul X6 d3_24 25 rfl ?_
  refine o_iload X6 d3_25 rfl 27 rfl ?_
  refine o_iadd X6 d3_27 28 rfl ?_
  refine o_iaload X6 H0 1 rfl d3_28 5 rfl y5 rfl 29 rfl ?_
  refine o_i2l X6 d3_29 30 rfl ?_
  refine o_ladd X6 d3_30 31 rfl ?_
  refine o_lstoreN X6 d3_31 #[.val (.ref xo), .val (.int (2 : Int32)), .val (.long (((0 : Int64) + (Int32.toInt64 y4)) + (Int32.toInt64 y5))), .second, .val (.int (1 : Int32))] rfl 32 rfl ?_
  refine o_iinc (v := (1 : Int32)) (w := (2 : Int32)) X6 d3_32 rfl rfl #[.val (.ref xo), .val (.int (2 : Int32)), .val (.long (((0 : Int64) + (Int32.toInt64 y4)) + (Int32.toInt64 y5))), .second, .val (.int (2 : Int32))] rfl 35 rfl ?_
  refine o_goto X6 d3_35 5 (by decide) (by decide) ?_
  refine o_iload X6 d3_5 rfl 7 rfl ?_
  refine o_aloadN X6 d3_7 rfl rfl 8 rfl ?_
  refine o_getF X6 H0 0 rfl d3_8 0 rfl (hw _ (List.mem_of_getElem? (i := 11) rfl)) 11 rfl ?_
  intro T7 X7
  refine o_icmpGe X7 d3_11 38 14 (by decide) (by decide) rfl ?_ (fun q => by exfalso; exact absurd q (by decide))
  intro hc11_2
  refine o_lloadN X7 d3_38 rfl 39 rfl ?_
  exact o_retJ X7 d3_39 (by decide) (by decide) (hQ _ _ ⟨rfl, rfl⟩)
set_option maxRecDepth 65536 in
set_option maxHeartbeats 40000000 in
theorem c_wt_3_0 (l : Launch) (Z : State) (a0 : Array Value) (hw : ∀ d ∈ tables_1, d.before a0 Z = true) (ws : List Jvm.Cond) (n0 : Nat) (h0 : Heap) (hn0 : n0 ≤ h0.size) (xo xc xk : Addr) (xw : Int32) (d1 d2 : UInt64) (y0 y1 y2 y3 y4 y5 y6 y7 y8 y9 y10 y11 : Int32) (L' : List (Addr × (Cell → Prop))) (H0 : OL n0 h0 ((xo, OO Z "com/example/palamedes/palamedes/lda/TopicModel" [("com/example/palamedes/palamedes/lda/TopicModel", "topics", "I", .int (3 : Int32)), ("com/example/palamedes/palamedes/lda/TopicModel", "words", "I", .int xw), ("com/example/palamedes/palamedes/lda/TopicModel", "alpha", "D", .double d1), ("com/example/palamedes/palamedes/lda/TopicModel", "beta", "D", .double d2), ("com/example/palamedes/palamedes/lda/TopicModel", "wordTopicCounts", "[I", .ref xc), ("com/example/palamedes/palamedes/lda/TopicModel", "topicCounts", "[I", .ref xk)]) :: (xc, OA Z .int [y0, y1, y2, y3, y4, y5, y6, y7, y8, y9, y10, y11]) :: L')) :
    OC l Z (⟨"com/example/palamedes/palamedes/lda/TopicModel", "wordTokens", "(I)J"⟩ : MethodName) prog_43_method_6_code 5 (some .long) ws ({ frames := 0, cells := 0, slots := 0, locals := 0 } : Room) n0 #[(.ref xo), (.int (0 : Int32))] h0 (fun r h => r = some (.long ((((0 : Int64) + (Int32.toInt64 y0)) + (Int32.toInt64 y1)) + (Int32.toInt64 y2))) ∧ h0 = h) := by
  refine OC.of pn_0 hn0 #[.val (.ref xo), .val (.int (0 : Int32)), .unset, .unset, .unset] (fun m => by first | (simp [entryFrame, mkF, argsToLocals, Value.category, maxLocals]; done) | rfl) ?_
  intro p e s m below meth cd0 T0 X0 Q' hQ
  refine o_lconst (v := (0 : Int64)) X0 d3_0 rfl 1 rfl ?_
  refine o_lstoreN X0 d3_1 #[.val (.ref xo), .val (.int (0 : Int32)), .val (.long (0 : Int64)), .second, .unset] rfl 2 rfl ?_
  refine o_iconst (v := (0 : Int32)) X0 d3_2 rfl 3 rfl ?_
  refine o_istore X0 d3_3 #[.val (.ref xo), .val (.int (0 : Int32)), .val (.long (0 : Int64)), .second, .val (.int (0 : Int32))] rfl 5 rfl ?_
  refine o_iload X0 d3_5 rfl 7 rfl ?_
  refine o_aloadN X0 d3_7 rfl rfl 8 rfl ?_
  refine o_getF X0 H0 0 rfl d3_8 0 rfl (hw _ (List.mem_of_getElem? (i := 11) rfl)) 11 rfl ?_
  intro T1 X1
  refine o_icmpGe X1 d3_11 38 14 (by decide) (by decide) rfl (fun q => by exfalso; exact absurd q (by decide)) ?_
  intro hc11
  refine o_lloadN X1 d3_14 rfl 15 rfl ?_
  refine o_aloadN X1 d3_15 rfl rfl 16 rfl ?_
  refine o_getF X1 H0 0 rfl d3_16 4 rfl (hw _ (List.mem_of_getElem? (i := 19) rfl)) 19 rfl ?_
  intro T2 X2
  refine o_iloadN X2 d3_19 rfl 20 rfl ?_
  refine o_aloadN X2 d3_20 rfl rfl 21 rfl ?_
  refine o_getF X2 H0 0 rfl d3_21 0 rfl (hw _ (List.mem_of_getElem? (i := 11) rfl)) 24 rfl ?_
  intro T3 X3
  refine o_imul X3 d3_24 25 rfl ?_
  refine o_iload X3 d3_25 rfl 27 rfl ?_
  refine o_iadd X3 d3_27 28 rfl ?_
  refine o_iaload X3 H0 1 rfl d3_28 0 rfl y0 rfl 29 rfl ?_
  refine o_i2l X3 d3_29 30 rfl ?_
  refine o_ladd X3 d3_30 31 rfl ?_
  refine o_lstoreN X3 d3_31 #[.val (.ref xo), .val (.int (0 : Int32)), .val (.long ((0 : Int64) + (Int32.toInt64 y0))), .second, .val (.int (0 : Int32))] rfl 32 rfl ?_
  refine o_iinc (v := (0 : Int32)) (w := (1 : Int32)) X3 d3_32 rfl rfl #[.val (.ref xo), .val (.int (0 : Int32)), .val (.long ((0 : Int64) + (Int32.toInt64 y0))), .second, .val (.int (1 : Int32))] rfl 35 rfl ?_
  refine o_goto X3 d3_35 5 (by decide) (by decide) ?_
  refine o_iload X3 d3_5 rfl 7 rfl ?_
  refine o_aloadN X3 d3_7 rfl rfl 8 rfl ?_
  refine o_getF X3 H0 0 rfl d3_8 0 rfl (hw _ (List.mem_of_getElem? (i := 11) rfl)) 11 rfl ?_
  intro T4 X4
  refine o_icmpGe X4 d3_11 38 14 (by decide) (by decide) rfl (fun q => by exfalso; exact absurd q (by decide)) ?_
  intro hc11_1
  refine o_lloadN X4 d3_14 rfl 15 rfl ?_
  refine o_aloadN X4 d3_15 rfl rfl 16 rfl ?_
  refine o_getF X4 H0 0 rfl d3_16 4 rfl (hw _ (List.mem_of_getElem? (i := 19) rfl)) 19 rfl ?_
  intro T5 X5
  refine o_iloadN X5 d3_19 rfl 20 rfl ?_
  refine o_aloadN X5 d3_20 rfl rfl 21 rfl ?_
  refine o_getF X5 H0 0 rfl d3_21 0 rfl (hw _ (List.mem_of_getElem? (i := 11) rfl)) 24 rfl ?_
  intro T6 X6
  refine o_imul X6 d3_24 25 rfl ?_
  refine o_iload X6 d3_25 rfl 27 rfl ?_
  refine o_iadd X6 d3_27 28 rfl ?_
  refine o_iaload X6 H0 1 rfl d3_28 1 rfl y1 rfl 29 rfl ?_
  refine o_i2l X6 d3_29 30 rfl ?_
  refine o_ladd X6 d3_30 31 rfl ?_
  refine o_lstoreN X6 d3_31 #[.val (.ref xo), .val (.int (0 : Int32)), .val (.long (((0 : Int64) + (Int32.toInt64 y0)) + (Int32.toInt64 y1))), .second, .val (.int (1 : Int32))] rfl 32 rfl ?_
  refine o_iinc (v := (1 : Int32)) (w := (2 : Int32)) X6 d3_32 rfl rfl #[.val (.ref xo), .val (.int (0 : Int32)), .val (.long (((0 : Int64) + (Int32.toInt64 y0)) + (Int32.toInt64 y1))), .second, .val (.int (2 : Int32))] rfl 35 rfl ?_
  refine o_goto X6 d3_35 5 (by decide) (by decide) ?_
  refine o_iload X6 d3_5 rfl 7 rfl ?_
  refine o_aloadN X6 d3_7 rfl rfl 8 rfl ?_
  refine o_getF X6 H0 0 rfl d3_8 0 rfl (hw _ (List.mem_of_getElem? (i := 11) rfl)) 11 rfl ?_
  intro T7 X7
  refine o_icmpGe X7 d3_11 38 14 (by decide) (by decide) rfl (fun q => by exfalso; exact absurd q (by decide)) ?_
  intro hc11_2
  refine o_lloadN X7 d3_14 rfl 15 rfl ?_
  refine o_aloadN X7 d3_15 rfl rfl 16 rfl ?_
  refine o_getF X7 H0 0 rfl d3_16 4 rfl (hw _ (List.mem_of_getElem? (i := 19) rfl)) 19 rfl ?_
  intro T8 X8
  refine o_iloadN X8 d3_19 rfl 20 rfl ?_
  refine o_aloadN X8 d3_20 rfl rfl 21 rfl ?_
  refine o_getF X8 H0 0 rfl d3_21 0 rfl (hw _ (List.mem_of_getElem? (i := 11) rfl)) 24 rfl ?_
  intro T9 X9
  refine o_imul X9 d3_24 25 rfl ?_
  refine o_iload X9 d3_25 rfl 27 rfl ?_
  refine o_iadd X9 d3_27 28 rfl ?_
  refine o_iaload X9 H0 1 rfl d3_28 2 rfl y2 rfl 29 rfl ?_
  refine o_i2l X9 d3_29 30 rfl ?_
  refine o_ladd X9 d3_30 31 rfl ?_
  refine o_lstoreN X9 d3_31 #[.val (.ref xo), .val (.int (0 : Int32)), .val (.long ((((0 : Int64) + (Int32.toInt64 y0)) + (Int32.toInt64 y1)) + (Int32.toInt64 y2))), .second, .val (.int (2 : Int32))] rfl 32 rfl ?_
  refine o_iinc (v := (2 : Int32)) (w := (3 : Int32)) X9 d3_32 rfl rfl #[.val (.ref xo), .val (.int (0 : Int32)), .val (.long ((((0 : Int64) + (Int32.toInt64 y0)) + (Int32.toInt64 y1)) + (Int32.toInt64 y2))), .second, .val (.int (3 : Int32))] rfl 35 rfl ?_
  refine o_goto X9 d3_35 5 (by decide) (by decide) ?_
  refine o_iload X9 d3_5 rfl 7 rfl ?_
  refine o_aloadN X9 d3_7 rfl rfl 8 rfl ?_
  refine o_getF X9 H0 0 rfl d3_8 0 rfl (hw _ (List.mem_of_getElem? (i := 11) rfl)) 11 rfl ?_
  intro T10 X10
  refine o_icmpGe X10 d3_11 38 14 (by decide) (by decide) rfl ?_ (fun q => by exfalso; exact absurd q (by decide))
  intro hc11_3
  refine o_lloadN X10 d3_38 rfl 39 rfl ?_
  exact o_retJ X10 d3_39 (by decide) (by decide) (hQ _ _ ⟨rfl, rfl⟩)
set_option maxRecDepth 65536 in
set_option maxHeartbeats 40000000 in
theorem c_wt_3_1 (l : Launch) (Z : State) (a0 : Array Value) (hw : ∀ d ∈ tables_1, d.before a0 Z = true) (ws : List Jvm.Cond) (n0 : Nat) (h0 : Heap) (hn0 : n0 ≤ h0.size) (xo xc xk : Addr) (xw : Int32) (d1 d2 : UInt64) (y0 y1 y2 y3 y4 y5 y6 y7 y8 y9 y10 y11 : Int32) (L' : List (Addr × (Cell → Prop))) (H0 : OL n0 h0 ((xo, OO Z "com/example/palamedes/palamedes/lda/TopicModel" [("com/example/palamedes/palamedes/lda/TopicModel", "topics", "I", .int (3 : Int32)), ("com/example/palamedes/palamedes/lda/TopicModel", "words", "I", .int xw), ("com/example/palamedes/palamedes/lda/TopicModel", "alpha", "D", .double d1), ("com/example/palamedes/palamedes/lda/TopicModel", "beta", "D", .double d2), ("com/example/palamedes/palamedes/lda/TopicModel", "wordTopicCounts", "[I", .ref xc), ("com/example/palamedes/palamedes/lda/TopicModel", "topicCounts", "[I", .ref xk)]) :: (xc, OA Z .int [y0, y1, y2, y3, y4, y5, y6, y7, y8, y9, y10, y11]) :: L')) :
    OC l Z (⟨"com/example/palamedes/palamedes/lda/TopicModel", "wordTokens", "(I)J"⟩ : MethodName) prog_43_method_6_code 5 (some .long) ws ({ frames := 0, cells := 0, slots := 0, locals := 0 } : Room) n0 #[(.ref xo), (.int (1 : Int32))] h0 (fun r h => r = some (.long ((((0 : Int64) + (Int32.toInt64 y3)) + (Int32.toInt64 y4)) + (Int32.toInt64 y5))) ∧ h0 = h) := by
  refine OC.of pn_0 hn0 #[.val (.ref xo), .val (.int (1 : Int32)), .unset, .unset, .unset] (fun m => by first | (simp [entryFrame, mkF, argsToLocals, Value.category, maxLocals]; done) | rfl) ?_
  intro p e s m below meth cd0 T0 X0 Q' hQ
  refine o_lconst (v := (0 : Int64)) X0 d3_0 rfl 1 rfl ?_
  refine o_lstoreN X0 d3_1 #[.val (.ref xo), .val (.int (1 : Int32)), .val (.long (0 : Int64)), .second, .unset] rfl 2 rfl ?_
  refine o_iconst (v := (0 : Int32)) X0 d3_2 rfl 3 rfl ?_
  refine o_istore X0 d3_3 #[.val (.ref xo), .val (.int (1 : Int32)), .val (.long (0 : Int64)), .second, .val (.int (0 : Int32))] rfl 5 rfl ?_
  refine o_iload X0 d3_5 rfl 7 rfl ?_
  refine o_aloadN X0 d3_7 rfl rfl 8 rfl ?_
  refine o_getF X0 H0 0 rfl d3_8 0 rfl (hw _ (List.mem_of_getElem? (i := 11) rfl)) 11 rfl ?_
  intro T1 X1
  refine o_icmpGe X1 d3_11 38 14 (by decide) (by decide) rfl (fun q => by exfalso; exact absurd q (by decide)) ?_
  intro hc11
  refine o_lloadN X1 d3_14 rfl 15 rfl ?_
  refine o_aloadN X1 d3_15 rfl rfl 16 rfl ?_
  refine o_getF X1 H0 0 rfl d3_16 4 rfl (hw _ (List.mem_of_getElem? (i := 19) rfl)) 19 rfl ?_
  intro T2 X2
  refine o_iloadN X2 d3_19 rfl 20 rfl ?_
  refine o_aloadN X2 d3_20 rfl rfl 21 rfl ?_
  refine o_getF X2 H0 0 rfl d3_21 0 rfl (hw _ (List.mem_of_getElem? (i := 11) rfl)) 24 rfl ?_
  intro T3 X3
  refine o_imul X3 d3_24 25 rfl ?_
  refine o_iload X3 d3_25 rfl 27 rfl ?_
  refine o_iadd X3 d3_27 28 rfl ?_
  refine o_iaload X3 H0 1 rfl d3_28 3 rfl y3 rfl 29 rfl ?_
  refine o_i2l X3 d3_29 30 rfl ?_
  refine o_ladd X3 d3_30 31 rfl ?_
  refine o_lstoreN X3 d3_31 #[.val (.ref xo), .val (.int (1 : Int32)), .val (.long ((0 : Int64) + (Int32.toInt64 y3))), .second, .val (.int (0 : Int32))] rfl 32 rfl ?_
  refine o_iinc (v := (0 : Int32)) (w := (1 : Int32)) X3 d3_32 rfl rfl #[.val (.ref xo), .val (.int (1 : Int32)), .val (.long ((0 : Int64) + (Int32.toInt64 y3))), .second, .val (.int (1 : Int32))] rfl 35 rfl ?_
  refine o_goto X3 d3_35 5 (by decide) (by decide) ?_
  refine o_iload X3 d3_5 rfl 7 rfl ?_
  refine o_aloadN X3 d3_7 rfl rfl 8 rfl ?_
  refine o_getF X3 H0 0 rfl d3_8 0 rfl (hw _ (List.mem_of_getElem? (i := 11) rfl)) 11 rfl ?_
  intro T4 X4
  refine o_icmpGe X4 d3_11 38 14 (by decide) (by decide) rfl (fun q => by exfalso; exact absurd q (by decide)) ?_
  intro hc11_1
  refine o_lloadN X4 d3_14 rfl 15 rfl ?_
  refine o_aloadN X4 d3_15 rfl rfl 16 rfl ?_
  refine o_getF X4 H0 0 rfl d3_16 4 rfl (hw _ (List.mem_of_getElem? (i := 19) rfl)) 19 rfl ?_
  intro T5 X5
  refine o_iloadN X5 d3_19 rfl 20 rfl ?_
  refine o_aloadN X5 d3_20 rfl rfl 21 rfl ?_
  refine o_getF X5 H0 0 rfl d3_21 0 rfl (hw _ (List.mem_of_getElem? (i := 11) rfl)) 24 rfl ?_
  intro T6 X6
  refine o_imul X6 d3_24 25 rfl ?_
  refine o_iload X6 d3_25 rfl 27 rfl ?_
  refine o_iadd X6 d3_27 28 rfl ?_
  refine o_iaload X6 H0 1 rfl d3_28 4 rfl y4 rfl 29 rfl ?_
  refine o_i2l X6 d3_29 30 rfl ?_
  refine o_ladd X6 d3_30 31 rfl ?_
  refine o_lstoreN X6 d3_31 #[.val (.ref xo), .val (.int (1 : Int32)), .val (.long (((0 : Int64) + (Int32.toInt64 y3)) + (Int32.toInt64 y4))), .second, .val (.int (1 : Int32))] rfl 32 rfl ?_
  refine o_iinc (v := (1 : Int32)) (w := (2 : Int32)) X6 d3_32 rfl rfl #[.val (.ref xo), .val (.int (1 : Int32)), .val (.long (((0 : Int64) + (Int32.toInt64 y3)) + (Int32.toInt64 y4))), .second, .val (.int (2 : Int32))] rfl 35 rfl ?_
  refine o_goto X6 d3_35 5 (by decide) (by decide) ?_
  refine o_iload X6 d3_5 rfl 7 rfl ?_
  refine o_aloadN X6 d3_7 rfl rfl 8 rfl ?_
  refine o_getF X6 H0 0 rfl d3_8 0 rfl (hw _ (List.mem_of_getElem? (i := 11) rfl)) 11 rfl ?_
  intro T7 X7
  refine o_icmpGe X7 d3_11 38 14 (by decide) (by decide) rfl (fun q => by exfalso; exact absurd q (by decide)) ?_
  intro hc11_2
  refine o_lloadN X7 d3_14 rfl 15 rfl ?_
  refine o_aloadN X7 d3_15 rfl rfl 16 rfl ?_
  refine o_getF X7 H0 0 rfl d3_16 4 rfl (hw _ (List.mem_of_getElem? (i := 19) rfl)) 19 rfl ?_
  intro T8 X8
  refine o_iloadN X8 d3_19 rfl 20 rfl ?_
  refine o_aloadN X8 d3_20 rfl rfl 21 rfl ?_
  refine o_getF X8 H0 0 rfl d3_21 0 rfl (hw _ (List.mem_of_getElem? (i := 11) rfl)) 24 rfl ?_
  intro T9 X9
  refine o_imul X9 d3_24 25 rfl ?_
  refine o_iload X9 d3_25 rfl 27 rfl ?_
  refine o_iadd X9 d3_27 28 rfl ?_
  refine o_iaload X9 H0 1 rfl d3_28 5 rfl y5 rfl 29 rfl ?_
  refine o_i2l X9 d3_29 30 rfl ?_
  refine o_ladd X9 d3_30 31 rfl ?_
  refine o_lstoreN X9 d3_31 #[.val (.ref xo), .val (.int (1 : Int32)), .val (.long ((((0 : Int64) + (Int32.toInt64 y3)) + (Int32.toInt64 y4)) + (Int32.toInt64 y5))), .second, .val (.int (2 : Int32))] rfl 32 rfl ?_
  refine o_iinc (v := (2 : Int32)) (w := (3 : Int32)) X9 d3_32 rfl rfl #[.val (.ref xo), .val (.int (1 : Int32)), .val (.long ((((0 : Int64) + (Int32.toInt64 y3)) + (Int32.toInt64 y4)) + (Int32.toInt64 y5))), .second, .val (.int (3 : Int32))] rfl 35 rfl ?_
  refine o_goto X9 d3_35 5 (by decide) (by decide) ?_
  refine o_iload X9 d3_5 rfl 7 rfl ?_
  refine o_aloadN X9 d3_7 rfl rfl 8 rfl ?_
  refine o_getF X9 H0 0 rfl d3_8 0 rfl (hw _ (List.mem_of_getElem? (i := 11) rfl)) 11 rfl ?_
  intro T10 X10
  refine o_icmpGe X10 d3_11 38 14 (by decide) (by decide) rfl ?_ (fun q => by exfalso; exact absurd q (by decide))
  intro hc11_3
  refine o_lloadN X10 d3_38 rfl 39 rfl ?_
  exact o_retJ X10 d3_39 (by decide) (by decide) (hQ _ _ ⟨rfl, rfl⟩)
set_option maxRecDepth 65536 in
set_option maxHeartbeats 40000000 in
theorem c_wt_3_2 (l : Launch) (Z : State) (a0 : Array Value) (hw : ∀ d ∈ tables_1, d.before a0 Z = true) (ws : List Jvm.Cond) (n0 : Nat) (h0 : Heap) (hn0 : n0 ≤ h0.size) (xo xc xk : Addr) (xw : Int32) (d1 d2 : UInt64) (y0 y1 y2 y3 y4 y5 y6 y7 y8 y9 y10 y11 : Int32) (L' : List (Addr × (Cell → Prop))) (H0 : OL n0 h0 ((xo, OO Z "com/example/palamedes/palamedes/lda/TopicModel" [("com/example/palamedes/palamedes/lda/TopicModel", "topics", "I", .int (3 : Int32)), ("com/example/palamedes/palamedes/lda/TopicModel", "words", "I", .int xw), ("com/example/palamedes/palamedes/lda/TopicModel", "alpha", "D", .double d1), ("com/example/palamedes/palamedes/lda/TopicModel", "beta", "D", .double d2), ("com/example/palamedes/palamedes/lda/TopicModel", "wordTopicCounts", "[I", .ref xc), ("com/example/palamedes/palamedes/lda/TopicModel", "topicCounts", "[I", .ref xk)]) :: (xc, OA Z .int [y0, y1, y2, y3, y4, y5, y6, y7, y8, y9, y10, y11]) :: L')) :
    OC l Z (⟨"com/example/palamedes/palamedes/lda/TopicModel", "wordTokens", "(I)J"⟩ : MethodName) prog_43_method_6_code 5 (some .long) ws ({ frames := 0, cells := 0, slots := 0, locals := 0 } : Room) n0 #[(.ref xo), (.int (2 : Int32))] h0 (fun r h => r = some (.long ((((0 : Int64) + (Int32.toInt64 y6)) + (Int32.toInt64 y7)) + (Int32.toInt64 y8))) ∧ h0 = h) := by
  refine OC.of pn_0 hn0 #[.val (.ref xo), .val (.int (2 : Int32)), .unset, .unset, .unset] (fun m => by first | (simp [entryFrame, mkF, argsToLocals, Value.category, maxLocals]; done) | rfl) ?_
  intro p e s m below meth cd0 T0 X0 Q' hQ
  refine o_lconst (v := (0 : Int64)) X0 d3_0 rfl 1 rfl ?_
  refine o_lstoreN X0 d3_1 #[.val (.ref xo), .val (.int (2 : Int32)), .val (.long (0 : Int64)), .second, .unset] rfl 2 rfl ?_
  refine o_iconst (v := (0 : Int32)) X0 d3_2 rfl 3 rfl ?_
  refine o_istore X0 d3_3 #[.val (.ref xo), .val (.int (2 : Int32)), .val (.long (0 : Int64)), .second, .val (.int (0 : Int32))] rfl 5 rfl ?_
  refine o_iload X0 d3_5 rfl 7 rfl ?_
  refine o_aloadN X0 d3_7 rfl rfl 8 rfl ?_
  refine o_getF X0 H0 0 rfl d3_8 0 rfl (hw _ (List.mem_of_getElem? (i := 11) rfl)) 11 rfl ?_
  intro T1 X1
  refine o_icmpGe X1 d3_11 38 14 (by decide) (by decide) rfl (fun q => by exfalso; exact absurd q (by decide)) ?_
  intro hc11
  refine o_lloadN X1 d3_14 rfl 15 rfl ?_
  refine o_aloadN X1 d3_15 rfl rfl 16 rfl ?_
  refine o_getF X1 H0 0 rfl d3_16 4 rfl (hw _ (List.mem_of_getElem? (i := 19) rfl)) 19 rfl ?_
  intro T2 X2
  refine o_iloadN X2 d3_19 rfl 20 rfl ?_
  refine o_aloadN X2 d3_20 rfl rfl 21 rfl ?_
  refine o_getF X2 H0 0 rfl d3_21 0 rfl (hw _ (List.mem_of_getElem? (i := 11) rfl)) 24 rfl ?_
  intro T3 X3
  refine o_imul X3 d3_24 25 rfl ?_
  refine o_iload X3 d3_25 rfl 27 rfl ?_
  refine o_iadd X3 d3_27 28 rfl ?_
  refine o_iaload X3 H0 1 rfl d3_28 6 rfl y6 rfl 29 rfl ?_
  refine o_i2l X3 d3_29 30 rfl ?_
  refine o_ladd X3 d3_30 31 rfl ?_
  refine o_lstoreN X3 d3_31 #[.val (.ref xo), .val (.int (2 : Int32)), .val (.long ((0 : Int64) + (Int32.toInt64 y6))), .second, .val (.int (0 : Int32))] rfl 32 rfl ?_
  refine o_iinc (v := (0 : Int32)) (w := (1 : Int32)) X3 d3_32 rfl rfl #[.val (.ref xo), .val (.int (2 : Int32)), .val (.long ((0 : Int64) + (Int32.toInt64 y6))), .second, .val (.int (1 : Int32))] rfl 35 rfl ?_
  refine o_goto X3 d3_35 5 (by decide) (by decide) ?_
  refine o_iload X3 d3_5 rfl 7 rfl ?_
  refine o_aloadN X3 d3_7 rfl rfl 8 rfl ?_
  refine o_getF X3 H0 0 rfl d3_8 0 rfl (hw _ (List.mem_of_getElem? (i := 11) rfl)) 11 rfl ?_
  intro T4 X4
  refine o_icmpGe X4 d3_11 38 14 (by decide) (by decide) rfl (fun q => by exfalso; exact absurd q (by decide)) ?_
  intro hc11_1
  refine o_lloadN X4 d3_14 rfl 15 rfl ?_
  refine o_aloadN X4 d3_15 rfl rfl 16 rfl ?_
  refine o_getF X4 H0 0 rfl d3_16 4 rfl (hw _ (List.mem_of_getElem? (i := 19) rfl)) 19 rfl ?_
  intro T5 X5
  refine o_iloadN X5 d3_19 rfl 20 rfl ?_
  refine o_aloadN X5 d3_20 rfl rfl 21 rfl ?_
  refine o_getF X5 H0 0 rfl d3_21 0 rfl (hw _ (List.mem_of_getElem? (i := 11) rfl)) 24 rfl ?_
  intro T6 X6
  refine o_imul X6 d3_24 25 rfl ?_
  refine o_iload X6 d3_25 rfl 27 rfl ?_
  refine o_iadd X6 d3_27 28 rfl ?_
  refine o_iaload X6 H0 1 rfl d3_28 7 rfl y7 rfl 29 rfl ?_
  refine o_i2l X6 d3_29 30 rfl ?_
  refine o_ladd X6 d3_30 31 rfl ?_
  refine o_lstoreN X6 d3_31 #[.val (.ref xo), .val (.int (2 : Int32)), .val (.long (((0 : Int64) + (Int32.toInt64 y6)) + (Int32.toInt64 y7))), .second, .val (.int (1 : Int32))] rfl 32 rfl ?_
  refine o_iinc (v := (1 : Int32)) (w := (2 : Int32)) X6 d3_32 rfl rfl #[.val (.ref xo), .val (.int (2 : Int32)), .val (.long (((0 : Int64) + (Int32.toInt64 y6)) + (Int32.toInt64 y7))), .second, .val (.int (2 : Int32))] rfl 35 rfl ?_
  refine o_goto X6 d3_35 5 (by decide) (by decide) ?_
  refine o_iload X6 d3_5 rfl 7 rfl ?_
  refine o_aloadN X6 d3_7 rfl rfl 8 rfl ?_
  refine o_getF X6 H0 0 rfl d3_8 0 rfl (hw _ (List.mem_of_getElem? (i := 11) rfl)) 11 rfl ?_
  intro T7 X7
  refine o_icmpGe X7 d3_11 38 14 (by decide) (by decide) rfl (fun q => by exfalso; exact absurd q (by decide)) ?_
  intro hc11_2
  refine o_lloadN X7 d3_14 rfl 15 rfl ?_
  refine o_aloadN X7 d3_15 rfl rfl 16 rfl ?_
  refine o_getF X7 H0 0 rfl d3_16 4 rfl (hw _ (List.mem_of_getElem? (i := 19) rfl)) 19 rfl ?_
  intro T8 X8
  refine o_iloadN X8 d3_19 rfl 20 rfl ?_
  refine o_aloadN X8 d3_20 rfl rfl 21 rfl ?_
  refine o_getF X8 H0 0 rfl d3_21 0 rfl (hw _ (List.mem_of_getElem? (i := 11) rfl)) 24 rfl ?_
  intro T9 X9
  refine o_imul X9 d3_24 25 rfl ?_
  refine o_iload X9 d3_25 rfl 27 rfl ?_
  refine o_iadd X9 d3_27 28 rfl ?_
  refine o_iaload X9 H0 1 rfl d3_28 8 rfl y8 rfl 29 rfl ?_
  refine o_i2l X9 d3_29 30 rfl ?_
  refine o_ladd X9 d3_30 31 rfl ?_
  refine o_lstoreN X9 d3_31 #[.val (.ref xo), .val (.int (2 : Int32)), .val (.long ((((0 : Int64) + (Int32.toInt64 y6)) + (Int32.toInt64 y7)) + (Int32.toInt64 y8))), .second, .val (.int (2 : Int32))] rfl 32 rfl ?_
  refine o_iinc (v := (2 : Int32)) (w := (3 : Int32)) X9 d3_32 rfl rfl #[.val (.ref xo), .val (.int (2 : Int32)), .val (.long ((((0 : Int64) + (Int32.toInt64 y6)) + (Int32.toInt64 y7)) + (Int32.toInt64 y8))), .second, .val (.int (3 : Int32))] rfl 35 rfl ?_
  refine o_goto X9 d3_35 5 (by decide) (by decide) ?_
  refine o_iload X9 d3_5 rfl 7 rfl ?_
  refine o_aloadN X9 d3_7 rfl rfl 8 rfl ?_
  refine o_getF X9 H0 0 rfl d3_8 0 rfl (hw _ (List.mem_of_getElem? (i := 11) rfl)) 11 rfl ?_
  intro T10 X10
  refine o_icmpGe X10 d3_11 38 14 (by decide) (by decide) rfl ?_ (fun q => by exfalso; exact absurd q (by decide))
  intro hc11_3
  refine o_lloadN X10 d3_38 rfl 39 rfl ?_
  exact o_retJ X10 d3_39 (by decide) (by decide) (hQ _ _ ⟨rfl, rfl⟩)
set_option maxRecDepth 65536 in
set_option maxHeartbeats 40000000 in
theorem c_wt_4_0 (l : Launch) (Z : State) (a0 : Array Value) (hw : ∀ d ∈ tables_1, d.before a0 Z = true) (ws : List Jvm.Cond) (n0 : Nat) (h0 : Heap) (hn0 : n0 ≤ h0.size) (xo xc xk : Addr) (xw : Int32) (d1 d2 : UInt64) (y0 y1 y2 y3 y4 y5 y6 y7 y8 y9 y10 y11 : Int32) (L' : List (Addr × (Cell → Prop))) (H0 : OL n0 h0 ((xo, OO Z "com/example/palamedes/palamedes/lda/TopicModel" [("com/example/palamedes/palamedes/lda/TopicModel", "topics", "I", .int (4 : Int32)), ("com/example/palamedes/palamedes/lda/TopicModel", "words", "I", .int xw), ("com/example/palamedes/palamedes/lda/TopicModel", "alpha", "D", .double d1), ("com/example/palamedes/palamedes/lda/TopicModel", "beta", "D", .double d2), ("com/example/palamedes/palamedes/lda/TopicModel", "wordTopicCounts", "[I", .ref xc), ("com/example/palamedes/palamedes/lda/TopicModel", "topicCounts", "[I", .ref xk)]) :: (xc, OA Z .int [y0, y1, y2, y3, y4, y5, y6, y7, y8, y9, y10, y11]) :: L')) :
    OC l Z (⟨"com/example/palamedes/palamedes/lda/TopicModel", "wordTokens", "(I)J"⟩ : MethodName) prog_43_method_6_code 5 (some .long) ws ({ frames := 0, cells := 0, slots := 0, locals := 0 } : Room) n0 #[(.ref xo), (.int (0 : Int32))] h0 (fun r h => r = some (.long (((((0 : Int64) + (Int32.toInt64 y0)) + (Int32.toInt64 y1)) + (Int32.toInt64 y2)) + (Int32.toInt64 y3))) ∧ h0 = h) := by
  refine OC.of pn_0 hn0 #[.val (.ref xo), .val (.int (0 : Int32)), .unset, .unset, .unset] (fun m => by first | (simp [entryFrame, mkF, argsToLocals, Value.category, maxLocals]; done) | rfl) ?_
  intro p e s m below meth cd0 T0 X0 Q' hQ
  refine o_lconst (v := (0 : Int64)) X0 d3_0 rfl 1 rfl ?_
  refine o_lstoreN X0 d3_1 #[.val (.ref xo), .val (.int (0 : Int32)), .val (.long (0 : Int64)), .second, .unset] rfl 2 rfl ?_
  refine o_iconst (v := (0 : Int32)) X0 d3_2 rfl 3 rfl ?_
  refine o_istore X0 d3_3 #[.val (.ref xo), .val (.int (0 : Int32)), .val (.long (0 : Int64)), .second, .val (.int (0 : Int32))] rfl 5 rfl ?_
  refine o_iload X0 d3_5 rfl 7 rfl ?_
  refine o_aloadN X0 d3_7 rfl rfl 8 rfl ?_
  refine o_getF X0 H0 0 rfl d3_8 0 rfl (hw _ (List.mem_of_getElem? (i := 11) rfl)) 11 rfl ?_
  intro T1 X1
  refine o_icmpGe X1 d3_11 38 14 (by decide) (by decide) rfl (fun q => by exfalso; exact absurd q (by decide)) ?_
  intro hc11
  refine o_lloadN X1 d3_14 rfl 15 rfl ?_
  refine o_aloadN X1 d3_15 rfl rfl 16 rfl ?_
  refine o_getF X1 H0 0 rfl d3_16 4 rfl (hw _ (List.mem_of_getElem? (i := 19) rfl)) 19 rfl ?_
  intro T2 X2
  refine o_iloadN X2 d3_19 rfl 20 rfl ?_
  refine o_aloadN X2 d3_20 rfl rfl 21 rfl ?_
  refine o_getF X2 H0 0 rfl d3_21 0 rfl (hw _ (List.mem_of_getElem? (i := 11) rfl)) 24 rfl ?_
  intro T3 X3
  refine o_imul X3 d3_24 25 rfl ?_
  refine o_iload X3 d3_25 rfl 27 rfl ?_
  refine o_iadd X3 d3_27 28 rfl ?_
  refine o_iaload X3 H0 1 rfl d3_28 0 rfl y0 rfl 29 rfl ?_
  refine o_i2l X3 d3_29 30 rfl ?_
  refine o_ladd X3 d3_30 31 rfl ?_
  refine o_lstoreN X3 d3_31 #[.val (.ref xo), .val (.int (0 : Int32)), .val (.long ((0 : Int64) + (Int32.toInt64 y0))), .second, .val (.int (0 : Int32))] rfl 32 rfl ?_
  refine o_iinc (v := (0 : Int32)) (w := (1 : Int32)) X3 d3_32 rfl rfl #[.val (.ref xo), .val (.int (0 : Int32)), .val (.long ((0 : Int64) + (Int32.toInt64 y0))), .second, .val (.int (1 : Int32))] rfl 35 rfl ?_
  refine o_goto X3 d3_35 5 (by decide) (by decide) ?_
  refine o_iload X3 d3_5 rfl 7 rfl ?_
  refine o_aloadN X3 d3_7 rfl rfl 8 rfl ?_
  refine o_getF X3 H0 0 rfl d3_8 0 rfl (hw _ (List.mem_of_getElem? (i := 11) rfl)) 11 rfl ?_
  intro T4 X4
  refine o_icmpGe X4 d3_11 38 14 (by decide) (by decide) rfl (fun q => by exfalso; exact absurd q (by decide)) ?_
  intro hc11_1
  refine o_lloadN X4 d3_14 rfl 15 rfl ?_
  refine o_aloadN X4 d3_15 rfl rfl 16 rfl ?_
  refine o_getF X4 H0 0 rfl d3_16 4 rfl (hw _ (List.mem_of_getElem? (i := 19) rfl)) 19 rfl ?_
  intro T5 X5
  refine o_iloadN X5 d3_19 rfl 20 rfl ?_
  refine o_aloadN X5 d3_20 rfl rfl 21 rfl ?_
  refine o_getF X5 H0 0 rfl d3_21 0 rfl (hw _ (List.mem_of_getElem? (i := 11) rfl)) 24 rfl ?_
  intro T6 X6
  refine o_imul X6 d3_24 25 rfl ?_
  refine o_iload X6 d3_25 rfl 27 rfl ?_
  refine o_iadd X6 d3_27 28 rfl ?_
  refine o_iaload X6 H0 1 rfl d3_28 1 rfl y1 rfl 29 rfl ?_
  refine o_i2l X6 d3_29 30 rfl ?_
  refine o_ladd X6 d3_30 31 rfl ?_
  refine o_lstoreN X6 d3_31 #[.val (.ref xo), .val (.int (0 : Int32)), .val (.long (((0 : Int64) + (Int32.toInt64 y0)) + (Int32.toInt64 y1))), .second, .val (.int (1 : Int32))] rfl 32 rfl ?_
  refine o_iinc (v := (1 : Int32)) (w := (2 : Int32)) X6 d3_32 rfl rfl #[.val (.ref xo), .val (.int (0 : Int32)), .val (.long (((0 : Int64) + (Int32.toInt64 y0)) + (Int32.toInt64 y1))), .second, .val (.int (2 : Int32))] rfl 35 rfl ?_
  refine o_goto X6 d3_35 5 (by decide) (by decide) ?_
  refine o_iload X6 d3_5 rfl 7 rfl ?_
  refine o_aloadN X6 d3_7 rfl rfl 8 rfl ?_
  refine o_getF X6 H0 0 rfl d3_8 0 rfl (hw _ (List.mem_of_getElem? (i := 11) rfl)) 11 rfl ?_
  intro T7 X7
  refine o_icmpGe X7 d3_11 38 14 (by decide) (by decide) rfl (fun q => by exfalso; exact absurd q (by decide)) ?_
  intro hc11_2
  refine o_lloadN X7 d3_14 rfl 15 rfl ?_
  refine o_aloadN X7 d3_15 rfl rfl 16 rfl ?_
  refine o_getF X7 H0 0 rfl d3_16 4 rfl (hw _ (List.mem_of_getElem? (i := 19) rfl)) 19 rfl ?_
  intro T8 X8
  refine o_iloadN X8 d3_19 rfl 20 rfl ?_
  refine o_aloadN X8 d3_20 rfl rfl 21 rfl ?_
  refine o_getF X8 H0 0 rfl d3_21 0 rfl (hw _ (List.mem_of_getElem? (i := 11) rfl)) 24 rfl ?_
  intro T9 X9
  refine o_imul X9 d3_24 25 rfl ?_
  refine o_iload X9 d3_25 rfl 27 rfl ?_
  refine o_iadd X9 d3_27 28 rfl ?_
  refine o_iaload X9 H0 1 rfl d3_28 2 rfl y2 rfl 29 rfl ?_
  refine o_i2l X9 d3_29 30 rfl ?_
  refine o_ladd X9 d3_30 31 rfl ?_
  refine o_lstoreN X9 d3_31 #[.val (.ref xo), .val (.int (0 : Int32)), .val (.long ((((0 : Int64) + (Int32.toInt64 y0)) + (Int32.toInt64 y1)) + (Int32.toInt64 y2))), .second, .val (.int (2 : Int32))] rfl 32 rfl ?_
  refine o_iinc (v := (2 : Int32)) (w := (3 : Int32)) X9 d3_32 rfl rfl #[.val (.ref xo), .val (.int (0 : Int32)), .val (.long ((((0 : Int64) + (Int32.toInt64 y0)) + (Int32.toInt64 y1)) + (Int32.toInt64 y2))), .second, .val (.int (3 : Int32))] rfl 35 rfl ?_
  refine o_goto X9 d3_35 5 (by decide) (by decide) ?_
  refine o_iload X9 d3_5 rfl 7 rfl ?_
  refine o_aloadN X9 d3_7 rfl rfl 8 rfl ?_
  refine o_getF X9 H0 0 rfl d3_8 0 rfl (hw _ (List.mem_of_getElem? (i := 11) rfl)) 11 rfl ?_
  intro T10 X10
  refine o_icmpGe X10 d3_11 38 14 (by decide) (by decide) rfl (fun q => by exfalso; exact absurd q (by decide)) ?_
  intro hc11_3
  refine o_lloadN X10 d3_14 rfl 15 rfl ?_
  refine o_aloadN X10 d3_15 rfl rfl 16 rfl ?_
  refine o_getF X10 H0 0 rfl d3_16 4 rfl (hw _ (List.mem_of_getElem? (i := 19) rfl)) 19 rfl ?_
  intro T11 X11
  refine o_iloadN X11 d3_19 rfl 20 rfl ?_
  refine o_aloadN X11 d3_20 rfl rfl 21 rfl ?_
  refine o_getF X11 H0 0 rfl d3_21 0 rfl (hw _ (List.mem_of_getElem? (i := 11) rfl)) 24 rfl ?_
  intro T12 X12
  refine o_imul X12 d3_24 25 rfl ?_
  refine o_iload X12 d3_25 rfl 27 rfl ?_
  refine o_iadd X12 d3_27 28 rfl ?_
  refine o_iaload X12 H0 1 rfl d3_28 3 rfl y3 rfl 29 rfl ?_
  refine o_i2l X12 d3_29 30 rfl ?_
  refine o_ladd X12 d3_30 31 rfl ?_
  refine o_lstoreN X12 d3_31 #[.val (.ref xo), .val (.int (0 : Int32)), .val (.long (((((0 : Int64) + (Int32.toInt64 y0)) + (Int32.toInt64 y1)) + (Int32.toInt64 y2)) + (Int32.toInt64 y3))), .second, .val (.int (3 : Int32))] rfl 32 rfl ?_
  refine o_iinc (v := (3 : Int32)) (w := (4 : Int32)) X12 d3_32 rfl rfl #[.val (.ref xo), .val (.int (0 : Int32)), .val (.long (((((0 : Int64) + (Int32.toInt64 y0)) + (Int32.toInt64 y1)) + (Int32.toInt64 y2)) + (Int32.toInt64 y3))), .second, .val (.int (4 : Int32))] rfl 35 rfl ?_
  refine o_goto X12 d3_35 5 (by decide) (by decide) ?_
  refine o_iload X12 d3_5 rfl 7 rfl ?_
  refine o_aloadN X12 d3_7 rfl rfl 8 rfl ?_
  refine o_getF X12 H0 0 rfl d3_8 0 rfl (hw _ (List.mem_of_getElem? (i := 11) rfl)) 11 rfl ?_
  intro T13 X13
  refine o_icmpGe X13 d3_11 38 14 (by decide) (by decide) rfl ?_ (fun q => by exfalso; exact absurd q (by decide))
  intro hc11_4
  refine o_lloadN X13 d3_38 rfl 39 rfl ?_
  exact o_retJ X13 d3_39 (by decide) (by decide) (hQ _ _ ⟨rfl, rfl⟩)
set_option maxRecDepth 65536 in
set_option maxHeartbeats 40000000 in
theorem c_wt_4_1 (l : Launch) (Z : State) (a0 : Array Value) (hw : ∀ d ∈ tables_1, d.before a0 Z = true) (ws : List Jvm.Cond) (n0 : Nat) (h0 : Heap) (hn0 : n0 ≤ h0.size) (xo xc xk : Addr) (xw : Int32) (d1 d2 : UInt64) (y0 y1 y2 y3 y4 y5 y6 y7 y8 y9 y10 y11 : Int32) (L' : List (Addr × (Cell → Prop))) (H0 : OL n0 h0 ((xo, OO Z "com/example/palamedes/palamedes/lda/TopicModel" [("com/example/palamedes/palamedes/lda/TopicModel", "topics", "I", .int (4 : Int32)), ("com/example/palamedes/palamedes/lda/TopicModel", "words", "I", .int xw), ("com/example/palamedes/palamedes/lda/TopicModel", "alpha", "D", .double d1), ("com/example/palamedes/palamedes/lda/TopicModel", "beta", "D", .double d2), ("com/example/palamedes/palamedes/lda/TopicModel", "wordTopicCounts", "[I", .ref xc), ("com/example/palamedes/palamedes/lda/TopicModel", "topicCounts", "[I", .ref xk)]) :: (xc, OA Z .int [y0, y1, y2, y3, y4, y5, y6, y7, y8, y9, y10, y11]) :: L')) :
    OC l Z (⟨"com/example/palamedes/palamedes/lda/TopicModel", "wordTokens", "(I)J"⟩ : MethodName) prog_43_method_6_code 5 (some .long) ws ({ frames := 0, cells := 0, slots := 0, locals := 0 } : Room) n0 #[(.ref xo), (.int (1 : Int32))] h0 (fun r h => r = some (.long (((((0 : Int64) + (Int32.toInt64 y4)) + (Int32.toInt64 y5)) + (Int32.toInt64 y6)) + (Int32.toInt64 y7))) ∧ h0 = h) := by
  refine OC.of pn_0 hn0 #[.val (.ref xo), .val (.int (1 : Int32)), .unset, .unset, .unset] (fun m => by first | (simp [entryFrame, mkF, argsToLocals, Value.category, maxLocals]; done) | rfl) ?_
  intro p e s m below meth cd0 T0 X0 Q' hQ
  refine o_lconst (v := (0 : Int64)) X0 d3_0 rfl 1 rfl ?_
  refine o_lstoreN X0 d3_1 #[.val (.ref xo), .val (.int (1 : Int32)), .val (.long (0 : Int64)), .second, .unset] rfl 2 rfl ?_
  refine o_iconst (v := (0 : Int32)) X0 d3_2 rfl 3 rfl ?_
  refine o_istore X0 d3_3 #[.val (.ref xo), .val (.int (1 : Int32)), .val (.long (0 : Int64)), .second, .val (.int (0 : Int32))] rfl 5 rfl ?_
  refine o_iload X0 d3_5 rfl 7 rfl ?_
  refine o_aloadN X0 d3_7 rfl rfl 8 rfl ?_
  refine o_getF X0 H0 0 rfl d3_8 0 rfl (hw _ (List.mem_of_getElem? (i := 11) rfl)) 11 rfl ?_
  intro T1 X1
  refine o_icmpGe X1 d3_11 38 14 (by decide) (by decide) rfl (fun q => by exfalso; exact absurd q (by decide)) ?_
  intro hc11
  refine o_lloadN X1 d3_14 rfl 15 rfl ?_
  refine o_aloadN X1 d3_15 rfl rfl 16 rfl ?_
  refine o_getF X1 H0 0 rfl d3_16 4 rfl (hw _ (List.mem_of_getElem? (i := 19) rfl)) 19 rfl ?_
  intro T2 X2
  refine o_iloadN X2 d3_19 rfl 20 rfl ?_
  refine o_aloadN X2 d3_20 rfl rfl 21 rfl ?_
  refine o_getF X2 H0 0 rfl d3_21 0 rfl (hw _ (List.mem_of_getElem? (i := 11) rfl)) 24 rfl ?_
  intro T3 X3
  refine o_imul X3 d3_24 25 rfl ?_
  refine o_iload X3 d3_25 rfl 27 rfl ?_
  refine o_iadd X3 d3_27 28 rfl ?_
  refine o_iaload X3 H0 1 rfl d3_28 4 rfl y4 rfl 29 rfl ?_
  refine o_i2l X3 d3_29 30 rfl ?_
  refine o_ladd X3 d3_30 31 rfl ?_
  refine o_lstoreN X3 d3_31 #[.val (.ref xo), .val (.int (1 : Int32)), .val (.long ((0 : Int64) + (Int32.toInt64 y4))), .second, .val (.int (0 : Int32))] rfl 32 rfl ?_
  refine o_iinc (v := (0 : Int32)) (w := (1 : Int32)) X3 d3_32 rfl rfl #[.val (.ref xo), .val (.int (1 : Int32)), .val (.long ((0 : Int64) + (Int32.toInt64 y4))), .second, .val (.int (1 : Int32))] rfl 35 rfl ?_
  refine o_goto X3 d3_35 5 (by decide) (by decide) ?_
  refine o_iload X3 d3_5 rfl 7 rfl ?_
  refine o_aloadN X3 d3_7 rfl rfl 8 rfl ?_
  refine o_getF X3 H0 0 rfl d3_8 0 rfl (hw _ (List.mem_of_getElem? (i := 11) rfl)) 11 rfl ?_
  intro T4 X4
  refine o_icmpGe X4 d3_11 38 14 (by decide) (by decide) rfl (fun q => by exfalso; exact absurd q (by decide)) ?_
  intro hc11_1
  refine o_lloadN X4 d3_14 rfl 15 rfl ?_
  refine o_aloadN X4 d3_15 rfl rfl 16 rfl ?_
  refine o_getF X4 H0 0 rfl d3_16 4 rfl (hw _ (List.mem_of_getElem? (i := 19) rfl)) 19 rfl ?_
  intro T5 X5
  refine o_iloadN X5 d3_19 rfl 20 rfl ?_
  refine o_aloadN X5 d3_20 rfl rfl 21 rfl ?_
  refine o_getF X5 H0 0 rfl d3_21 0 rfl (hw _ (List.mem_of_getElem? (i := 11) rfl)) 24 rfl ?_
  intro T6 X6
  refine o_imul X6 d3_24 25 rfl ?_
  refine o_iload X6 d3_25 rfl 27 rfl ?_
  refine o_iadd X6 d3_27 28 rfl ?_
  refine o_iaload X6 H0 1 rfl d3_28 5 rfl y5 rfl 29 rfl ?_
  refine o_i2l X6 d3_29 30 rfl ?_
  refine o_ladd X6 d3_30 31 rfl ?_
  refine o_lstoreN X6 d3_31 #[.val (.ref xo), .val (.int (1 : Int32)), .val (.long (((0 : Int64) + (Int32.toInt64 y4)) + (Int32.toInt64 y5))), .second, .val (.int (1 : Int32))] rfl 32 rfl ?_
  refine o_iinc (v := (1 : Int32)) (w := (2 : Int32)) X6 d3_32 rfl rfl #[.val (.ref xo), .val (.int (1 : Int32)), .val (.long (((0 : Int64) + (Int32.toInt64 y4)) + (Int32.toInt64 y5))), .second, .val (.int (2 : Int32))] rfl 35 rfl ?_
  refine o_goto X6 d3_35 5 (by decide) (by decide) ?_
  refine o_iload X6 d3_5 rfl 7 rfl ?_
  refine o_aloadN X6 d3_7 rfl rfl 8 rfl ?_
  refine o_getF X6 H0 0 rfl d3_8 0 rfl (hw _ (List.mem_of_getElem? (i := 11) rfl)) 11 rfl ?_
  intro T7 X7
  refine o_icmpGe X7 d3_11 38 14 (by decide) (by decide) rfl (fun q => by exfalso; exact absurd q (by decide)) ?_
  intro hc11_2
  refine o_lloadN X7 d3_14 rfl 15 rfl ?_
  refine o_aloadN X7 d3_15 rfl rfl 16 rfl ?_
  refine o_getF X7 H0 0 rfl d3_16 4 rfl (hw _ (List.mem_of_getElem? (i := 19) rfl)) 19 rfl ?_
  intro T8 X8
  refine o_iloadN X8 d3_19 rfl 20 rfl ?_
  refine o_aloadN X8 d3_20 rfl rfl 21 rfl ?_
  refine o_getF X8 H0 0 rfl d3_21 0 rfl (hw _ (List.mem_of_getElem? (i := 11) rfl)) 24 rfl ?_
  intro T9 X9
  refine o_imul X9 d3_24 25 rfl ?_
  refine o_iload X9 d3_25 rfl 27 rfl ?_
  refine o_iadd X9 d3_27 28 rfl ?_
  refine o_iaload X9 H0 1 rfl d3_28 6 rfl y6 rfl 29 rfl ?_
  refine o_i2l X9 d3_29 30 rfl ?_
  refine o_ladd X9 d3_30 31 rfl ?_
  refine o_lstoreN X9 d3_31 #[.val (.ref xo), .val (.int (1 : Int32)), .val (.long ((((0 : Int64) + (Int32.toInt64 y4)) + (Int32.toInt64 y5)) + (Int32.toInt64 y6))), .second, .val (.int (2 : Int32))] rfl 32 rfl ?_
  refine o_iinc (v := (2 : Int32)) (w := (3 : Int32)) X9 d3_32 rfl rfl #[.val (.ref xo), .val (.int (1 : Int32)), .val (.long ((((0 : Int64) + (Int32.toInt64 y4)) + (Int32.toInt64 y5)) + (Int32.toInt64 y6))), .second, .val (.int (3 : Int32))] rfl 35 rfl ?_
  refine o_goto X9 d3_35 5 (by decide) (by decide) ?_
  refine o_iload X9 d3_5 rfl 7 rfl ?_
  refine o_aloadN X9 d3_7 rfl rfl 8 rfl ?_
  refine o_getF X9 H0 0 rfl d3_8 0 rfl (hw _ (List.mem_of_getElem? (i := 11) rfl)) 11 rfl ?_
  intro T10 X10
  refine o_icmpGe X10 d3_11 38 14 (by decide) (by decide) rfl (fun q => by exfalso; exact absurd q (by decide)) ?_
  intro hc11_3
  refine o_lloadN X10 d3_14 rfl 15 rfl ?_
  refine o_aloadN X10 d3_15 rfl rfl 16 rfl ?_
  refine o_getF X10 H0 0 rfl d3_16 4 rfl (hw _ (List.mem_of_getElem? (i := 19) rfl)) 19 rfl ?_
  intro T11 X11
  refine o_iloadN X11 d3_19 rfl 20 rfl ?_
  refine o_aloadN X11 d3_20 rfl rfl 21 rfl ?_
  refine o_getF X11 H0 0 rfl d3_21 0 rfl (hw _ (List.mem_of_getElem? (i := 11) rfl)) 24 rfl ?_
  intro T12 X12
  refine o_imul X12 d3_24 25 rfl ?_
  refine o_iload X12 d3_25 rfl 27 rfl ?_
  refine o_iadd X12 d3_27 28 rfl ?_
  refine o_iaload X12 H0 1 rfl d3_28 7 rfl y7 rfl 29 rfl ?_
  refine o_i2l X12 d3_29 30 rfl ?_
  refine o_ladd X12 d3_30 31 rfl ?_
  refine o_lstoreN X12 d3_31 #[.val (.ref xo), .val (.int (1 : Int32)), .val (.long (((((0 : Int64) + (Int32.toInt64 y4)) + (Int32.toInt64 y5)) + (Int32.toInt64 y6)) + (Int32.toInt64 y7))), .second, .val (.int (3 : Int32))] rfl 32 rfl ?_
  refine o_iinc (v := (3 : Int32)) (w := (4 : Int32)) X12 d3_32 rfl rfl #[.val (.ref xo), .val (.int (1 : Int32)), .val (.long (((((0 : Int64) + (Int32.toInt64 y4)) + (Int32.toInt64 y5)) + (Int32.toInt64 y6)) + (Int32.toInt64 y7))), .second, .val (.int (4 : Int32))] rfl 35 rfl ?_
  refine o_goto X12 d3_35 5 (by decide) (by decide) ?_
  refine o_iload X12 d3_5 rfl 7 rfl ?_
  refine o_aloadN X12 d3_7 rfl rfl 8 rfl ?_
  refine o_getF X12 H0 0 rfl d3_8 0 rfl (hw _ (List.mem_of_getElem? (i := 11) rfl)) 11 rfl ?_
  intro T13 X13
  refine o_icmpGe X13 d3_11 38 14 (by decide) (by decide) rfl ?_ (fun q => by exfalso; exact absurd q (by decide))
  intro hc11_4
  refine o_lloadN X13 d3_38 rfl 39 rfl ?_
  exact o_retJ X13 d3_39 (by decide) (by decide) (hQ _ _ ⟨rfl, rfl⟩)
set_option maxRecDepth 65536 in
set_option maxHeartbeats 40000000 in
theorem c_wt_4_2 (l : Launch) (Z : State) (a0 : Array Value) (hw : ∀ d ∈ tables_1, d.before a0 Z = true) (ws : List Jvm.Cond) (n0 : Nat) (h0 : Heap) (hn0 : n0 ≤ h0.size) (xo xc xk : Addr) (xw : Int32) (d1 d2 : UInt64) (y0 y1 y2 y3 y4 y5 y6 y7 y8 y9 y10 y11 : Int32) (L' : List (Addr × (Cell → Prop))) (H0 : OL n0 h0 ((xo, OO Z "com/example/palamedes/palamedes/lda/TopicModel" [("com/example/palamedes/palamedes/lda/TopicModel", "topics", "I", .int (4 : Int32)), ("com/example/palamedes/palamedes/lda/TopicModel", "words", "I", .int xw), ("com/example/palamedes/palamedes/lda/TopicModel", "alpha", "D", .double d1), ("com/example/palamedes/palamedes/lda/TopicModel", "beta", "D", .double d2), ("com/example/palamedes/palamedes/lda/TopicModel", "wordTopicCounts", "[I", .ref xc), ("com/example/palamedes/palamedes/lda/TopicModel", "topicCounts", "[I", .ref xk)]) :: (xc, OA Z .int [y0, y1, y2, y3, y4, y5, y6, y7, y8, y9, y10, y11]) :: L')) :
    OC l Z (⟨"com/example/palamedes/palamedes/lda/TopicModel", "wordTokens", "(I)J"⟩ : MethodName) prog_43_method_6_code 5 (some .long) ws ({ frames := 0, cells := 0, slots := 0, locals := 0 } : Room) n0 #[(.ref xo), (.int (2 : Int32))] h0 (fun r h => r = some (.long (((((0 : Int64) + (Int32.toInt64 y8)) + (Int32.toInt64 y9)) + (Int32.toInt64 y10)) + (Int32.toInt64 y11))) ∧ h0 = h) := by
  refine OC.of pn_0 hn0 #[.val (.ref xo), .val (.int (2 : Int32)), .unset, .unset, .unset] (fun m => by first | (simp [entryFrame, mkF, argsToLocals, Value.category, maxLocals]; done) | rfl) ?_
  intro p e s m below meth cd0 T0 X0 Q' hQ
  refine o_lconst (v := (0 : Int64)) X0 d3_0 rfl 1 rfl ?_
  refine o_lstoreN X0 d3_1 #[.val (.ref xo), .val (.int (2 : Int32)), .val (.long (0 : Int64)), .second, .unset] rfl 2 rfl ?_
  refine o_iconst (v := (0 : Int32)) X0 d3_2 rfl 3 rfl ?_
  refine o_istore X0 d3_3 #[.val (.ref xo), .val (.int (2 : Int32)), .val (.long (0 : Int64)), .second, .val (.int (0 : Int32))] rfl 5 rfl ?_
  refine o_iload X0 d3_5 rfl 7 rfl ?_
  refine o_aloadN X0 d3_7 rfl rfl 8 rfl ?_
  refine o_getF X0 H0 0 rfl d3_8 0 rfl (hw _ (List.mem_of_getElem? (i := 11) rfl)) 11 rfl ?_
  intro T1 X1
  refine o_icmpGe X1 d3_11 38 14 (by decide) (by decide) rfl (fun q => by exfalso; exact absurd q (by decide)) ?_
  intro hc11
  refine o_lloadN X1 d3_14 rfl 15 rfl ?_
  refine o_aloadN X1 d3_15 rfl rfl 16 rfl ?_
  refine o_getF X1 H0 0 rfl d3_16 4 rfl (hw _ (List.mem_of_getElem? (i := 19) rfl)) 19 rfl ?_
  intro T2 X2
  refine o_iloadN X2 d3_19 rfl 20 rfl ?_
  refine o_aloadN X2 d3_20 rfl rfl 21 rfl ?_
  refine o_getF X2 H0 0 rfl d3_21 0 rfl (hw _ (List.mem_of_getElem? (i := 11) rfl)) 24 rfl ?_
  intro T3 X3
  refine o_imul X3 d3_24 25 rfl ?_
  refine o_iload X3 d3_25 rfl 27 rfl ?_
  refine o_iadd X3 d3_27 28 rfl ?_
  refine o_iaload X3 H0 1 rfl d3_28 8 rfl y8 rfl 29 rfl ?_
  refine o_i2l X3 d3_29 30 rfl ?_
  refine o_ladd X3 d3_30 31 rfl ?_
  refine o_lstoreN X3 d3_31 #[.val (.ref xo), .val (.int (2 : Int32)), .val (.long ((0 : Int64) + (Int32.toInt64 y8))), .second, .val (.int (0 : Int32))] rfl 32 rfl ?_
  refine o_iinc (v := (0 : Int32)) (w := (1 : Int32)) X3 d3_32 rfl rfl #[.val (.ref xo), .val (.int (2 : Int32)), .val (.long ((0 : Int64) + (Int32.toInt64 y8))), .second, .val (.int (1 : Int32))] rfl 35 rfl ?_
  refine o_goto X3 d3_35 5 (by decide) (by decide) ?_
  refine o_iload X3 d3_5 rfl 7 rfl ?_
  refine o_aloadN X3 d3_7 rfl rfl 8 rfl ?_
  refine o_getF X3 H0 0 rfl d3_8 0 rfl (hw _ (List.mem_of_getElem? (i := 11) rfl)) 11 rfl ?_
  intro T4 X4
  refine o_icmpGe X4 d3_11 38 14 (by decide) (by decide) rfl (fun q => by exfalso; exact absurd q (by decide)) ?_
  intro hc11_1
  refine o_lloadN X4 d3_14 rfl 15 rfl ?_
  refine o_aloadN X4 d3_15 rfl rfl 16 rfl ?_
  refine o_getF X4 H0 0 rfl d3_16 4 rfl (hw _ (List.mem_of_getElem? (i := 19) rfl)) 19 rfl ?_
  intro T5 X5
  refine o_iloadN X5 d3_19 rfl 20 rfl ?_
  refine o_aloadN X5 d3_20 rfl rfl 21 rfl ?_
  refine o_getF X5 H0 0 rfl d3_21 0 rfl (hw _ (List.mem_of_getElem? (i := 11) rfl)) 24 rfl ?_
  intro T6 X6
  refine o_imul X6 d3_24 25 rfl ?_
  refine o_iload X6 d3_25 rfl 27 rfl ?_
  refine o_iadd X6 d3_27 28 rfl ?_
  refine o_iaload X6 H0 1 rfl d3_28 9 rfl y9 rfl 29 rfl ?_
  refine o_i2l X6 d3_29 30 rfl ?_
  refine o_ladd X6 d3_30 31 rfl ?_
  refine o_lstoreN X6 d3_31 #[.val (.ref xo), .val (.int (2 : Int32)), .val (.long (((0 : Int64) + (Int32.toInt64 y8)) + (Int32.toInt64 y9))), .second, .val (.int (1 : Int32))] rfl 32 rfl ?_
  refine o_iinc (v := (1 : Int32)) (w := (2 : Int32)) X6 d3_32 rfl rfl #[.val (.ref xo), .val (.int (2 : Int32)), .val (.long (((0 : Int64) + (Int32.toInt64 y8)) + (Int32.toInt64 y9))), .second, .val (.int (2 : Int32))] rfl 35 rfl ?_
  refine o_goto X6 d3_35 5 (by decide) (by decide) ?_
  refine o_iload X6 d3_5 rfl 7 rfl ?_
  refine o_aloadN X6 d3_7 rfl rfl 8 rfl ?_
  refine o_getF X6 H0 0 rfl d3_8 0 rfl (hw _ (List.mem_of_getElem? (i := 11) rfl)) 11 rfl ?_
  intro T7 X7
  refine o_icmpGe X7 d3_11 38 14 (by decide) (by decide) rfl (fun q => by exfalso; exact absurd q (by decide)) ?_
  intro hc11_2
  refine o_lloadN X7 d3_14 rfl 15 rfl ?_
  refine o_aloadN X7 d3_15 rfl rfl 16 rfl ?_
  refine o_getF X7 H0 0 rfl d3_16 4 rfl (hw _ (List.mem_of_getElem? (i := 19) rfl)) 19 rfl ?_
  intro T8 X8
  refine o_iloadN X8 d3_19 rfl 20 rfl ?_
  refine o_aloadN X8 d3_20 rfl rfl 21 rfl ?_
  refine o_getF X8 H0 0 rfl d3_21 0 rfl (hw _ (List.mem_of_getElem? (i := 11) rfl)) 24 rfl ?_
  intro T9 X9
  refine o_imul X9 d3_24 25 rfl ?_
  refine o_iload X9 d3_25 rfl 27 rfl ?_
  refine o_iadd X9 d3_27 28 rfl ?_
  refine o_iaload X9 H0 1 rfl d3_28 10 rfl y10 rfl 29 rfl ?_
  refine o_i2l X9 d3_29 30 rfl ?_
  refine o_ladd X9 d3_30 31 rfl ?_
  refine o_lstoreN X9 d3_31 #[.val (.ref xo), .val (.int (2 : Int32)), .val (.long ((((0 : Int64) + (Int32.toInt64 y8)) + (Int32.toInt64 y9)) + (Int32.toInt64 y10))), .second, .val (.int (2 : Int32))] rfl 32 rfl ?_
  refine o_iinc (v := (2 : Int32)) (w := (3 : Int32)) X9 d3_32 rfl rfl #[.val (.ref xo), .val (.int (2 : Int32)), .val (.long ((((0 : Int64) + (Int32.toInt64 y8)) + (Int32.toInt64 y9)) + (Int32.toInt64 y10))), .second, .val (.int (3 : Int32))] rfl 35 rfl ?_
  refine o_goto X9 d3_35 5 (by decide) (by decide) ?_
  refine o_iload X9 d3_5 rfl 7 rfl ?_
  refine o_aloadN X9 d3_7 rfl rfl 8 rfl ?_
  refine o_getF X9 H0 0 rfl d3_8 0 rfl (hw _ (List.mem_of_getElem? (i := 11) rfl)) 11 rfl ?_
  intro T10 X10
  refine o_icmpGe X10 d3_11 38 14 (by decide) (by decide) rfl (fun q => by exfalso; exact absurd q (by decide)) ?_
  intro hc11_3
  refine o_lloadN X10 d3_14 rfl 15 rfl ?_
  refine o_aloadN X10 d3_15 rfl rfl 16 rfl ?_
  refine o_getF X10 H0 0 rfl d3_16 4 rfl (hw _ (List.mem_of_getElem? (i := 19) rfl)) 19 rfl ?_
  intro T11 X11
  refine o_iloadN X11 d3_19 rfl 20 rfl ?_
  refine o_aloadN X11 d3_20 rfl rfl 21 rfl ?_
  refine o_getF X11 H0 0 rfl d3_21 0 rfl (hw _ (List.mem_of_getElem? (i := 11) rfl)) 24 rfl ?_
  intro T12 X12
  refine o_imul X12 d3_24 25 rfl ?_
  refine o_iload X12 d3_25 rfl 27 rfl ?_
  refine o_iadd X12 d3_27 28 rfl ?_
  refine o_iaload X12 H0 1 rfl d3_28 11 rfl y11 rfl 29 rfl ?_
  refine o_i2l X12 d3_29 30 rfl ?_
  refine o_ladd X12 d3_30 31 rfl ?_
  refine o_lstoreN X12 d3_31 #[.val (.ref xo), .val (.int (2 : Int32)), .val (.long (((((0 : Int64) + (Int32.toInt64 y8)) + (Int32.toInt64 y9)) + (Int32.toInt64 y10)) + (Int32.toInt64 y11))), .second, .val (.int (3 : Int32))] rfl 32 rfl ?_
  refine o_iinc (v := (3 : Int32)) (w := (4 : Int32)) X12 d3_32 rfl rfl #[.val (.ref xo), .val (.int (2 : Int32)), .val (.long (((((0 : Int64) + (Int32.toInt64 y8)) + (Int32.toInt64 y9)) + (Int32.toInt64 y10)) + (Int32.toInt64 y11))), .second, .val (.int (4 : Int32))] rfl 35 rfl ?_
  refine o_goto X12 d3_35 5 (by decide) (by decide) ?_
  refine o_iload X12 d3_5 rfl 7 rfl ?_
  refine o_aloadN X12 d3_7 rfl rfl 8 rfl ?_
  refine o_getF X12 H0 0 rfl d3_8 0 rfl (hw _ (List.mem_of_getElem? (i := 11) rfl)) 11 rfl ?_
  intro T13 X13
  refine o_icmpGe X13 d3_11 38 14 (by decide) (by decide) rfl ?_ (fun q => by exfalso; exact absurd q (by decide))
  intro hc11_4
  refine o_lloadN X13 d3_38 rfl 39 rfl ?_
  exact o_retJ X13 d3_39 (by decide) (by decide) (hQ _ _ ⟨rfl, rfl⟩)
set_option maxRecDepth 65536 in
set_option maxHeartbeats 40000000 in
theorem c_law (l : Launch) (Z : State) (a0 : Array Value) (hw : ∀ d ∈ tables_1, d.before a0 Z = true) (ws : List Jvm.Cond) (n0 : Nat) (h0 : Heap) (hn0 : n0 ≤ h0.size) (xs : Int32) (xa : Int32) (xb : Int32) (xc : Int32) (xd : Int32) (xe : Int32) :
    OC l Z x code maxLocals ret ws room_1 n0 #[(.int xs), (.int xa), (.int xb), (.int xc), (.int xd), (.int xe)] h0 (fun r h => r = some (.int 1)) := by
  refine OC.of pn_2 hn0 #[.val (.int xs), .val (.int xa), .val (.int xb), .val (.int xc), .val (.int xd), .val (.int xe), .unset, .unset, .unset, .unset, .unset, .unset, .unset] (fun m => by first | (simp [entryFrame, mkF, argsToLocals, Value.category, maxLocals]; done) | rfl) ?_
  intro p e s m below meth cd0 T0 X0 Q' hQ
  refine o_iconst (v := (1 : Int32)) X0 at_0 rfl 1 rfl ?_
  refine o_iloadN X0 at_1 rfl 2 rfl ?_
  refine o_iconst (v := (3 : Int32)) X0 at_2 rfl 3 rfl ?_
  refine o_iand X0 at_3 4 rfl ?_
  refine o_iadd X0 at_4 5 rfl ?_
  refine o_istore X0 at_5 #[.val (.int xs), .val (.int xa), .val (.int xb), .val (.int xc), .val (.int xd), .val (.int xe), .val (.int ((1 : Int32) + (xs &&& (3 : Int32)))), .unset, .unset, .unset, .unset, .unset, .unset] rfl 7 rfl ?_
  refine o_iloadN X0 at_7 rfl 8 rfl ?_
  refine o_iconst (v := (2 : Int32)) X0 at_8 rfl 9 rfl ?_
  refine o_iushr X0 at_9 10 rfl ?_
  refine o_ldc (v := (2147483647 : Int32)) X0 at_10 (hw _ (List.mem_of_getElem? (i := 0) rfl)) 12 rfl ?_
  refine o_iand X0 at_12 13 rfl ?_
  refine o_iconst (v := (3 : Int32)) X0 at_13 rfl 14 rfl ?_
  refine o_irem X0 at_14 (by decide) 15 rfl ?_
  refine o_istore X0 at_15 #[.val (.int xs), .val (.int xa), .val (.int xb), .val (.int xc), .val (.int xd), .val (.int xe), .val (.int ((1 : Int32) + (xs &&& (3 : Int32)))), .val (.int (((XT.ushr xs (2 : Int32)) &&& (2147483647 : Int32)) % (3 : Int32))), .unset, .unset, .unset, .unset, .unset] rfl 17 rfl ?_
  refine o_bipush (v := (12 : Int32)) X0 at_17 rfl 19 rfl ?_
  refine o_newarray (L := []) X0 OL.nil at_19 (hw _ (List.mem_of_getElem? (i := 1) rfl)) rfl rfl 12 12 rfl (by decide) (by decide) 1 12 rfl rfl (by decide) (by decide) 21 rfl ?_
  intro T1 h1 b1 X1 H1
  replace H1 : OL n0 h1 ((b1, OA Z .int [(0 : Int32), (0 : Int32), (0 : Int32), (0 : Int32), (0 : Int32), (0 : Int32), (0 : Int32), (0 : Int32), (0 : Int32), (0 : Int32), (0 : Int32), (0 : Int32)]) :: []) := H1
  refine o_dup X1 at_21 rfl 22 rfl ?_
  refine o_iconst (v := (0 : Int32)) X1 at_22 rfl 23 rfl ?_
  refine o_iload X1 at_23 rfl 25 rfl ?_
  refine o_iastore X1 H1 0 rfl at_25 0 rfl (by show 0 < 12; decide) 26 rfl ?_
  intro T2 h2 X2 H2
  replace H2 : OL n0 h2 ((b1, OA Z .int [xe, (0 : Int32), (0 : Int32), (0 : Int32), (0 : Int32), (0 : Int32), (0 : Int32), (0 : Int32), (0 : Int32), (0 : Int32), (0 : Int32), (0 : Int32)]) :: []) := H2
  refine o_dup X2 at_26 rfl 27 rfl ?_
  refine o_iconst (v := (1 : Int32)) X2 at_27 rfl 28 rfl ?_
  refine o_iload X2 at_28 rfl 30 rfl ?_
  refine o_iastore X2 H2 0 rfl at_30 1 rfl (by show 1 < 12; decide) 31 rfl ?_
  intro T3 h3 X3 H3
  replace H3 : OL n0 h3 ((b1, OA Z .int [xe, xe, (0 : Int32), (0 : Int32), (0 : Int32), (0 : Int32), (0 : Int32), (0 : Int32), (0 : Int32), (0 : Int32), (0 : Int32), (0 : Int32)]) :: []) := H3
  refine o_dup X3 at_31 rfl 32 rfl ?_
  refine o_iconst (v := (2 : Int32)) X3 at_32 rfl 33 rfl ?_
  refine o_iload X3 at_33 rfl 35 rfl ?_
  refine o_iastore X3 H3 0 rfl at_35 2 rfl (by show 2 < 12; decide) 36 rfl ?_
  intro T4 h4 X4 H4
  replace H4 : OL n0 h4 ((b1, OA Z .int [xe, xe, xe, (0 : Int32), (0 : Int32), (0 : Int32), (0 : Int32), (0 : Int32), (0 : Int32), (0 : Int32), (0 : Int32), (0 : Int32)]) :: []) := H4
  refine o_dup X4 at_36 rfl 37 rfl ?_
  refine o_iconst (v := (3 : Int32)) X4 at_37 rfl 38 rfl ?_
  refine o_iload X4 at_38 rfl 40 rfl ?_
  refine o_iastore X4 H4 0 rfl at_40 3 rfl (by show 3 < 12; decide) 41 rfl ?_
  intro T5 h5 X5 H5
  replace H5 : OL n0 h5 ((b1, OA Z .int [xe, xe, xe, xe, (0 : Int32), (0 : Int32), (0 : Int32), (0 : Int32), (0 : Int32), (0 : Int32), (0 : Int32), (0 : Int32)]) :: []) := H5
  refine o_dup X5 at_41 rfl 42 rfl ?_
  refine o_iconst (v := (4 : Int32)) X5 at_42 rfl 43 rfl ?_
  refine o_iload X5 at_43 rfl 45 rfl ?_
  refine o_iastore X5 H5 0 rfl at_45 4 rfl (by show 4 < 12; decide) 46 rfl ?_
  intro T6 h6 X6 H6
  replace H6 : OL n0 h6 ((b1, OA Z .int [xe, xe, xe, xe, xe, (0 : Int32), (0 : Int32), (0 : Int32), (0 : Int32), (0 : Int32), (0 : Int32), (0 : Int32)]) :: []) := H6
  refine o_dup X6 at_46 rfl 47 rfl ?_
  refine o_iconst (v := (5 : Int32)) X6 at_47 rfl 48 rfl ?_
  refine o_iload X6 at_48 rfl 50 rfl ?_
  refine o_iastore X6 H6 0 rfl at_50 5 rfl (by show 5 < 12; decide) 51 rfl ?_
  intro T7 h7 X7 H7
  replace H7 : OL n0 h7 ((b1, OA Z .int [xe, xe, xe, xe, xe, xe, (0 : Int32), (0 : Int32), (0 : Int32), (0 : Int32), (0 : Int32), (0 : Int32)]) :: []) := H7
  refine o_dup X7 at_51 rfl 52 rfl ?_
  refine o_bipush (v := (6 : Int32)) X7 at_52 rfl 54 rfl ?_
  refine o_iload X7 at_54 rfl 56 rfl ?_
  refine o_iastore X7 H7 0 rfl at_56 6 rfl (by show 6 < 12; decide) 57 rfl ?_
  intro T8 h8 X8 H8
  replace H8 : OL n0 h8 ((b1, OA Z .int [xe, xe, xe, xe, xe, xe, xe, (0 : Int32), (0 : Int32), (0 : Int32), (0 : Int32), (0 : Int32)]) :: []) := H8
  refine o_dup X8 at_57 rfl 58 rfl ?_
  refine o_bipush (v := (7 : Int32)) X8 at_58 rfl 60 rfl ?_
  refine o_iload X8 at_60 rfl 62 rfl ?_
  refine o_iastore X8 H8 0 rfl at_62 7 rfl (by show 7 < 12; decide) 63 rfl ?_
  intro T9 h9 X9 H9
  replace H9 : OL n0 h9 ((b1, OA Z .int [xe, xe, xe, xe, xe, xe, xe, xe, (0 : Int32), (0 : Int32), (0 : Int32), (0 : Int32)]) :: []) := H9
  refine o_dup X9 at_63 rfl 64 rfl ?_
  refine o_bipush (v := (8 : Int32)) X9 at_64 rfl 66 rfl ?_
  refine o_iload X9 at_66 rfl 68 rfl ?_
  refine o_iastore X9 H9 0 rfl at_68 8 rfl (by show 8 < 12; decide) 69 rfl ?_
  intro T10 h10 X10 H10
  replace H10 : OL n0 h10 ((b1, OA Z .int [xe, xe, xe, xe, xe, xe, xe, xe, xe, (0 : Int32), (0 : Int32), (0 : Int32)]) :: []) := H10
  refine o_dup X10 at_69 rfl 70 rfl ?_
  refine o_bipush (v := (9 : Int32)) X10 at_70 rfl 72 rfl ?_
  refine o_iload X10 at_72 rfl 74 rfl ?_
  refine o_iastore X10 H10 0 rfl at_74 9 rfl (by show 9 < 12; decide) 75 rfl ?_
  intro T11 h11 X11 H11
  replace H11 : OL n0 h11 ((b1, OA Z .int [xe, xe, xe, xe, xe, xe, xe, xe, xe, xe, (0 : Int32), (0 : Int32)]) :: []) := H11
  refine o_dup X11 at_75 rfl 76 rfl ?_
  refine o_bipush (v := (10 : Int32)) X11 at_76 rfl 78 rfl ?_
  refine o_iload X11 at_78 rfl 80 rfl ?_
  refine o_iastore X11 H11 0 rfl at_80 10 rfl (by show 10 < 12; decide) 81 rfl ?_
  intro T12 h12 X12 H12
  replace H12 : OL n0 h12 ((b1, OA Z .int [xe, xe, xe, xe, xe, xe, xe, xe, xe, xe, xe, (0 : Int32)]) :: []) := H12
  refine o_dup X12 at_81 rfl 82 rfl ?_
  refine o_bipush (v := (11 : Int32)) X12 at_82 rfl 84 rfl ?_
  refine o_iload X12 at_84 rfl 86 rfl ?_
  refine o_iastore X12 H12 0 rfl at_86 11 rfl (by show 11 < 12; decide) 87 rfl ?_
  intro T13 h13 X13 H13
  replace H13 : OL n0 h13 ((b1, OA Z .int [xe, xe, xe, xe, xe, xe, xe, xe, xe, xe, xe, xe]) :: []) := H13
  refine o_astore X13 at_87 rfl #[.val (.int xs), .val (.int xa), .val (.int xb), .val (.int xc), .val (.int xd), .val (.int xe), .val (.int ((1 : Int32) + (xs &&& (3 : Int32)))), .val (.int (((XT.ushr xs (2 : Int32)) &&& (2147483647 : Int32)) % (3 : Int32))), .val (.ref b1), .unset, .unset, .unset, .unset] rfl 89 rfl ?_
  rcases v_t xs with hv | hv | hv | hv
  · rw [hv]
    rcases v_w (XT.ushr xs 2) with hv | hv | hv
    · rw [hv]
      refine o_iload X13 at_89 rfl 91 rfl ?_
      refine o_iload X13 at_91 rfl 93 rfl ?_
      refine o_imul X13 at_93 94 rfl ?_
      refine o_istore X13 at_94 #[.val (.int xs), .val (.int xa), .val (.int xb), .val (.int xc), .val (.int xd), .val (.int xe), .val (.int (1 : Int32)), .val (.int (0 : Int32)), .val (.ref b1), .val (.int ((0 : Int32) * (1 : Int32))), .unset, .unset, .unset] rfl 96 rfl ?_
      rw [show ((0 : Int32) * (1 : Int32)) = (0 : Int32) from rfl]
      refine o_aload X13 at_96 rfl rfl 98 rfl ?_
      refine o_iload X13 at_98 rfl 100 rfl ?_
      refine o_iloadN X13 at_100 rfl 101 rfl ?_
      refine o_iastore X13 H13 0 rfl at_101 0 rfl (by show 0 < 12; decide) 102 rfl ?_
      intro T14 h14 X14 H14
      replace H14 : OL n0 h14 ((b1, OA Z .int [xa, xe, xe, xe, xe, xe, xe, xe, xe, xe, xe, xe]) :: []) := H14
      refine o_iload X14 at_102 rfl 104 rfl ?_
      refine o_iconst (v := (1 : Int32)) X14 at_104 rfl 105 rfl ?_
      refine o_icmpLe X14 at_105 116 108 (by decide) (by decide) rfl ?_ (fun q => by exfalso; exact absurd q (by decide))
      intro hc105
      refine o_iload X14 at_116 rfl 118 rfl ?_
      refine o_iconst (v := (2 : Int32)) X14 at_118 rfl 119 rfl ?_
      refine o_icmpLe X14 at_119 130 122 (by decide) (by decide) rfl ?_ (fun q => by exfalso; exact absurd q (by decide))
      intro hc119
      refine o_iload X14 at_130 rfl 132 rfl ?_
      refine o_iconst (v := (3 : Int32)) X14 at_132 rfl 133 rfl ?_
      refine o_icmpLe X14 at_133 145 136 (by decide) (by decide) rfl ?_ (fun q => by exfalso; exact absurd q (by decide))
      intro hc133
      refine o_new (L := ((b1, OA Z .int [xa, xe, xe, xe, xe, xe, xe, xe, xe, xe, xe, xe]) :: [])) X14 H14 at_145 (hw _ (List.mem_of_getElem? (i := 2) rfl)) (hw _ (List.mem_of_getElem? (i := 3) rfl)) (hw _ (List.mem_of_getElem? (i := 4) rfl)) [("com/example/palamedes/palamedes/lda/TopicModel", "topics", "I", .int (0 : Int32)), ("com/example/palamedes/palamedes/lda/TopicModel", "words", "I", .int (0 : Int32)), ("com/example/palamedes/palamedes/lda/TopicModel", "alpha", "D", .double 0), ("com/example/palamedes/palamedes/lda/TopicModel", "beta", "D", .double 0), ("com/example/palamedes/palamedes/lda/TopicModel", "wordTopicCounts", "[I", .null), ("com/example/palamedes/palamedes/lda/TopicModel", "topicCounts", "[I", .null)] (oqS ⟨.int, Or.inr (hw _ (List.mem_of_getElem? (i := 12) rfl)), by decide, rfl⟩ (oqS ⟨.int, Or.inr (hw _ (List.mem_of_getElem? (i := 14) rfl)), by decide, rfl⟩ (oqS ⟨.double, Or.inr (hw _ (List.mem_of_getElem? (i := 16) rfl)), by decide, rfl⟩ (oqS ⟨.double, Or.inr (hw _ (List.mem_of_getElem? (i := 18) rfl)), by decide, rfl⟩ (oqS ⟨(.array .int), Or.inr (hw _ (List.mem_of_getElem? (i := 20) rfl)), by decide, rfl⟩ (oqS ⟨(.array .int), Or.inr (hw _ (List.mem_of_getElem? (i := 22) rfl)), by decide, rfl⟩ oq0)))))) 2 18 rfl rfl (by decide) (by decide) 148 rfl ?_
      intro T15 h15 b15 X15 H15
      refine o_dup X15 at_148 rfl 149 rfl ?_
      refine o_iload X15 at_149 rfl 151 rfl ?_
      refine o_iconst (v := (3 : Int32)) X15 at_151 rfl 152 rfl ?_
      refine o_dconst1 X15 at_152 153 rfl ?_
      refine o_dconst1 X15 at_153 154 rfl ?_
      refine o_aload X15 at_154 rfl rfl 156 rfl ?_
      refine o_iconst (v := (4 : Int32)) X15 at_156 rfl 157 rfl ?_
      refine o_newarray (L := ((b15, OO Z "com/example/palamedes/palamedes/lda/TopicModel" [("com/example/palamedes/palamedes/lda/TopicModel", "topics", "I", .int (0 : Int32)), ("com/example/palamedes/palamedes/lda/TopicModel", "words", "I", .int (0 : Int32)), ("com/example/palamedes/palamedes/lda/TopicModel", "alpha", "D", .double 0), ("com/example/palamedes/palamedes/lda/TopicModel", "beta", "D", .double 0), ("com/example/palamedes/palamedes/lda/TopicModel", "wordTopicCounts", "[I", .null), ("com/example/palamedes/palamedes/lda/TopicModel", "topicCounts", "[I", .null)]) :: (b1, OA Z .int [xa, xe, xe, xe, xe, xe, xe, xe, xe, xe, xe, xe]) :: [])) X15 H15 at_157 (hw _ (List.mem_of_getElem? (i := 1) rfl)) rfl rfl 4 4 rfl (by decide) (by decide) 3 22 rfl rfl (by decide) (by decide) 159 rfl ?_
      intro T16 h16 b16 X16 H16
      replace H16 : OL n0 h16 ((b16, OA Z .int [(0 : Int32), (0 : Int32), (0 : Int32), (0 : Int32)]) :: (b15, OO Z "com/example/palamedes/palamedes/lda/TopicModel" [("com/example/palamedes/palamedes/lda/TopicModel", "topics", "I", .int (0 : Int32)), ("com/example/palamedes/palamedes/lda/TopicModel", "words", "I", .int (0 : Int32)), ("com/example/palamedes/palamedes/lda/TopicModel", "alpha", "D", .double 0), ("com/example/palamedes/palamedes/lda/TopicModel", "beta", "D", .double 0), ("com/example/palamedes/palamedes/lda/TopicModel", "wordTopicCounts", "[I", .null), ("com/example/palamedes/palamedes/lda/TopicModel", "topicCounts", "[I", .null)]) :: (b1, OA Z .int [xa, xe, xe, xe, xe, xe, xe, xe, xe, xe, xe, xe]) :: []) := H16
      have H18 : OL n0 h16 ((b1, OA Z .int [xa, xe, xe, xe, xe, xe, xe, xe, xe, xe, xe, xe]) :: (b16, OA Z .int [(0 : Int32), (0 : Int32), (0 : Int32), (0 : Int32)]) :: (b15, OO Z "com/example/palamedes/palamedes/lda/TopicModel" [("com/example/palamedes/palamedes/lda/TopicModel", "topics", "I", .int (0 : Int32)), ("com/example/palamedes/palamedes/lda/TopicModel", "words", "I", .int (0 : Int32)), ("com/example/palamedes/palamedes/lda/TopicModel", "alpha", "D", .double 0), ("com/example/palamedes/palamedes/lda/TopicModel", "beta", "D", .double 0), ("com/example/palamedes/palamedes/lda/TopicModel", "wordTopicCounts", "[I", .null), ("com/example/palamedes/palamedes/lda/TopicModel", "topicCounts", "[I", .null)]) :: []) := H16.front 2 rfl
      have H19 : OL n0 h16 ((b15, OO Z "com/example/palamedes/palamedes/lda/TopicModel" [("com/example/palamedes/palamedes/lda/TopicModel", "topics", "I", .int (0 : Int32)), ("com/example/palamedes/palamedes/lda/TopicModel", "words", "I", .int (0 : Int32)), ("com/example/palamedes/palamedes/lda/TopicModel", "alpha", "D", .double 0), ("com/example/palamedes/palamedes/lda/TopicModel", "beta", "D", .double 0), ("com/example/palamedes/palamedes/lda/TopicModel", "wordTopicCounts", "[I", .null), ("com/example/palamedes/palamedes/lda/TopicModel", "topicCounts", "[I", .null)]) :: (b1, OA Z .int [xa, xe, xe, xe, xe, xe, xe, xe, xe, xe, xe, xe]) :: (b16, OA Z .int [(0 : Int32), (0 : Int32), (0 : Int32), (0 : Int32)]) :: []) := H18.front 2 rfl
      refine o_callI X16 at_159 (rest := [(.ref b15)]) (c_init l Z a0 hw [] n0 _ X16.size b15 (1 : Int32) (3 : Int32) FP.dconst1 FP.dconst1 b1 b16 _ _ _ _ _ _ ((b1, OA Z .int [xa, xe, xe, xe, xe, xe, xe, xe, xe, xe, xe, xe]) :: (b16, OA Z .int [(0 : Int32), (0 : Int32), (0 : Int32), (0 : Int32)]) :: []) H19) rfl (hw _ (List.mem_of_getElem? (i := 5) rfl)) (hw _ (List.mem_of_getElem? (i := 6) rfl)) (hw _ (List.mem_of_getElem? (i := 4) rfl)) (hw _ (List.mem_of_getElem? (i := 7) rfl)) (by decide) 1 (by decide) (by decide) rfl [(.int (1 : Int32)), (.int (3 : Int32)), (.double FP.dconst1), (.double FP.dconst1), (.ref b1), (.ref b16)] rfl pd_1 rfl rfl (Nat.le_of_eq rfl) 3 22 rfl rfl (by decide) (by decide) 162 rfl ?_
      rintro _ T17 h17 X17 ⟨rfl, H17⟩
      replace H17 : OL n0 h17 ((b15, OO Z "com/example/palamedes/palamedes/lda/TopicModel" [("com/example/palamedes/palamedes/lda/TopicModel", "topics", "I", .int (1 : Int32)), ("com/example/palamedes/palamedes/lda/TopicModel", "words", "I", .int (3 : Int32)), ("com/example/palamedes/palamedes/lda/TopicModel", "alpha", "D", .double FP.dconst1), ("com/example/palamedes/palamedes/lda/TopicModel", "beta", "D", .double FP.dconst1), ("com/example/palamedes/palamedes/lda/TopicModel", "wordTopicCounts", "[I", .ref b1), ("com/example/palamedes/palamedes/lda/TopicModel", "topicCounts", "[I", .ref b16)]) :: (b1, OA Z .int [xa, xe, xe, xe, xe, xe, xe, xe, xe, xe, xe, xe]) :: (b16, OA Z .int [(0 : Int32), (0 : Int32), (0 : Int32), (0 : Int32)]) :: []) := H17
      show OE p e room_1 below s n0 Q' T17 (mkF m 162 #[.val (.int xs), .val (.int xa), .val (.int xb), .val (.int xc), .val (.int xd), .val (.int xe), .val (.int (1 : Int32)), .val (.int (0 : Int32)), .val (.ref b1), .val (.int (0 : Int32)), .unset, .unset, .unset] [(.ref b15)])
      refine o_astore X17 at_162 rfl #[.val (.int xs), .val (.int xa), .val (.int xb), .val (.int xc), .val (.int xd), .val (.int xe), .val (.int (1 : Int32)), .val (.int (0 : Int32)), .val (.ref b1), .val (.int (0 : Int32)), .val (.ref b15), .unset, .unset] rfl 164 rfl ?_
      refine o_iloadN X17 at_164 rfl 165 rfl ?_
      refine o_i2l X17 at_165 166 rfl ?_
      refine o_lstore X17 at_166 #[.val (.int xs), .val (.int xa), .val (.int xb), .val (.int xc), .val (.int xd), .val (.int xe), .val (.int (1 : Int32)), .val (.int (0 : Int32)), .val (.ref b1), .val (.int (0 : Int32)), .val (.ref b15), .val (.long (Int32.toInt64 xa)), .second] rfl 168 rfl ?_
      refine o_iload X17 at_168 rfl 170 rfl ?_
      refine o_iconst (v := (1 : Int32)) X17 at_170 rfl 171 rfl ?_
      refine o_icmpLe X17 at_171 181 174 (by decide) (by decide) rfl ?_ (fun q => by exfalso; exact absurd q (by decide))
      intro hc171
      refine o_iload X17 at_181 rfl 183 rfl ?_
      refine o_iconst (v := (2 : Int32)) X17 at_183 rfl 184 rfl ?_
      refine o_icmpLe X17 at_184 194 187 (by decide) (by decide) rfl ?_ (fun q => by exfalso; exact absurd q (by decide))
      intro hc184
      refine o_iload X17 at_194 rfl 196 rfl ?_
      refine o_iconst (v := (3 : Int32)) X17 at_196 rfl 197 rfl ?_
      refine o_icmpLe X17 at_197 208 200 (by decide) (by decide) rfl ?_ (fun q => by exfalso; exact absurd q (by decide))
      intro hc197
      refine o_aload X17 at_208 rfl rfl 210 rfl ?_
      refine o_iload X17 at_210 rfl 212 rfl ?_
      have H21 : OL n0 h17 ((b1, OA Z .int [xa, xe, xe, xe, xe, xe, xe, xe, xe, xe, xe, xe]) :: (b15, OO Z "com/example/palamedes/palamedes/lda/TopicModel" [("com/example/palamedes/palamedes/lda/TopicModel", "topics", "I", .int (1 : Int32)), ("com/example/palamedes/palamedes/lda/TopicModel", "words", "I", .int (3 : Int32)), ("com/example/palamedes/palamedes/lda/TopicModel", "alpha", "D", .double FP.dconst1), ("com/example/palamedes/palamedes/lda/TopicModel", "beta", "D", .double FP.dconst1), ("com/example/palamedes/palamedes/lda/TopicModel", "wordTopicCounts", "[I", .ref b1), ("com/example/palamedes/palamedes/lda/TopicModel", "topicCounts", "[I", .ref b16)]) :: (b16, OA Z .int [(0 : Int32), (0 : Int32), (0 : Int32), (0 : Int32)]) :: []) := H17.front 1 rfl
      have H22 : OL n0 h17 ((b15, OO Z "com/example/palamedes/palamedes/lda/TopicModel" [("com/example/palamedes/palamedes/lda/TopicModel", "topics", "I", .int (1 : Int32)), ("com/example/palamedes/palamedes/lda/TopicModel", "words", "I", .int (3 : Int32)), ("com/example/palamedes/palamedes/lda/TopicModel", "alpha", "D", .double FP.dconst1), ("com/example/palamedes/palamedes/lda/TopicModel", "beta", "D", .double FP.dconst1), ("com/example/palamedes/palamedes/lda/TopicModel", "wordTopicCounts", "[I", .ref b1), ("com/example/palamedes/palamedes/lda/TopicModel", "topicCounts", "[I", .ref b16)]) :: (b1, OA Z .int [xa, xe, xe, xe, xe, xe, xe, xe, xe, xe, xe, xe]) :: (b16, OA Z .int [(0 : Int32), (0 : Int32), (0 : Int32), (0 : Int32)]) :: []) := H21.front 1 rfl
      refine o_callV X17 H22 0 rfl at_212 (rest := []) (c_wt_1_0 l Z a0 hw [] n0 _ X17.size b15 b1 b16 (3 : Int32) FP.dconst1 FP.dconst1 xa xe xe xe xe xe xe xe xe xe xe xe ((b16, OA Z .int [(0 : Int32), (0 : Int32), (0 : Int32), (0 : Int32)]) :: []) H22) (hw _ (List.mem_of_getElem? (i := 23) rfl)) (hw _ (List.mem_of_getElem? (i := 24) rfl)) (hw _ (List.mem_of_getElem? (i := 26) rfl)) (hw _ (List.mem_of_getElem? (i := 25) rfl)) (hw _ (List.mem_of_getElem? (i := 4) rfl)) (hw _ (List.mem_of_getElem? (i := 27) rfl)) (by decide) 0 (by decide) (by decide) rfl [(.int (0 : Int32))] rfl pd_3 rfl rfl (Nat.le_of_eq rfl) 3 22 rfl rfl (by decide) (by decide) 215 rfl ?_
      rintro _ T20 _ X20 ⟨rfl, rfl⟩
      show OE p e room_1 below s n0 Q' T20 (mkF m 215 #[.val (.int xs), .val (.int xa), .val (.int xb), .val (.int xc), .val (.int xd), .val (.int xe), .val (.int (1 : Int32)), .val (.int (0 : Int32)), .val (.ref b1), .val (.int (0 : Int32)), .val (.ref b15), .val (.long (Int32.toInt64 xa)), .second] [(.long ((0 : Int64) + (Int32.toInt64 xa)))])
      refine o_lload X20 at_215 rfl 217 rfl ?_
      refine o_lcmp X20 at_217 218 rfl ?_
      refine o_ifNe X20 at_218 225 221 (by decide) (by decide) rfl (fun q => by exfalso; exact q ((v_cmp0 _ _).mpr (by simp only [Int64.zero_add]))) ?_
      intro hc218
      refine o_iconst (v := (1 : Int32)) X20 at_221 rfl 222 rfl ?_
      refine o_goto X20 at_222 226 (by decide) (by decide) ?_
      exact o_retZ X20 at_226 (by decide) (by decide) (hQ _ _ rfl)
    · rw [hv]
      refine o_iload X13 at_89 rfl 91 rfl ?_
      refine o_iload X13 at_91 rfl 93 rfl ?_
      refine o_imul X13 at_93 94 rfl ?_
      refine o_istore X13 at_94 #[.val (.int xs), .val (.int xa), .val (.int xb), .val (.int xc), .val (.int xd), .val (.int xe), .val (.int (1 : Int32)), .val (.int (1 : Int32)), .val (.ref b1), .val (.int ((1 : Int32) * (1 : Int32))), .unset, .unset, .unset] rfl 96 rfl ?_
      rw [show ((1 : Int32) * (1 : Int32)) = (1 : Int32) from rfl]
      refine o_aload X13 at_96 rfl rfl 98 rfl ?_
      refine o_iload X13 at_98 rfl 100 rfl ?_
      refine o_iloadN X13 at_100 rfl 101 rfl ?_
      refine o_iastore X13 H13 0 rfl at_101 1 rfl (by show 1 < 12; decide) 102 rfl ?_
      intro T23 h23 X23 H23
      replace H23 : OL n0 h23 ((b1, OA Z .int [xe, xa, xe, xe, xe, xe, xe, xe, xe, xe, xe, xe]) :: []) := H23
      refine o_iload X23 at_102 rfl 104 rfl ?_
      refine o_iconst (v := (1 : Int32)) X23 at_104 rfl 105 rfl ?_
      refine o_icmpLe X23 at_105 116 108 (by decide) (by decide) rfl ?_ (fun q => by exfalso; exact absurd q (by decide))
      intro hc105
      refine o_iload X23 at_116 rfl 118 rfl ?_
      refine o_iconst (v := (2 : Int32)) X23 at_118 rfl 119 rfl ?_
      refine o_icmpLe X23 at_119 130 122 (by decide) (by decide) rfl ?_ (fun q => by exfalso; exact absurd q (by decide))
      intro hc119
      refine o_iload X23 at_130 rfl 132 rfl ?_
      refine o_iconst (v := (3 : Int32)) X23 at_132 rfl 133 rfl ?_
      refine o_icmpLe X23 at_133 145 136 (by decide) (by decide) rfl ?_ (fun q => by exfalso; exact absurd q (by decide))
      intro hc133
      refine o_new (L := ((b1, OA Z .int [xe, xa, xe, xe, xe, xe, xe, xe, xe, xe, xe, xe]) :: [])) X23 H23 at_145 (hw _ (List.mem_of_getElem? (i := 2) rfl)) (hw _ (List.mem_of_getElem? (i := 3) rfl)) (hw _ (List.mem_of_getElem? (i := 4) rfl)) [("com/example/palamedes/palamedes/lda/TopicModel", "topics", "I", .int (0 : Int32)), ("com/example/palamedes/palamedes/lda/TopicModel", "words", "I", .int (0 : Int32)), ("com/example/palamedes/palamedes/lda/TopicModel", "alpha", "D", .double 0), ("com/example/palamedes/palamedes/lda/TopicModel", "beta", "D", .double 0), ("com/example/palamedes/palamedes/lda/TopicModel", "wordTopicCounts", "[I", .null), ("com/example/palamedes/palamedes/lda/TopicModel", "topicCounts", "[I", .null)] (oqS ⟨.int, Or.inr (hw _ (List.mem_of_getElem? (i := 12) rfl)), by decide, rfl⟩ (oqS ⟨.int, Or.inr (hw _ (List.mem_of_getElem? (i := 14) rfl)), by decide, rfl⟩ (oqS ⟨.double, Or.inr (hw _ (List.mem_of_getElem? (i := 16) rfl)), by decide, rfl⟩ (oqS ⟨.double, Or.inr (hw _ (List.mem_of_getElem? (i := 18) rfl)), by decide, rfl⟩ (oqS ⟨(.array .int), Or.inr (hw _ (List.mem_of_getElem? (i := 20) rfl)), by decide, rfl⟩ (oqS ⟨(.array .int), Or.inr (hw _ (List.mem_of_getElem? (i := 22) rfl)), by decide, rfl⟩ oq0)))))) 2 18 rfl rfl (by decide) (by decide) 148 rfl ?_
      intro T24 h24 b24 X24 H24
      refine o_dup X24 at_148 rfl 149 rfl ?_
      refine o_iload X24 at_149 rfl 151 rfl ?_
      refine o_iconst (v := (3 : Int32)) X24 at_151 rfl 152 rfl ?_
      refine o_dconst1 X24 at_152 153 rfl ?_
      refine o_dconst1 X24 at_153 154 rfl ?_
      refine o_aload X24 at_154 rfl rfl 156 rfl ?_
      refine o_iconst (v := (4 : Int32)) X24 at_156 rfl 157 rfl ?_
      refine o_newarray (L := ((b24, OO Z "com/example/palamedes/palamedes/lda/TopicModel" [("com/example/palamedes/palamedes/lda/TopicModel", "topics", "I", .int (0 : Int32)), ("com/example/palamedes/palamedes/lda/TopicModel", "words", "I", .int (0 : Int32)), ("com/example/palamedes/palamedes/lda/TopicModel", "alpha", "D", .double 0), ("com/example/palamedes/palamedes/lda/TopicModel", "beta", "D", .double 0), ("com/example/palamedes/palamedes/lda/TopicModel", "wordTopicCounts", "[I", .null), ("com/example/palamedes/palamedes/lda/TopicModel", "topicCounts", "[I", .null)]) :: (b1, OA Z .int [xe, xa, xe, xe, xe, xe, xe, xe, xe, xe, xe, xe]) :: [])) X24 H24 at_157 (hw _ (List.mem_of_getElem? (i := 1) rfl)) rfl rfl 4 4 rfl (by decide) (by decide) 3 22 rfl rfl (by decide) (by decide) 159 rfl ?_
      intro T25 h25 b25 X25 H25
      replace H25 : OL n0 h25 ((b25, OA Z .int [(0 : Int32), (0 : Int32), (0 : Int32), (0 : Int32)]) :: (b24, OO Z "com/example/palamedes/palamedes/lda/TopicModel" [("com/example/palamedes/palamedes/lda/TopicModel", "topics", "I", .int (0 : Int32)), ("com/example/palamedes/palamedes/lda/TopicModel", "words", "I", .int (0 : Int32)), ("com/example/palamedes/palamedes/lda/TopicModel", "alpha", "D", .double 0), ("com/example/palamedes/palamedes/lda/TopicModel", "beta", "D", .double 0), ("com/example/palamedes/palamedes/lda/TopicModel", "wordTopicCounts", "[I", .null), ("com/example/palamedes/palamedes/lda/TopicModel", "topicCounts", "[I", .null)]) :: (b1, OA Z .int [xe, xa, xe, xe, xe, xe, xe, xe, xe, xe, xe, xe]) :: []) := H25
      have H27 : OL n0 h25 ((b1, OA Z .int [xe, xa, xe, xe, xe, xe, xe, xe, xe, xe, xe, xe]) :: (b25, OA Z .int [(0 : Int32), (0 : Int32), (0 : Int32), (0 : Int32)]) :: (b24, OO Z "com/example/palamedes/palamedes/lda/TopicModel" [("com/example/palamedes/palamedes/lda/TopicModel", "topics", "I", .int (0 : Int32)), ("com/example/palamedes/palamedes/lda/TopicModel", "words", "I", .int (0 : Int32)), ("com/example/palamedes/palamedes/lda/TopicModel", "alpha", "D", .double 0), ("com/example/palamedes/palamedes/lda/TopicModel", "beta", "D", .double 0), ("com/example/palamedes/palamedes/lda/TopicModel", "wordTopicCounts", "[I", .null), ("com/example/palamedes/palamedes/lda/TopicModel", "topicCounts", "[I", .null)]) :: []) := H25.front 2 rfl
      have H28 : OL n0 h25 ((b24, OO Z "com/example/palamedes/palamedes/lda/TopicModel" [("com/example/palamedes/palamedes/lda/TopicModel", "topics", "I", .int (0 : Int32)), ("com/example/palamedes/palamedes/lda/TopicModel", "words", "I", .int (0 : Int32)), ("com/example/palamedes/palamedes/lda/TopicModel", "alpha", "D", .double 0), ("com/example/palamedes/palamedes/lda/TopicModel", "beta", "D", .double 0), ("com/example/palamedes/palamedes/lda/TopicModel", "wordTopicCounts", "[I", .null), ("com/example/palamedes/palamedes/lda/TopicModel", "topicCounts", "[I", .null)]) :: (b1, OA Z .int [xe, xa, xe, xe, xe, xe, xe, xe, xe, xe, xe, xe]) :: (b25, OA Z .int [(0 : Int32), (0 : Int32), (0 : Int32), (0 : Int32)]) :: []) := H27.front 2 rfl
      refine o_callI X25 at_159 (rest := [(.ref b24)]) (c_init l Z a0 hw [] n0 _ X25.size b24 (1 : Int32) (3 : Int32) FP.dconst1 FP.dconst1 b1 b25 _ _ _ _ _ _ ((b1, OA Z .int [xe, xa, xe, xe, xe, xe, xe, xe, xe, xe, xe, xe]) :: (b25, OA Z .int [(0 : Int32), (0 : Int32), (0 : Int32), (0 : Int32)]) :: []) H28) rfl (hw _ (List.mem_of_getElem? (i := 5) rfl)) (hw _ (List.mem_of_getElem? (i := 6) rfl)) (hw _ (List.mem_of_getElem? (i := 4) rfl)) (hw _ (List.mem_of_getElem? (i := 7) rfl)) (by decide) 1 (by decide) (by decide) rfl [(.int (1 : Int32)), (.int (3 : Int32)), (.double FP.dconst1), (.double FP.dconst1), (.ref b1), (.ref b25)] rfl pd_1 rfl rfl (Nat.le_of_eq rfl) 3 22 rfl rfl (by decide) (by decide) 162 rfl ?_
      rintro _ T26 h26 X26 ⟨rfl, H26⟩
      replace H26 : OL n0 h26 ((b24, OO Z "com/example/palamedes/palamedes/lda/TopicModel" [("com/example/palamedes/palamedes/lda/TopicModel", "topics", "I", .int (1 : Int32)), ("com/example/palamedes/palamedes/lda/TopicModel", "words", "I", .int (3 : Int32)), ("com/example/palamedes/palamedes/lda/TopicModel", "alpha", "D", .double FP.dconst1), ("com/example/palamedes/palamedes/lda/TopicModel", "beta", "D", .double FP.dconst1), ("com/example/palamedes/palamedes/lda/TopicModel", "wordTopicCounts", "[I", .ref b1), ("com/example/palamedes/palamedes/lda/TopicModel", "topicCounts", "[I", .ref b25)]) :: (b1, OA Z .int [xe, xa, xe, xe, xe, xe, xe, xe, xe, xe, xe, xe]) :: (b25, OA Z .int [(0 : Int32), (0 : Int32), (0 : Int32), (0 : Int32)]) :: []) := H26
      show OE p e room_1 below s n0 Q' T26 (mkF m 162 #[.val (.int xs), .val (.int xa), .val (.int xb), .val (.int xc), .val (.int xd), .val (.int xe), .val (.int (1 : Int32)), .val (.int (1 : Int32)), .val (.ref b1), .val (.int (1 : Int32)), .unset, .unset, .unset] [(.ref b24)])
      refine o_astore X26 at_162 rfl #[.val (.int xs), .val (.int xa), .val (.int xb), .val (.int xc), .val (.int xd), .val (.int xe), .val (.int (1 : Int32)), .val (.int (1 : Int32)), .val (.ref b1), .val (.int (1 : Int32)), .val (.ref b24), .unset, .unset] rfl 164 rfl ?_
      refine o_iloadN X26 at_164 rfl 165 rfl ?_
      refine o_i2l X26 at_165 166 rfl ?_
      refine o_lstore X26 at_166 #[.val (.int xs), .val (.int xa), .val (.int xb), .val (.int xc), .val (.int xd), .val (.int xe), .val (.int (1 : Int32)), .val (.int (1 : Int32)), .val (.ref b1), .val (.int (1 : Int32)), .val (.ref b24), .val (.long (Int32.toInt64 xa)), .second] rfl 168 rfl ?_
      refine o_iload X26 at_168 rfl 170 rfl ?_
      refine o_iconst (v := (1 : Int32)) X26 at_170 rfl 171 rfl ?_
      refine o_icmpLe X26 at_171 181 174 (by decide) (by decide) rfl ?_ (fun q => by exfalso; exact absurd q (by decide))
      intro hc171
      refine o_iload X26 at_181 rfl 183 rfl ?_
      refine o_iconst (v := (2 : Int32)) X26 at_183 rfl 184 rfl ?_
      refine o_icmpLe X26 at_184 194 187 (by decide) (by decide) rfl ?_ (fun q => by exfalso; exact absurd q (by decide))
      intro hc184
      refine o_iload X26 at_194 rfl 196 rfl ?_
      refine o_iconst (v := (3 : Int32)) X26 at_196 rfl 197 rfl ?_
      refine o_icmpLe X26 at_197 208 200 (by decide) (by decide) rfl ?_ (fun q => by exfalso; exact absurd q (by decide))
      intro hc197
      refine o_aload X26 at_208 rfl rfl 210 rfl ?_
      refine o_iload X26 at_210 rfl 212 rfl ?_
      have H30 : OL n0 h26 ((b1, OA Z .int [xe, xa, xe, xe, xe, xe, xe, xe, xe, xe, xe, xe]) :: (b24, OO Z "com/example/palamedes/palamedes/lda/TopicModel" [("com/example/palamedes/palamedes/lda/TopicModel", "topics", "I", .int (1 : Int32)), ("com/example/palamedes/palamedes/lda/TopicModel", "words", "I", .int (3 : Int32)), ("com/example/palamedes/palamedes/lda/TopicModel", "alpha", "D", .double FP.dconst1), ("com/example/palamedes/palamedes/lda/TopicModel", "beta", "D", .double FP.dconst1), ("com/example/palamedes/palamedes/lda/TopicModel", "wordTopicCounts", "[I", .ref b1), ("com/example/palamedes/palamedes/lda/TopicModel", "topicCounts", "[I", .ref b25)]) :: (b25, OA Z .int [(0 : Int32), (0 : Int32), (0 : Int32), (0 : Int32)]) :: []) := H26.front 1 rfl
      have H31 : OL n0 h26 ((b24, OO Z "com/example/palamedes/palamedes/lda/TopicModel" [("com/example/palamedes/palamedes/lda/TopicModel", "topics", "I", .int (1 : Int32)), ("com/example/palamedes/palamedes/lda/TopicModel", "words", "I", .int (3 : Int32)), ("com/example/palamedes/palamedes/lda/TopicModel", "alpha", "D", .double FP.dconst1), ("com/example/palamedes/palamedes/lda/TopicModel", "beta", "D", .double FP.dconst1), ("com/example/palamedes/palamedes/lda/TopicModel", "wordTopicCounts", "[I", .ref b1), ("com/example/palamedes/palamedes/lda/TopicModel", "topicCounts", "[I", .ref b25)]) :: (b1, OA Z .int [xe, xa, xe, xe, xe, xe, xe, xe, xe, xe, xe, xe]) :: (b25, OA Z .int [(0 : Int32), (0 : Int32), (0 : Int32), (0 : Int32)]) :: []) := H30.front 1 rfl
      refine o_callV X26 H31 0 rfl at_212 (rest := []) (c_wt_1_1 l Z a0 hw [] n0 _ X26.size b24 b1 b25 (3 : Int32) FP.dconst1 FP.dconst1 xe xa xe xe xe xe xe xe xe xe xe xe ((b25, OA Z .int [(0 : Int32), (0 : Int32), (0 : Int32), (0 : Int32)]) :: []) H31) (hw _ (List.mem_of_getElem? (i := 23) rfl)) (hw _ (List.mem_of_getElem? (i := 24) rfl)) (hw _ (List.mem_of_getElem? (i := 26) rfl)) (hw _ (List.mem_of_getElem? (i := 25) rfl)) (hw _ (List.mem_of_getElem? (i := 4) rfl)) (hw _ (List.mem_of_getElem? (i := 27) rfl)) (by decide) 0 (by decide) (by decide) rfl [(.int (1 : Int32))] rfl pd_3 rfl rfl (Nat.le_of_eq rfl) 3 22 rfl rfl (by decide) (by decide) 215 rfl ?_
      rintro _ T29 _ X29 ⟨rfl, rfl⟩
      show OE p e room_1 below s n0 Q' T29 (mkF m 215 #[.val (.int xs), .val (.int xa), .val (.int xb), .val (.int xc), .val (.int xd), .val (.int xe), .val (.int (1 : Int32)), .val (.int (1 : Int32)), .val (.ref b1), .val (.int (1 : Int32)), .val (.ref b24), .val (.long (Int32.toInt64 xa)), .second] [(.long ((0 : Int64) + (Int32.toInt64 xa)))])
      refine o_lload X29 at_215 rfl 217 rfl ?_
      refine o_lcmp X29 at_217 218 rfl ?_
      refine o_ifNe X29 at_218 225 221 (by decide) (by decide) rfl (fun q => by exfalso; exact q ((v_cmp0 _ _).mpr (by simp only [Int64.zero_add]))) ?_
      intro hc218
      refine o_iconst (v := (1 : Int32)) X29 at_221 rfl 222 rfl ?_
      refine o_goto X29 at_222 226 (by decide) (by decide) ?_
      exact o_retZ X29 at_226 (by decide) (by decide) (hQ _ _ rfl)
    · rw [hv]
      refine o_iload X13 at_89 rfl 91 rfl ?_
      refine o_iload X13 at_91 rfl 93 rfl ?_
      refine o_imul X13 at_93 94 rfl ?_
      refine o_istore X13 at_94 #[.val (.int xs), .val (.int xa), .val (.int xb), .val (.int xc), .val (.int xd), .val (.int xe), .val (.int (1 : Int32)), .val (.int (2 : Int32)), .val (.ref b1), .val (.int ((2 : Int32) * (1 : Int32))), .unset, .unset, .unset] rfl 96 rfl ?_
      rw [show ((2 : Int32) * (1 : Int32)) = (2 : Int32) from rfl]
      refine o_aload X13 at_96 rfl rfl 98 rfl ?_
      refine o_iload X13 at_98 rfl 100 rfl ?_
      refine o_iloadN X13 at_100 rfl 101 rfl ?_
      refine o_iastore X13 H13 0 rfl at_101 2 rfl (by show 2 < 12; decide) 102 rfl ?_
      intro T32 h32 X32 H32
      replace H32 : OL n0 h32 ((b1, OA Z .int [xe, xe, xa, xe, xe, xe, xe, xe, xe, xe, xe, xe]) :: []) := H32
      refine o_iload X32 at_102 rfl 104 rfl ?_
      refine o_iconst (v := (1 : Int32)) X32 at_104 rfl 105 rfl ?_
      refine o_icmpLe X32 at_105 116 108 (by decide) (by decide) rfl ?_ (fun q => by exfalso; exact absurd q (by decide))
      intro hc105
      refine o_iload X32 at_116 rfl 118 rfl ?_
      refine o_iconst (v := (2 : Int32)) X32 at_118 rfl 119 rfl ?_
      refine o_icmpLe X32 at_119 130 122 (by decide) (by decide) rfl ?_ (fun q => by exfalso; exact absurd q (by decide))
      intro hc119
      refine o_iload X32 at_130 rfl 132 rfl ?_
      refine o_iconst (v := (3 : Int32)) X32 at_132 rfl 133 rfl ?_
      refine o_icmpLe X32 at_133 145 136 (by decide) (by decide) rfl ?_ (fun q => by exfalso; exact absurd q (by decide))
      intro hc133
      refine o_new (L := ((b1, OA Z .int [xe, xe, xa, xe, xe, xe, xe, xe, xe, xe, xe, xe]) :: [])) X32 H32 at_145 (hw _ (List.mem_of_getElem? (i := 2) rfl)) (hw _ (List.mem_of_getElem? (i := 3) rfl)) (hw _ (List.mem_of_getElem? (i := 4) rfl)) [("com/example/palamedes/palamedes/lda/TopicModel", "topics", "I", .int (0 : Int32)), ("com/example/palamedes/palamedes/lda/TopicModel", "words", "I", .int (0 : Int32)), ("com/example/palamedes/palamedes/lda/TopicModel", "alpha", "D", .double 0), ("com/example/palamedes/palamedes/lda/TopicModel", "beta", "D", .double 0), ("com/example/palamedes/palamedes/lda/TopicModel", "wordTopicCounts", "[I", .null), ("com/example/palamedes/palamedes/lda/TopicModel", "topicCounts", "[I", .null)] (oqS ⟨.int, Or.inr (hw _ (List.mem_of_getElem? (i := 12) rfl)), by decide, rfl⟩ (oqS ⟨.int, Or.inr (hw _ (List.mem_of_getElem? (i := 14) rfl)), by decide, rfl⟩ (oqS ⟨.double, Or.inr (hw _ (List.mem_of_getElem? (i := 16) rfl)), by decide, rfl⟩ (oqS ⟨.double, Or.inr (hw _ (List.mem_of_getElem? (i := 18) rfl)), by decide, rfl⟩ (oqS ⟨(.array .int), Or.inr (hw _ (List.mem_of_getElem? (i := 20) rfl)), by decide, rfl⟩ (oqS ⟨(.array .int), Or.inr (hw _ (List.mem_of_getElem? (i := 22) rfl)), by decide, rfl⟩ oq0)))))) 2 18 rfl rfl (by decide) (by decide) 148 rfl ?_
      intro T33 h33 b33 X33 H33
      refine o_dup X33 at_148 rfl 149 rfl ?_
      refine o_iload X33 at_149 rfl 151 rfl ?_
      refine o_iconst (v := (3 : Int32)) X33 at_151 rfl 152 rfl ?_
      refine o_dconst1 X33 at_152 153 rfl ?_
      refine o_dconst1 X33 at_153 154 rfl ?_
      refine o_aload X33 at_154 rfl rfl 156 rfl ?_
      refine o_iconst (v := (4 : Int32)) X33 at_156 rfl 157 rfl ?_
      refine o_newarray (L := ((b33, OO Z "com/example/palamedes/palamedes/lda/TopicModel" [("com/example/palamedes/palamedes/lda/TopicModel", "topics", "I", .int (0 : Int32)), ("com/example/palamedes/palamedes/lda/TopicModel", "words", "I", .int (0 : Int32)), ("com/example/palamedes/palamedes/lda/TopicModel", "alpha", "D", .double 0), ("com/example/palamedes/palamedes/lda/TopicModel", "beta", "D", .double 0), ("com/example/palamedes/palamedes/lda/TopicModel", "wordTopicCounts", "[I", .null), ("com/example/palamedes/palamedes/lda/TopicModel", "topicCounts", "[I", .null)]) :: (b1, OA Z .int [xe, xe, xa, xe, xe, xe, xe, xe, xe, xe, xe, xe]) :: [])) X33 H33 at_157 (hw _ (List.mem_of_getElem? (i := 1) rfl)) rfl rfl 4 4 rfl (by decide) (by decide) 3 22 rfl rfl (by decide) (by decide) 159 rfl ?_
      intro T34 h34 b34 X34 H34
      replace H34 : OL n0 h34 ((b34, OA Z .int [(0 : Int32), (0 : Int32), (0 : Int32), (0 : Int32)]) :: (b33, OO Z "com/example/palamedes/palamedes/lda/TopicModel" [("com/example/palamedes/palamedes/lda/TopicModel", "topics", "I", .int (0 : Int32)), ("com/example/palamedes/palamedes/lda/TopicModel", "words", "I", .int (0 : Int32)), ("com/example/palamedes/palamedes/lda/TopicModel", "alpha", "D", .double 0), ("com/example/palamedes/palamedes/lda/TopicModel", "beta", "D", .double 0), ("com/example/palamedes/palamedes/lda/TopicModel", "wordTopicCounts", "[I", .null), ("com/example/palamedes/palamedes/lda/TopicModel", "topicCounts", "[I", .null)]) :: (b1, OA Z .int [xe, xe, xa, xe, xe, xe, xe, xe, xe, xe, xe, xe]) :: []) := H34
      have H36 : OL n0 h34 ((b1, OA Z .int [xe, xe, xa, xe, xe, xe, xe, xe, xe, xe, xe, xe]) :: (b34, OA Z .int [(0 : Int32), (0 : Int32), (0 : Int32), (0 : Int32)]) :: (b33, OO Z "com/example/palamedes/palamedes/lda/TopicModel" [("com/example/palamedes/palamedes/lda/TopicModel", "topics", "I", .int (0 : Int32)), ("com/example/palamedes/palamedes/lda/TopicModel", "words", "I", .int (0 : Int32)), ("com/example/palamedes/palamedes/lda/TopicModel", "alpha", "D", .double 0), ("com/example/palamedes/palamedes/lda/TopicModel", "beta", "D", .double 0), ("com/example/palamedes/palamedes/lda/TopicModel", "wordTopicCounts", "[I", .null), ("com/example/palamedes/palamedes/lda/TopicModel", "topicCounts", "[I", .null)]) :: []) := H34.front 2 rfl
      have H37 : OL n0 h34 ((b33, OO Z "com/example/palamedes/palamedes/lda/TopicModel" [("com/example/palamedes/palamedes/lda/TopicModel", "topics", "I", .int (0 : Int32)), ("com/example/palamedes/palamedes/lda/TopicModel", "words", "I", .int (0 : Int32)), ("com/example/palamedes/palamedes/lda/TopicModel", "alpha", "D", .double 0), ("com/example/palamedes/palamedes/lda/TopicModel", "beta", "D", .double 0), ("com/example/palamedes/palamedes/lda/TopicModel", "wordTopicCounts", "[I", .null), ("com/example/palamedes/palamedes/lda/TopicModel", "topicCounts", "[I", .null)]) :: (b1, OA Z .int [xe, xe, xa, xe, xe, xe, xe, xe, xe, xe, xe, xe]) :: (b34, OA Z .int [(0 : Int32), (0 : Int32), (0 : Int32), (0 : Int32)]) :: []) := H36.front 2 rfl
      refine o_callI X34 at_159 (rest := [(.ref b33)]) (c_init l Z a0 hw [] n0 _ X34.size b33 (1 : Int32) (3 : Int32) FP.dconst1 FP.dconst1 b1 b34 _ _ _ _ _ _ ((b1, OA Z .int [xe, xe, xa, xe, xe, xe, xe, xe, xe, xe, xe, xe]) :: (b34, OA Z .int [(0 : Int32), (0 : Int32), (0 : Int32), (0 : Int32)]) :: []) H37) rfl (hw _ (List.mem_of_getElem? (i := 5) rfl)) (hw _ (List.mem_of_getElem? (i := 6) rfl)) (hw _ (List.mem_of_getElem? (i := 4) rfl)) (hw _ (List.mem_of_getElem? (i := 7) rfl)) (by decide) 1 (by decide) (by decide) rfl [(.int (1 : Int32)), (.int (3 : Int32)), (.double FP.dconst1), (.double FP.dconst1), (.ref b1), (.ref b34)] rfl pd_1 rfl rfl (Nat.le_of_eq rfl) 3 22 rfl rfl (by decide) (by decide) 162 rfl ?_
      rintro _ T35 h35 X35 ⟨rfl, H35⟩
      replace H35 : OL n0 h35 ((b33, OO Z "com/example/palamedes/palamedes/lda/TopicModel" [("com/example/palamedes/palamedes/lda/TopicModel", "topics", "I", .int (1 : Int32)), ("com/example/palamedes/palamedes/lda/TopicModel", "words", "I", .int (3 : Int32)), ("com/example/palamedes/palamedes/lda/TopicModel", "alpha", "D", .double FP.dconst1), ("com/example/palamedes/palamedes/lda/TopicModel", "beta", "D", .double FP.dconst1), ("com/example/palamedes/palamedes/lda/TopicModel", "wordTopicCounts", "[I", .ref b1), ("com/example/palamedes/palamedes/lda/TopicModel", "topicCounts", "[I", .ref b34)]) :: (b1, OA Z .int [xe, xe, xa, xe, xe, xe, xe, xe, xe, xe, xe, xe]) :: (b34, OA Z .int [(0 : Int32), (0 : Int32), (0 : Int32), (0 : Int32)]) :: []) := H35
      show OE p e room_1 below s n0 Q' T35 (mkF m 162 #[.val (.int xs), .val (.int xa), .val (.int xb), .val (.int xc), .val (.int xd), .val (.int xe), .val (.int (1 : Int32)), .val (.int (2 : Int32)), .val (.ref b1), .val (.int (2 : Int32)), .unset, .unset, .unset] [(.ref b33)])
      refine o_astore X35 at_162 rfl #[.val (.int xs), .val (.int xa), .val (.int xb), .val (.int xc), .val (.int xd), .val (.int xe), .val (.int (1 : Int32)), .val (.int (2 : Int32)), .val (.ref b1), .val (.int (2 : Int32)), .val (.ref b33), .unset, .unset] rfl 164 rfl ?_
      refine o_iloadN X35 at_164 rfl 165 rfl ?_
      refine o_i2l X35 at_165 166 rfl ?_
      refine o_lstore X35 at_166 #[.val (.int xs), .val (.int xa), .val (.int xb), .val (.int xc), .val (.int xd), .val (.int xe), .val (.int (1 : Int32)), .val (.int (2 : Int32)), .val (.ref b1), .val (.int (2 : Int32)), .val (.ref b33), .val (.long (Int32.toInt64 xa)), .second] rfl 168 rfl ?_
      refine o_iload X35 at_168 rfl 170 rfl ?_
      refine o_iconst (v := (1 : Int32)) X35 at_170 rfl 171 rfl ?_
      refine o_icmpLe X35 at_171 181 174 (by decide) (by decide) rfl ?_ (fun q => by exfalso; exact absurd q (by decide))
      intro hc171
      refine o_iload X35 at_181 rfl 183 rfl ?_
      refine o_iconst (v := (2 : Int32)) X35 at_183 rfl 184 rfl ?_
      refine o_icmpLe X35 at_184 194 187 (by decide) (by decide) rfl ?_ (fun q => by exfalso; exact absurd q (by decide))
      intro hc184
      refine o_iload X35 at_194 rfl 196 rfl ?_
      refine o_iconst (v := (3 : Int32)) X35 at_196 rfl 197 rfl ?_
      refine o_icmpLe X35 at_197 208 200 (by decide) (by decide) rfl ?_ (fun q => by exfalso; exact absurd q (by decide))
      intro hc197
      refine o_aload X35 at_208 rfl rfl 210 rfl ?_
      refine o_iload X35 at_210 rfl 212 rfl ?_
      have H39 : OL n0 h35 ((b1, OA Z .int [xe, xe, xa, xe, xe, xe, xe, xe, xe, xe, xe, xe]) :: (b33, OO Z "com/example/palamedes/palamedes/lda/TopicModel" [("com/example/palamedes/palamedes/lda/TopicModel", "topics", "I", .int (1 : Int32)), ("com/example/palamedes/palamedes/lda/TopicModel", "words", "I", .int (3 : Int32)), ("com/example/palamedes/palamedes/lda/TopicModel", "alpha", "D", .double FP.dconst1), ("com/example/palamedes/palamedes/lda/TopicModel", "beta", "D", .double FP.dconst1), ("com/example/palamedes/palamedes/lda/TopicModel", "wordTopicCounts", "[I", .ref b1), ("com/example/palamedes/palamedes/lda/TopicModel", "topicCounts", "[I", .ref b34)]) :: (b34, OA Z .int [(0 : Int32), (0 : Int32), (0 : Int32), (0 : Int32)]) :: []) := H35.front 1 rfl
      have H40 : OL n0 h35 ((b33, OO Z "com/example/palamedes/palamedes/lda/TopicModel" [("com/example/palamedes/palamedes/lda/TopicModel", "topics", "I", .int (1 : Int32)), ("com/example/palamedes/palamedes/lda/TopicModel", "words", "I", .int (3 : Int32)), ("com/example/palamedes/palamedes/lda/TopicModel", "alpha", "D", .double FP.dconst1), ("com/example/palamedes/palamedes/lda/TopicModel", "beta", "D", .double FP.dconst1), ("com/example/palamedes/palamedes/lda/TopicModel", "wordTopicCounts", "[I", .ref b1), ("com/example/palamedes/palamedes/lda/TopicModel", "topicCounts", "[I", .ref b34)]) :: (b1, OA Z .int [xe, xe, xa, xe, xe, xe, xe, xe, xe, xe, xe, xe]) :: (b34, OA Z .int [(0 : Int32), (0 : Int32), (0 : Int32), (0 : Int32)]) :: []) := H39.front 1 rfl
      refine o_callV X35 H40 0 rfl at_212 (rest := []) (c_wt_1_2 l Z a0 hw [] n0 _ X35.size b33 b1 b34 (3 : Int32) FP.dconst1 FP.dconst1 xe xe xa xe xe xe xe xe xe xe xe xe ((b34, OA Z .int [(0 : Int32), (0 : Int32), (0 : Int32), (0 : Int32)]) :: []) H40) (hw _ (List.mem_of_getElem? (i := 23) rfl)) (hw _ (List.mem_of_getElem? (i := 24) rfl)) (hw _ (List.mem_of_getElem? (i := 26) rfl)) (hw _ (List.mem_of_getElem? (i := 25) rfl)) (hw _ (List.mem_of_getElem? (i := 4) rfl)) (hw _ (List.mem_of_getElem? (i := 27) rfl)) (by decide) 0 (by decide) (by decide) rfl [(.int (2 : Int32))] rfl pd_3 rfl rfl (Nat.le_of_eq rfl) 3 22 rfl rfl (by decide) (by decide) 215 rfl ?_
      rintro _ T38 _ X38 ⟨rfl, rfl⟩
      show OE p e room_1 below s n0 Q' T38 (mkF m 215 #[.val (.int xs), .val (.int xa), .val (.int xb), .val (.int xc), .val (.int xd), .val (.int xe), .val (.int (1 : Int32)), .val (.int (2 : Int32)), .val (.ref b1), .val (.int (2 : Int32)), .val (.ref b33), .val (.long (Int32.toInt64 xa)), .second] [(.long ((0 : Int64) + (Int32.toInt64 xa)))])
      refine o_lload X38 at_215 rfl 217 rfl ?_
      refine o_lcmp X38 at_217 218 rfl ?_
      refine o_ifNe X38 at_218 225 221 (by decide) (by decide) rfl (fun q => by exfalso; exact q ((v_cmp0 _ _).mpr (by simp only [Int64.zero_add]))) ?_
      intro hc218
      refine o_iconst (v := (1 : Int32)) X38 at_221 rfl 222 rfl ?_
      refine o_goto X38 at_222 226 (by decide) (by decide) ?_
      exact o_retZ X38 at_226 (by decide) (by decide) (hQ _ _ rfl)
  · rw [hv]
    rcases v_w (XT.ushr xs 2) with hv | hv | hv
    · rw [hv]
      refine o_iload X13 at_89 rfl 91 rfl ?_
      refine o_iload X13 at_91 rfl 93 rfl ?_
      refine o_imul X13 at_93 94 rfl ?_
      refine o_istore X13 at_94 #[.val (.int xs), .val (.int xa), .val (.int xb), .val (.int xc), .val (.int xd), .val (.int xe), .val (.int (2 : Int32)), .val (.int (0 : Int32)), .val (.ref b1), .val (.int ((0 : Int32) * (2 : Int32))), .unset, .unset, .unset] rfl 96 rfl ?_
      rw [show ((0 : Int32) * (2 : Int32)) = (0 : Int32) from rfl]
      refine o_aload X13 at_96 rfl rfl 98 rfl ?_
      refine o_iload X13 at_98 rfl 100 rfl ?_
      refine o_iloadN X13 at_100 rfl 101 rfl ?_
      refine o_iastore X13 H13 0 rfl at_101 0 rfl (by show 0 < 12; decide) 102 rfl ?_
      intro T41 h41 X41 H41
      replace H41 : OL n0 h41 ((b1, OA Z .int [xa, xe, xe, xe, xe, xe, xe, xe, xe, xe, xe, xe]) :: []) := H41
      refine o_iload X41 at_102 rfl 104 rfl ?_
      refine o_iconst (v := (1 : Int32)) X41 at_104 rfl 105 rfl ?_
      refine o_icmpLe X41 at_105 116 108 (by decide) (by decide) rfl (fun q => by exfalso; exact absurd q (by decide)) ?_
      intro hc105
      refine o_aload X41 at_108 rfl rfl 110 rfl ?_
      refine o_iload X41 at_110 rfl 112 rfl ?_
      refine o_iconst (v := (1 : Int32)) X41 at_112 rfl 113 rfl ?_
      refine o_iadd X41 at_113 114 rfl ?_
      refine o_iloadN X41 at_114 rfl 115 rfl ?_
      refine o_iastore X41 H41 0 rfl at_115 1 rfl (by show 1 < 12; decide) 116 rfl ?_
      intro T42 h42 X42 H42
      replace H42 : OL n0 h42 ((b1, OA Z .int [xa, xb, xe, xe, xe, xe, xe, xe, xe, xe, xe, xe]) :: []) := H42
      refine o_iload X42 at_116 rfl 118 rfl ?_
      refine o_iconst (v := (2 : Int32)) X42 at_118 rfl 119 rfl ?_
      refine o_icmpLe X42 at_119 130 122 (by decide) (by decide) rfl ?_ (fun q => by exfalso; exact absurd q (by decide))
      intro hc119
      refine o_iload X42 at_130 rfl 132 rfl ?_
      refine o_iconst (v := (3 : Int32)) X42 at_132 rfl 133 rfl ?_
      refine o_icmpLe X42 at_133 145 136 (by decide) (by decide) rfl ?_ (fun q => by exfalso; exact absurd q (by decide))
      intro hc133
      refine o_new (L := ((b1, OA Z .int [xa, xb, xe, xe, xe, xe, xe, xe, xe, xe, xe, xe]) :: [])) X42 H42 at_145 (hw _ (List.mem_of_getElem? (i := 2) rfl)) (hw _ (List.mem_of_getElem? (i := 3) rfl)) (hw _ (List.mem_of_getElem? (i := 4) rfl)) [("com/example/palamedes/palamedes/lda/TopicModel", "topics", "I", .int (0 : Int32)), ("com/example/palamedes/palamedes/lda/TopicModel", "words", "I", .int (0 : Int32)), ("com/example/palamedes/palamedes/lda/TopicModel", "alpha", "D", .double 0), ("com/example/palamedes/palamedes/lda/TopicModel", "beta", "D", .double 0), ("com/example/palamedes/palamedes/lda/TopicModel", "wordTopicCounts", "[I", .null), ("com/example/palamedes/palamedes/lda/TopicModel", "topicCounts", "[I", .null)] (oqS ⟨.int, Or.inr (hw _ (List.mem_of_getElem? (i := 12) rfl)), by decide, rfl⟩ (oqS ⟨.int, Or.inr (hw _ (List.mem_of_getElem? (i := 14) rfl)), by decide, rfl⟩ (oqS ⟨.double, Or.inr (hw _ (List.mem_of_getElem? (i := 16) rfl)), by decide, rfl⟩ (oqS ⟨.double, Or.inr (hw _ (List.mem_of_getElem? (i := 18) rfl)), by decide, rfl⟩ (oqS ⟨(.array .int), Or.inr (hw _ (List.mem_of_getElem? (i := 20) rfl)), by decide, rfl⟩ (oqS ⟨(.array .int), Or.inr (hw _ (List.mem_of_getElem? (i := 22) rfl)), by decide, rfl⟩ oq0)))))) 2 18 rfl rfl (by decide) (by decide) 148 rfl ?_
      intro T43 h43 b43 X43 H43
      refine o_dup X43 at_148 rfl 149 rfl ?_
      refine o_iload X43 at_149 rfl 151 rfl ?_
      refine o_iconst (v := (3 : Int32)) X43 at_151 rfl 152 rfl ?_
      refine o_dconst1 X43 at_152 153 rfl ?_
      refine o_dconst1 X43 at_153 154 rfl ?_
      refine o_aload X43 at_154 rfl rfl 156 rfl ?_
      refine o_iconst (v := (4 : Int32)) X43 at_156 rfl 157 rfl ?_
      refine o_newarray (L := ((b43, OO Z "com/example/palamedes/palamedes/lda/TopicModel" [("com/example/palamedes/palamedes/lda/TopicModel", "topics", "I", .int (0 : Int32)), ("com/example/palamedes/palamedes/lda/TopicModel", "words", "I", .int (0 : Int32)), ("com/example/palamedes/palamedes/lda/TopicModel", "alpha", "D", .double 0), ("com/example/palamedes/palamedes/lda/TopicModel", "beta", "D", .double 0), ("com/example/palamedes/palamedes/lda/TopicModel", "wordTopicCounts", "[I", .null), ("com/example/palamedes/palamedes/lda/TopicModel", "topicCounts", "[I", .null)]) :: (b1, OA Z .int [xa, xb, xe, xe, xe, xe, xe, xe, xe, xe, xe, xe]) :: [])) X43 H43 at_157 (hw _ (List.mem_of_getElem? (i := 1) rfl)) rfl rfl 4 4 rfl (by decide) (by decide) 3 22 rfl rfl (by decide) (by decide) 159 rfl ?_
      intro T44 h44 b44 X44 H44
      replace H44 : OL n0 h44 ((b44, OA Z .int [(0 : Int32), (0 : Int32), (0 : Int32), (0 : Int32)]) :: (b43, OO Z "com/example/palamedes/palamedes/lda/TopicModel" [("com/example/palamedes/palamedes/lda/TopicModel", "topics", "I", .int (0 : Int32)), ("com/example/palamedes/palamedes/lda/TopicModel", "words", "I", .int (0 : Int32)), ("com/example/palamedes/palamedes/lda/TopicModel", "alpha", "D", .double 0), ("com/example/palamedes/palamedes/lda/TopicModel", "beta", "D", .double 0), ("com/example/palamedes/palamedes/lda/TopicModel", "wordTopicCounts", "[I", .null), ("com/example/palamedes/palamedes/lda/TopicModel", "topicCounts", "[I", .null)]) :: (b1, OA Z .int [xa, xb, xe, xe, xe, xe, xe, xe, xe, xe, xe, xe]) :: []) := H44
      have H46 : OL n0 h44 ((b1, OA Z .int [xa, xb, xe, xe, xe, xe, xe, xe, xe, xe, xe, xe]) :: (b44, OA Z .int [(0 : Int32), (0 : Int32), (0 : Int32), (0 : Int32)]) :: (b43, OO Z "com/example/palamedes/palamedes/lda/TopicModel" [("com/example/palamedes/palamedes/lda/TopicModel", "topics", "I", .int (0 : Int32)), ("com/example/palamedes/palamedes/lda/TopicModel", "words", "I", .int (0 : Int32)), ("com/example/palamedes/palamedes/lda/TopicModel", "alpha", "D", .double 0), ("com/example/palamedes/palamedes/lda/TopicModel", "beta", "D", .double 0), ("com/example/palamedes/palamedes/lda/TopicModel", "wordTopicCounts", "[I", .null), ("com/example/palamedes/palamedes/lda/TopicModel", "topicCounts", "[I", .null)]) :: []) := H44.front 2 rfl
      have H47 : OL n0 h44 ((b43, OO Z "com/example/palamedes/palamedes/lda/TopicModel" [("com/example/palamedes/palamedes/lda/TopicModel", "topics", "I", .int (0 : Int32)), ("com/example/palamedes/palamedes/lda/TopicModel", "words", "I", .int (0 : Int32)), ("com/example/palamedes/palamedes/lda/TopicModel", "alpha", "D", .double 0), ("com/example/palamedes/palamedes/lda/TopicModel", "beta", "D", .double 0), ("com/example/palamedes/palamedes/lda/TopicModel", "wordTopicCounts", "[I", .null), ("com/example/palamedes/palamedes/lda/TopicModel", "topicCounts", "[I", .null)]) :: (b1, OA Z .int [xa, xb, xe, xe, xe, xe, xe, xe, xe, xe, xe, xe]) :: (b44, OA Z .int [(0 : Int32), (0 : Int32), (0 : Int32), (0 : Int32)]) :: []) := H46.front 2 rfl
      refine o_callI X44 at_159 (rest := [(.ref b43)]) (c_init l Z a0 hw [] n0 _ X44.size b43 (2 : Int32) (3 : Int32) FP.dconst1 FP.dconst1 b1 b44 _ _ _ _ _ _ ((b1, OA Z .int [xa, xb, xe, xe, xe, xe, xe, xe, xe, xe, xe, xe]) :: (b44, OA Z .int [(0 : Int32), (0 : Int32), (0 : Int32), (0 : Int32)]) :: []) H47) rfl (hw _ (List.mem_of_getElem? (i := 5) rfl)) (hw _ (List.mem_of_getElem? (i := 6) rfl)) (hw _ (List.mem_of_getElem? (i := 4) rfl)) (hw _ (List.mem_of_getElem? (i := 7) rfl)) (by decide) 1 (by decide) (by decide) rfl [(.int (2 : Int32)), (.int (3 : Int32)), (.double FP.dconst1), (.double FP.dconst1), (.ref b1), (.ref b44)] rfl pd_1 rfl rfl (Nat.le_of_eq rfl) 3 22 rfl rfl (by decide) (by decide) 162 rfl ?_
      rintro _ T45 h45 X45 ⟨rfl, H45⟩
      replace H45 : OL n0 h45 ((b43, OO Z "com/example/palamedes/palamedes/lda/TopicModel" [("com/example/palamedes/palamedes/lda/TopicModel", "topics", "I", .int (2 : Int32)), ("com/example/palamedes/palamedes/lda/TopicModel", "words", "I", .int (3 : Int32)), ("com/example/palamedes/palamedes/lda/TopicModel", "alpha", "D", .double FP.dconst1), ("com/example/palamedes/palamedes/lda/TopicModel", "beta", "D", .double FP.dconst1), ("com/example/palamedes/palamedes/lda/TopicModel", "wordTopicCounts", "[I", .ref b1), ("com/example/palamedes/palamedes/lda/TopicModel", "topicCounts", "[I", .ref b44)]) :: (b1, OA Z .int [xa, xb, xe, xe, xe, xe, xe, xe, xe, xe, xe, xe]) :: (b44, OA Z .int [(0 : Int32), (0 : Int32), (0 : Int32), (0 : Int32)]) :: []) := H45
      show OE p e room_1 below s n0 Q' T45 (mkF m 162 #[.val (.int xs), .val (.int xa), .val (.int xb), .val (.int xc), .val (.int xd), .val (.int xe), .val (.int (2 : Int32)), .val (.int (0 : Int32)), .val (.ref b1), .val (.int (0 : Int32)), .unset, .unset, .unset] [(.ref b43)])
      refine o_astore X45 at_162 rfl #[.val (.int xs), .val (.int xa), .val (.int xb), .val (.int xc), .val (.int xd), .val (.int xe), .val (.int (2 : Int32)), .val (.int (0 : Int32)), .val (.ref b1), .val (.int (0 : Int32)), .val (.ref b43), .unset, .unset] rfl 164 rfl ?_
      refine o_iloadN X45 at_164 rfl 165 rfl ?_
      refine o_i2l X45 at_165 166 rfl ?_
      refine o_lstore X45 at_166 #[.val (.int xs), .val (.int xa), .val (.int xb), .val (.int xc), .val (.int xd), .val (.int xe), .val (.int (2 : Int32)), .val (.int (0 : Int32)), .val (.ref b1), .val (.int (0 : Int32)), .val (.ref b43), .val (.long (Int32.toInt64 xa)), .second] rfl 168 rfl ?_
      refine o_iload X45 at_168 rfl 170 rfl ?_
      refine o_iconst (v := (1 : Int32)) X45 at_170 rfl 171 rfl ?_
      refine o_icmpLe X45 at_171 181 174 (by decide) (by decide) rfl (fun q => by exfalso; exact absurd q (by decide)) ?_
      intro hc171
      refine o_lload X45 at_174 rfl 176 rfl ?_
      refine o_iloadN X45 at_176 rfl 177 rfl ?_
      refine o_i2l X45 at_177 178 rfl ?_
      refine o_ladd X45 at_178 179 rfl ?_
      refine o_lstore X45 at_179 #[.val (.int xs), .val (.int xa), .val (.int xb), .val (.int xc), .val (.int xd), .val (.int xe), .val (.int (2 : Int32)), .val (.int (0 : Int32)), .val (.ref b1), .val (.int (0 : Int32)), .val (.ref b43), .val (.long ((Int32.toInt64 xa) + (Int32.toInt64 xb))), .second] rfl 181 rfl ?_
      refine o_iload X45 at_181 rfl 183 rfl ?_
      refine o_iconst (v := (2 : Int32)) X45 at_183 rfl 184 rfl ?_
      refine o_icmpLe X45 at_184 194 187 (by decide) (by decide) rfl ?_ (fun q => by exfalso; exact absurd q (by decide))
      intro hc184
      refine o_iload X45 at_194 rfl 196 rfl ?_
      refine o_iconst (v := (3 : Int32)) X45 at_196 rfl 197 rfl ?_
      refine o_icmpLe X45 at_197 208 200 (by decide) (by decide) rfl ?_ (fun q => by exfalso; exact absurd q (by decide))
      intro hc197
      refine o_aload X45 at_208 rfl rfl 210 rfl ?_
      refine o_iload X45 at_210 rfl 212 rfl ?_
      have H49 : OL n0 h45 ((b1, OA Z .int [xa, xb, xe, xe, xe, xe, xe, xe, xe, xe, xe, xe]) :: (b43, OO Z "com/example/palamedes/palamedes/lda/TopicModel" [("com/example/palamedes/palamedes/lda/TopicModel", "topics", "I", .int (2 : Int32)), ("com/example/palamedes/palamedes/lda/TopicModel", "words", "I", .int (3 : Int32)), ("com/example/palamedes/palamedes/lda/TopicModel", "alpha", "D", .double FP.dconst1), ("com/example/palamedes/palamedes/lda/TopicModel", "beta", "D", .double FP.dconst1), ("com/example/palamedes/palamedes/lda/TopicModel", "wordTopicCounts", "[I", .ref b1), ("com/example/palamedes/palamedes/lda/TopicModel", "topicCounts", "[I", .ref b44)]) :: (b44, OA Z .int [(0 : Int32), (0 : Int32), (0 : Int32), (0 : Int32)]) :: []) := H45.front 1 rfl
      have H50 : OL n0 h45 ((b43, OO Z "com/example/palamedes/palamedes/lda/TopicModel" [("com/example/palamedes/palamedes/lda/TopicModel", "topics", "I", .int (2 : Int32)), ("com/example/palamedes/palamedes/lda/TopicModel", "words", "I", .int (3 : Int32)), ("com/example/palamedes/palamedes/lda/TopicModel", "alpha", "D", .double FP.dconst1), ("com/example/palamedes/palamedes/lda/TopicModel", "beta", "D", .double FP.dconst1), ("com/example/palamedes/palamedes/lda/TopicModel", "wordTopicCounts", "[I", .ref b1), ("com/example/palamedes/palamedes/lda/TopicModel", "topicCounts", "[I", .ref b44)]) :: (b1, OA Z .int [xa, xb, xe, xe, xe, xe, xe, xe, xe, xe, xe, xe]) :: (b44, OA Z .int [(0 : Int32), (0 : Int32), (0 : Int32), (0 : Int32)]) :: []) := H49.front 1 rfl
      refine o_callV X45 H50 0 rfl at_212 (rest := []) (c_wt_2_0 l Z a0 hw [] n0 _ X45.size b43 b1 b44 (3 : Int32) FP.dconst1 FP.dconst1 xa xb xe xe xe xe xe xe xe xe xe xe ((b44, OA Z .int [(0 : Int32), (0 : Int32), (0 : Int32), (0 : Int32)]) :: []) H50) (hw _ (List.mem_of_getElem? (i := 23) rfl)) (hw _ (List.mem_of_getElem? (i := 24) rfl)) (hw _ (List.mem_of_getElem? (i := 26) rfl)) (hw _ (List.mem_of_getElem? (i := 25) rfl)) (hw _ (List.mem_of_getElem? (i := 4) rfl)) (hw _ (List.mem_of_getElem? (i := 27) rfl)) (by decide) 0 (by decide) (by decide) rfl [(.int (0 : Int32))] rfl pd_3 rfl rfl (Nat.le_of_eq rfl) 3 22 rfl rfl (by decide) (by decide) 215 rfl ?_
      rintro _ T48 _ X48 ⟨rfl, rfl⟩
      show OE p e room_1 below s n0 Q' T48 (mkF m 215 #[.val (.int xs), .val (.int xa), .val (.int xb), .val (.int xc), .val (.int xd), .val (.int xe), .val (.int (2 : Int32)), .val (.int (0 : Int32)), .val (.ref b1), .val (.int (0 : Int32)), .val (.ref b43), .val (.long ((Int32.toInt64 xa) + (Int32.toInt64 xb))), .second] [(.long (((0 : Int64) + (Int32.toInt64 xa)) + (Int32.toInt64 xb)))])
      refine o_lload X48 at_215 rfl 217 rfl ?_
      refine o_lcmp X48 at_217 218 rfl ?_
      refine o_ifNe X48 at_218 225 221 (by decide) (by decide) rfl (fun q => by exfalso; exact q ((v_cmp0 _ _).mpr (by simp only [Int64.zero_add]))) ?_
      intro hc218
      refine o_iconst (v := (1 : Int32)) X48 at_221 rfl 222 rfl ?_
      refine o_goto X48 at_222 226 (by decide) (by decide) ?_
      exact o_retZ X48 at_226 (by decide) (by decide) (hQ _ _ rfl)
    · rw [hv]
      refine o_iload X13 at_89 rfl 91 rfl ?_
      refine o_iload X13 at_91 rfl 93 rfl ?_
      refine o_imul X13 at_93 94 rfl ?_
      refine o_istore X13 at_94 #[.val (.int xs), .val (.int xa), .val (.int xb), .val (.int xc), .val (.int xd), .val (.int xe), .val (.int (2 : Int32)), .val (.int (1 : Int32)), .val (.ref b1), .val (.int ((1 : Int32) * (2 : Int32))), .unset, .unset, .unset] rfl 96 rfl ?_
      rw [show ((1 : Int32) * (2 : Int32)) = (2 : Int32) from rfl]
      refine o_aload X13 at_96 rfl rfl 98 rfl ?_
      refine o_iload X13 at_98 rfl 100 rfl ?_
      refine o_iloadN X13 at_100 rfl 101 rfl ?_
      refine o_iastore X13 H13 0 rfl at_101 2 rfl (by show 2 < 12; decide) 102 rfl ?_
      intro T51 h51 X51 H51
      replace H51 : OL n0 h51 ((b1, OA Z .int [xe, xe, xa, xe, xe, xe, xe, xe, xe, xe, xe, xe]) :: []) := H51
      refine o_iload X51 at_102 rfl 104 rfl ?_
      refine o_iconst (v := (1 : Int32)) X51 at_104 rfl 105 rfl ?_
      refine o_icmpLe X51 at_105 116 108 (by decide) (by decide) rfl (fun q => by exfalso; exact absurd q (by decide)) ?_
      intro hc105
      refine o_aload X51 at_108 rfl rfl 110 rfl ?_
      refine o_iload X51 at_110 rfl 112 rfl ?_
      refine o_iconst (v := (1 : Int32)) X51 at_112 rfl 113 rfl ?_
      refine o_iadd X51 at_113 114 rfl ?_
      refine o_iloadN X51 at_114 rfl 115 rfl ?_
      refine o_iastore X51 H51 0 rfl at_115 3 rfl (by show 3 < 12; decide) 116 rfl ?_
      intro T52 h52 X52 H52
      replace H52 : OL n0 h52 ((b1, OA Z .int [xe, xe, xa, xb, xe, xe, xe, xe, xe, xe, xe, xe]) :: []) := H52
      refine o_iload X52 at_116 rfl 118 rfl ?_
      refine o_iconst (v := (2 : Int32)) X52 at_118 rfl 119 rfl ?_
      refine o_icmpLe X52 at_119 130 122 (by decide) (by decide) rfl ?_ (fun q => by exfalso; exact absurd q (by decide))
      intro hc119
      refine o_iload X52 at_130 rfl 132 rfl ?_
      refine o_iconst (v := (3 : Int32)) X52 at_132 rfl 133 rfl ?_
      refine o_icmpLe X52 at_133 145 136 (by decide) (by decide) rfl ?_ (fun q => by exfalso; exact absurd q (by decide))
      intro hc133
      refine o_new (L := ((b1, OA Z .int [xe, xe, xa, xb, xe, xe, xe, xe, xe, xe, xe, xe]) :: [])) X52 H52 at_145 (hw _ (List.mem_of_getElem? (i := 2) rfl)) (hw _ (List.mem_of_getElem? (i := 3) rfl)) (hw _ (List.mem_of_getElem? (i := 4) rfl)) [("com/example/palamedes/palamedes/lda/TopicModel", "topics", "I", .int (0 : Int32)), ("com/example/palamedes/palamedes/lda/TopicModel", "words", "I", .int (0 : Int32)), ("com/example/palamedes/palamedes/lda/TopicModel", "alpha", "D", .double 0), ("com/example/palamedes/palamedes/lda/TopicModel", "beta", "D", .double 0), ("com/example/palamedes/palamedes/lda/TopicModel", "wordTopicCounts", "[I", .null), ("com/example/palamedes/palamedes/lda/TopicModel", "topicCounts", "[I", .null)] (oqS ⟨.int, Or.inr (hw _ (List.mem_of_getElem? (i := 12) rfl)), by decide, rfl⟩ (oqS ⟨.int, Or.inr (hw _ (List.mem_of_getElem? (i := 14) rfl)), by decide, rfl⟩ (oqS ⟨.double, Or.inr (hw _ (List.mem_of_getElem? (i := 16) rfl)), by decide, rfl⟩ (oqS ⟨.double, Or.inr (hw _ (List.mem_of_getElem? (i := 18) rfl)), by decide, rfl⟩ (oqS ⟨(.array .int), Or.inr (hw _ (List.mem_of_getElem? (i := 20) rfl)), by decide, rfl⟩ (oqS ⟨(.array .int), Or.inr (hw _ (List.mem_of_getElem? (i := 22) rfl)), by decide, rfl⟩ oq0)))))) 2 18 rfl rfl (by decide) (by decide) 148 rfl ?_
      intro T53 h53 b53 X53 H53
      refine o_dup X53 at_148 rfl 149 rfl ?_
      refine o_iload X53 at_149 rfl 151 rfl ?_
      refine o_iconst (v := (3 : Int32)) X53 at_151 rfl 152 rfl ?_
      refine o_dconst1 X53 at_152 153 rfl ?_
      refine o_dconst1 X53 at_153 154 rfl ?_
      refine o_aload X53 at_154 rfl rfl 156 rfl ?_
      refine o_iconst (v := (4 : Int32)) X53 at_156 rfl 157 rfl ?_
      refine o_newarray (L := ((b53, OO Z "com/example/palamedes/palamedes/lda/TopicModel" [("com/example/palamedes/palamedes/lda/TopicModel", "topics", "I", .int (0 : Int32)), ("com/example/palamedes/palamedes/lda/TopicModel", "words", "I", .int (0 : Int32)), ("com/example/palamedes/palamedes/lda/TopicModel", "alpha", "D", .double 0), ("com/example/palamedes/palamedes/lda/TopicModel", "beta", "D", .double 0), ("com/example/palamedes/palamedes/lda/TopicModel", "wordTopicCounts", "[I", .null), ("com/example/palamedes/palamedes/lda/TopicModel", "topicCounts", "[I", .null)]) :: (b1, OA Z .int [xe, xe, xa, xb, xe, xe, xe, xe, xe, xe, xe, xe]) :: [])) X53 H53 at_157 (hw _ (List.mem_of_getElem? (i := 1) rfl)) rfl rfl 4 4 rfl (by decide) (by decide) 3 22 rfl rfl (by decide) (by decide) 159 rfl ?_
      intro T54 h54 b54 X54 H54
      replace H54 : OL n0 h54 ((b54, OA Z .int [(0 : Int32), (0 : Int32), (0 : Int32), (0 : Int32)]) :: (b53, OO Z "com/example/palamedes/palamedes/lda/TopicModel" [("com/example/palamedes/palamedes/lda/TopicModel", "topics", "I", .int (0 : Int32)), ("com/example/palamedes/palamedes/lda/TopicModel", "words", "I", .int (0 : Int32)), ("com/example/palamedes/palamedes/lda/TopicModel", "alpha", "D", .double 0), ("com/example/palamedes/palamedes/lda/TopicModel", "beta", "D", .double 0), ("com/example/palamedes/palamedes/lda/TopicModel", "wordTopicCounts", "[I", .null), ("com/example/palamedes/palamedes/lda/TopicModel", "topicCounts", "[I", .null)]) :: (b1, OA Z .int [xe, xe, xa, xb, xe, xe, xe, xe, xe, xe, xe, xe]) :: []) := H54
      have H56 : OL n0 h54 ((b1, OA Z .int [xe, xe, xa, xb, xe, xe, xe, xe, xe, xe, xe, xe]) :: (b54, OA Z .int [(0 : Int32), (0 : Int32), (0 : Int32), (0 : Int32)]) :: (b53, OO Z "com/example/palamedes/palamedes/lda/TopicModel" [("com/example/palamedes/palamedes/lda/TopicModel", "topics", "I", .int (0 : Int32)), ("com/example/palamedes/palamedes/lda/TopicModel", "words", "I", .int (0 : Int32)), ("com/example/palamedes/palamedes/lda/TopicModel", "alpha", "D", .double 0), ("com/example/palamedes/palamedes/lda/TopicModel", "beta", "D", .double 0), ("com/example/palamedes/palamedes/lda/TopicModel", "wordTopicCounts", "[I", .null), ("com/example/palamedes/palamedes/lda/TopicModel", "topicCounts", "[I", .null)]) :: []) := H54.front 2 rfl
      have H57 : OL n0 h54 ((b53, OO Z "com/example/palamedes/palamedes/lda/TopicModel" [("com/example/palamedes/palamedes/lda/TopicModel", "topics", "I", .int (0 : Int32)), ("com/example/palamedes/palamedes/lda/TopicModel", "words", "I", .int (0 : Int32)), ("com/example/palamedes/palamedes/lda/TopicModel", "alpha", "D", .double 0), ("com/example/palamedes/palamedes/lda/TopicModel", "beta", "D", .double 0), ("com/example/palamedes/palamedes/lda/TopicModel", "wordTopicCounts", "[I", .null), ("com/example/palamedes/palamedes/lda/TopicModel", "topicCounts", "[I", .null)]) :: (b1, OA Z .int [xe, xe, xa, xb, xe, xe, xe, xe, xe, xe, xe, xe]) :: (b54, OA Z .int [(0 : Int32), (0 : Int32), (0 : Int32), (0 : Int32)]) :: []) := H56.front 2 rfl
      refine o_callI X54 at_159 (rest := [(.ref b53)]) (c_init l Z a0 hw [] n0 _ X54.size b53 (2 : Int32) (3 : Int32) FP.dconst1 FP.dconst1 b1 b54 _ _ _ _ _ _ ((b1, OA Z .int [xe, xe, xa, xb, xe, xe, xe, xe, xe, xe, xe, xe]) :: (b54, OA Z .int [(0 : Int32), (0 : Int32), (0 : Int32), (0 : Int32)]) :: []) H57) rfl (hw _ (List.mem_of_getElem? (i := 5) rfl)) (hw _ (List.mem_of_getElem? (i := 6) rfl)) (hw _ (List.mem_of_getElem? (i := 4) rfl)) (hw _ (List.mem_of_getElem? (i := 7) rfl)) (by decide) 1 (by decide) (by decide) rfl [(.int (2 : Int32)), (.int (3 : Int32)), (.double FP.dconst1), (.double FP.dconst1), (.ref b1), (.ref b54)] rfl pd_1 rfl rfl (Nat.le_of_eq rfl) 3 22 rfl rfl (by decide) (by decide) 162 rfl ?_
      rintro _ T55 h55 X55 ⟨rfl, H55⟩
      replace H55 : OL n0 h55 ((b53, OO Z "com/example/palamedes/palamedes/lda/TopicModel" [("com/example/palamedes/palamedes/lda/TopicModel", "topics", "I", .int (2 : Int32)), ("com/example/palamedes/palamedes/lda/TopicModel", "words", "I", .int (3 : Int32)), ("com/example/palamedes/palamedes/lda/TopicModel", "alpha", "D", .double FP.dconst1), ("com/example/palamedes/palamedes/lda/TopicModel", "beta", "D", .double FP.dconst1), ("com/example/palamedes/palamedes/lda/TopicModel", "wordTopicCounts", "[I", .ref b1), ("com/example/palamedes/palamedes/lda/TopicModel", "topicCounts", "[I", .ref b54)]) :: (b1, OA Z .int [xe, xe, xa, xb, xe, xe, xe, xe, xe, xe, xe, xe]) :: (b54, OA Z .int [(0 : Int32), (0 : Int32), (0 : Int32), (0 : Int32)]) :: []) := H55
      show OE p e room_1 below s n0 Q' T55 (mkF m 162 #[.val (.int xs), .val (.int xa), .val (.int xb), .val (.int xc), .val (.int xd), .val (.int xe), .val (.int (2 : Int32)), .val (.int (1 : Int32)), .val (.ref b1), .val (.int (2 : Int32)), .unset, .unset, .unset] [(.ref b53)])
      refine o_astore X55 at_162 rfl #[.val (.int xs), .val (.int xa), .val (.int xb), .val (.int xc), .val (.int xd), .val (.int xe), .val (.int (2 : Int32)), .val (.int (1 : Int32)), .val (.ref b1), .val (.int (2 : Int32)), .val (.ref b53), .unset, .unset] rfl 164 rfl ?_
      refine o_iloadN X55 at_164 rfl 165 rfl ?_
      refine o_i2l X55 at_165 166 rfl ?_
      refine o_lstore X55 at_166 #[.val (.int xs), .val (.int xa), .val (.int xb), .val (.int xc), .val (.int xd), .val (.int xe), .val (.int (2 : Int32)), .val (.int (1 : Int32)), .val (.ref b1), .val (.int (2 : Int32)), .val (.ref b53), .val (.long (Int32.toInt64 xa)), .second] rfl 168 rfl ?_
      refine o_iload X55 at_168 rfl 170 rfl ?_
      refine o_iconst (v := (1 : Int32)) X55 at_170 rfl 171 rfl ?_
      refine o_icmpLe X55 at_171 181 174 (by decide) (by decide) rfl (fun q => by exfalso; exact absurd q (by decide)) ?_
      intro hc171
      refine o_lload X55 at_174 rfl 176 rfl ?_
      refine o_iloadN X55 at_176 rfl 177 rfl ?_
      refine o_i2l X55 at_177 178 rfl ?_
      refine o_ladd X55 at_178 179 rfl ?_
      refine o_lstore X55 at_179 #[.val (.int xs), .val (.int xa), .val (.int xb), .val (.int xc), .val (.int xd), .val (.int xe), .val (.int (2 : Int32)), .val (.int (1 : Int32)), .val (.ref b1), .val (.int (2 : Int32)), .val (.ref b53), .val (.long ((Int32.toInt64 xa) + (Int32.toInt64 xb))), .second] rfl 181 rfl ?_
      refine o_iload X55 at_181 rfl 183 rfl ?_
      refine o_iconst (v := (2 : Int32)) X55 at_183 rfl 184 rfl ?_
      refine o_icmpLe X55 at_184 194 187 (by decide) (by decide) rfl ?_ (fun q => by exfalso; exact absurd q (by decide))
      intro hc184
      refine o_iload X55 at_194 rfl 196 rfl ?_
      refine o_iconst (v := (3 : Int32)) X55 at_196 rfl 197 rfl ?_
      refine o_icmpLe X55 at_197 208 200 (by decide) (by decide) rfl ?_ (fun q => by exfalso; exact absurd q (by decide))
      intro hc197
      refine o_aload X55 at_208 rfl rfl 210 rfl ?_
      refine o_iload X55 at_210 rfl 212 rfl ?_
      have H59 : OL n0 h55 ((b1, OA Z .int [xe, xe, xa, xb, xe, xe, xe, xe, xe, xe, xe, xe]) :: (b53, OO Z "com/example/palamedes/palamedes/lda/TopicModel" [("com/example/palamedes/palamedes/lda/TopicModel", "topics", "I", .int (2 : Int32)), ("com/example/palamedes/palamedes/lda/TopicModel", "words", "I", .int (3 : Int32)), ("com/example/palamedes/palamedes/lda/TopicModel", "alpha", "D", .double FP.dconst1), ("com/example/palamedes/palamedes/lda/TopicModel", "beta", "D", .double FP.dconst1), ("com/example/palamedes/palamedes/lda/TopicModel", "wordTopicCounts", "[I", .ref b1), ("com/example/palamedes/palamedes/lda/TopicModel", "topicCounts", "[I", .ref b54)]) :: (b54, OA Z .int [(0 : Int32), (0 : Int32), (0 : Int32), (0 : Int32)]) :: []) := H55.front 1 rfl
      have H60 : OL n0 h55 ((b53, OO Z "com/example/palamedes/palamedes/lda/TopicModel" [("com/example/palamedes/palamedes/lda/TopicModel", "topics", "I", .int (2 : Int32)), ("com/example/palamedes/palamedes/lda/TopicModel", "words", "I", .int (3 : Int32)), ("com/example/palamedes/palamedes/lda/TopicModel", "alpha", "D", .double FP.dconst1), ("com/example/palamedes/palamedes/lda/TopicModel", "beta", "D", .double FP.dconst1), ("com/example/palamedes/palamedes/lda/TopicModel", "wordTopicCounts", "[I", .ref b1), ("com/example/palamedes/palamedes/lda/TopicModel", "topicCounts", "[I", .ref b54)]) :: (b1, OA Z .int [xe, xe, xa, xb, xe, xe, xe, xe, xe, xe, xe, xe]) :: (b54, OA Z .int [(0 : Int32), (0 : Int32), (0 : Int32), (0 : Int32)]) :: []) := H59.front 1 rfl
      refine o_callV X55 H60 0 rfl at_212 (rest := []) (c_wt_2_1 l Z a0 hw [] n0 _ X55.size b53 b1 b54 (3 : Int32) FP.dconst1 FP.dconst1 xe xe xa xb xe xe xe xe xe xe xe xe ((b54, OA Z .int [(0 : Int32), (0 : Int32), (0 : Int32), (0 : Int32)]) :: []) H60) (hw _ (List.mem_of_getElem? (i := 23) rfl)) (hw _ (List.mem_of_getElem? (i := 24) rfl)) (hw _ (List.mem_of_getElem? (i := 26) rfl)) (hw _ (List.mem_of_getElem? (i := 25) rfl)) (hw _ (List.mem_of_getElem? (i := 4) rfl)) (hw _ (List.mem_of_getElem? (i := 27) rfl)) (by decide) 0 (by decide) (by decide) rfl [(.int (1 : Int32))] rfl pd_3 rfl rfl (Nat.le_of_eq rfl) 3 22 rfl rfl (by decide) (by decide) 215 rfl ?_
      rintro _ T58 _ X58 ⟨rfl, rfl⟩
      show OE p e room_1 below s n0 Q' T58 (mkF m 215 #[.val (.int xs), .val (.int xa), .val (.int xb), .val (.int xc), .val (.int xd), .val (.int xe), .val (.int (2 : Int32)), .val (.int (1 : Int32)), .val (.ref b1), .val (.int (2 : Int32)), .val (.ref b53), .val (.long ((Int32.toInt64 xa) + (Int32.toInt64 xb))), .second] [(.long (((0 : Int64) + (Int32.toInt64 xa)) + (Int32.toInt64 xb)))])
      refine o_lload X58 at_215 rfl 217 rfl ?_
      refine o_lcmp X58 at_217 218 rfl ?_
      refine o_ifNe X58 at_218 225 221 (by decide) (by decide) rfl (fun q => by exfalso; exact q ((v_cmp0 _ _).mpr (by simp only [Int64.zero_add]))) ?_
      intro hc218
      refine o_iconst (v := (1 : Int32)) X58 at_221 rfl 222 rfl ?_
      refine o_goto X58 at_222 226 (by decide) (by decide) ?_
      exact o_retZ X58 at_226 (by decide) (by decide) (hQ _ _ rfl)
    · rw [hv]
      refine o_iload X13 at_89 rfl 91 rfl ?_
      refine o_iload X13 at_91 rfl 93 rfl ?_
      refine o_imul X13 at_93 94 rfl ?_
      refine o_istore X13 at_94 #[.val (.int xs), .val (.int xa), .val (.int xb), .val (.int xc), .val (.int xd), .val (.int xe), .val (.int (2 : Int32)), .val (.int (2 : Int32)), .val (.ref b1), .val (.int ((2 : Int32) * (2 : Int32))), .unset, .unset, .unset] rfl 96 rfl ?_
      rw [show ((2 : Int32) * (2 : Int32)) = (4 : Int32) from rfl]
      refine o_aload X13 at_96 rfl rfl 98 rfl ?_
      refine o_iload X13 at_98 rfl 100 rfl ?_
      refine o_iloadN X13 at_100 rfl 101 rfl ?_
      refine o_iastore X13 H13 0 rfl at_101 4 rfl (by show 4 < 12; decide) 102 rfl ?_
      intro T61 h61 X61 H61
      replace H61 : OL n0 h61 ((b1, OA Z .int [xe, xe, xe, xe, xa, xe, xe, xe, xe, xe, xe, xe]) :: []) := H61
      refine o_iload X61 at_102 rfl 104 rfl ?_
      refine o_iconst (v := (1 : Int32)) X61 at_104 rfl 105 rfl ?_
      refine o_icmpLe X61 at_105 116 108 (by decide) (by decide) rfl (fun q => by exfalso; exact absurd q (by decide)) ?_
      intro hc105
      refine o_aload X61 at_108 rfl rfl 110 rfl ?_
      refine o_iload X61 at_110 rfl 112 rfl ?_
      refine o_iconst (v := (1 : Int32)) X61 at_112 rfl 113 rfl ?_
      refine o_iadd X61 at_113 114 rfl ?_
      refine o_iloadN X61 at_114 rfl 115 rfl ?_
      refine o_iastore X61 H61 0 rfl at_115 5 rfl (by show 5 < 12; decide) 116 rfl ?_
      intro T62 h62 X62 H62
      replace H62 : OL n0 h62 ((b1, OA Z .int [xe, xe, xe, xe, xa, xb, xe, xe, xe, xe, xe, xe]) :: []) := H62
      refine o_iload X62 at_116 rfl 118 rfl ?_
      refine o_iconst (v := (2 : Int32)) X62 at_118 rfl 119 rfl ?_
      refine o_icmpLe X62 at_119 130 122 (by decide) (by decide) rfl ?_ (fun q => by exfalso; exact absurd q (by decide))
      intro hc119
      refine o_iload X62 at_130 rfl 132 rfl ?_
      refine o_iconst (v := (3 : Int32)) X62 at_132 rfl 133 rfl ?_
      refine o_icmpLe X62 at_133 145 136 (by decide) (by decide) rfl ?_ (fun q => by exfalso; exact absurd q (by decide))
      intro hc133
      refine o_new (L := ((b1, OA Z .int [xe, xe, xe, xe, xa, xb, xe, xe, xe, xe, xe, xe]) :: [])) X62 H62 at_145 (hw _ (List.mem_of_getElem? (i := 2) rfl)) (hw _ (List.mem_of_getElem? (i := 3) rfl)) (hw _ (List.mem_of_getElem? (i := 4) rfl)) [("com/example/palamedes/palamedes/lda/TopicModel", "topics", "I", .int (0 : Int32)), ("com/example/palamedes/palamedes/lda/TopicModel", "words", "I", .int (0 : Int32)), ("com/example/palamedes/palamedes/lda/TopicModel", "alpha", "D", .double 0), ("com/example/palamedes/palamedes/lda/TopicModel", "beta", "D", .double 0), ("com/example/palamedes/palamedes/lda/TopicModel", "wordTopicCounts", "[I", .null), ("com/example/palamedes/palamedes/lda/TopicModel", "topicCounts", "[I", .null)] (oqS ⟨.int, Or.inr (hw _ (List.mem_of_getElem? (i := 12) rfl)), by decide, rfl⟩ (oqS ⟨.int, Or.inr (hw _ (List.mem_of_getElem? (i := 14) rfl)), by decide, rfl⟩ (oqS ⟨.double, Or.inr (hw _ (List.mem_of_getElem? (i := 16) rfl)), by decide, rfl⟩ (oqS ⟨.double, Or.inr (hw _ (List.mem_of_getElem? (i := 18) rfl)), by decide, rfl⟩ (oqS ⟨(.array .int), Or.inr (hw _ (List.mem_of_getElem? (i := 20) rfl)), by decide, rfl⟩ (oqS ⟨(.array .int), Or.inr (hw _ (List.mem_of_getElem? (i := 22) rfl)), by decide, rfl⟩ oq0)))))) 2 18 rfl rfl (by decide) (by decide) 148 rfl ?_
      intro T63 h63 b63 X63 H63
      refine o_dup X63 at_148 rfl 149 rfl ?_
      refine o_iload X63 at_149 rfl 151 rfl ?_
      refine o_iconst (v := (3 : Int32)) X63 at_151 rfl 152 rfl ?_
      refine o_dconst1 X63 at_152 153 rfl ?_
      refine o_dconst1 X63 at_153 154 rfl ?_
      refine o_aload X63 at_154 rfl rfl 156 rfl ?_
      refine o_iconst (v := (4 : Int32)) X63 at_156 rfl 157 rfl ?_
      refine o_newarray (L := ((b63, OO Z "com/example/palamedes/palamedes/lda/TopicModel" [("com/example/palamedes/palamedes/lda/TopicModel", "topics", "I", .int (0 : Int32)), ("com/example/palamedes/palamedes/lda/TopicModel", "words", "I", .int (0 : Int32)), ("com/example/palamedes/palamedes/lda/TopicModel", "alpha", "D", .double 0), ("com/example/palamedes/palamedes/lda/TopicModel", "beta", "D", .double 0), ("com/example/palamedes/palamedes/lda/TopicModel", "wordTopicCounts", "[I", .null), ("com/example/palamedes/palamedes/lda/TopicModel", "topicCounts", "[I", .null)]) :: (b1, OA Z .int [xe, xe, xe, xe, xa, xb, xe, xe, xe, xe, xe, xe]) :: [])) X63 H63 at_157 (hw _ (List.mem_of_getElem? (i := 1) rfl)) rfl rfl 4 4 rfl (by decide) (by decide) 3 22 rfl rfl (by decide) (by decide) 159 rfl ?_
      intro T64 h64 b64 X64 H64
      replace H64 : OL n0 h64 ((b64, OA Z .int [(0 : Int32), (0 : Int32), (0 : Int32), (0 : Int32)]) :: (b63, OO Z "com/example/palamedes/palamedes/lda/TopicModel" [("com/example/palamedes/palamedes/lda/TopicModel", "topics", "I", .int (0 : Int32)), ("com/example/palamedes/palamedes/lda/TopicModel", "words", "I", .int (0 : Int32)), ("com/example/palamedes/palamedes/lda/TopicModel", "alpha", "D", .double 0), ("com/example/palamedes/palamedes/lda/TopicModel", "beta", "D", .double 0), ("com/example/palamedes/palamedes/lda/TopicModel", "wordTopicCounts", "[I", .null), ("com/example/palamedes/palamedes/lda/TopicModel", "topicCounts", "[I", .null)]) :: (b1, OA Z .int [xe, xe, xe, xe, xa, xb, xe, xe, xe, xe, xe, xe]) :: []) := H64
      have H66 : OL n0 h64 ((b1, OA Z .int [xe, xe, xe, xe, xa, xb, xe, xe, xe, xe, xe, xe]) :: (b64, OA Z .int [(0 : Int32), (0 : Int32), (0 : Int32), (0 : Int32)]) :: (b63, OO Z "com/example/palamedes/palamedes/lda/TopicModel" [("com/example/palamedes/palamedes/lda/TopicModel", "topics", "I", .int (0 : Int32)), ("com/example/palamedes/palamedes/lda/TopicModel", "words", "I", .int (0 : Int32)), ("com/example/palamedes/palamedes/lda/TopicModel", "alpha", "D", .double 0), ("com/example/palamedes/palamedes/lda/TopicModel", "beta", "D", .double 0), ("com/example/palamedes/palamedes/lda/TopicModel", "wordTopicCounts", "[I", .null), ("com/example/palamedes/palamedes/lda/TopicModel", "topicCounts", "[I", .null)]) :: []) := H64.front 2 rfl
      have H67 : OL n0 h64 ((b63, OO Z "com/example/palamedes/palamedes/lda/TopicModel" [("com/example/palamedes/palamedes/lda/TopicModel", "topics", "I", .int (0 : Int32)), ("com/example/palamedes/palamedes/lda/TopicModel", "words", "I", .int (0 : Int32)), ("com/example/palamedes/palamedes/lda/TopicModel", "alpha", "D", .double 0), ("com/example/palamedes/palamedes/lda/TopicModel", "beta", "D", .double 0), ("com/example/palamedes/palamedes/lda/TopicModel", "wordTopicCounts", "[I", .null), ("com/example/palamedes/palamedes/lda/TopicModel", "topicCounts", "[I", .null)]) :: (b1, OA Z .int [xe, xe, xe, xe, xa, xb, xe, xe, xe, xe, xe, xe]) :: (b64, OA Z .int [(0 : Int32), (0 : Int32), (0 : Int32), (0 : Int32)]) :: []) := H66.front 2 rfl
      refine o_callI X64 at_159 (rest := [(.ref b63)]) (c_init l Z a0 hw [] n0 _ X64.size b63 (2 : Int32) (3 : Int32) FP.dconst1 FP.dconst1 b1 b64 _ _ _ _ _ _ ((b1, OA Z .int [xe, xe, xe, xe, xa, xb, xe, xe, xe, xe, xe, xe]) :: (b64, OA Z .int [(0 : Int32), (0 : Int32), (0 : Int32), (0 : Int32)]) :: []) H67) rfl (hw _ (List.mem_of_getElem? (i := 5) rfl)) (hw _ (List.mem_of_getElem? (i := 6) rfl)) (hw _ (List.mem_of_getElem? (i := 4) rfl)) (hw _ (List.mem_of_getElem? (i := 7) rfl)) (by decide) 1 (by decide) (by decide) rfl [(.int (2 : Int32)), (.int (3 : Int32)), (.double FP.dconst1), (.double FP.dconst1), (.ref b1), (.ref b64)] rfl pd_1 rfl rfl (Nat.le_of_eq rfl) 3 22 rfl rfl (by decide) (by decide) 162 rfl ?_
      rintro _ T65 h65 X65 ⟨rfl, H65⟩
      replace H65 : OL n0 h65 ((b63, OO Z "com/example/palamedes/palamedes/lda/TopicModel" [("com/example/palamedes/palamedes/lda/TopicModel", "topics", "I", .int (2 : Int32)), ("com/example/palamedes/palamedes/lda/TopicModel", "words", "I", .int (3 : Int32)), ("com/example/palamedes/palamedes/lda/TopicModel", "alpha", "D", .double FP.dconst1), ("com/example/palamedes/palamedes/lda/TopicModel", "beta", "D", .double FP.dconst1), ("com/example/palamedes/palamedes/lda/TopicModel", "wordTopicCounts", "[I", .ref b1), ("com/example/palamedes/palamedes/lda/TopicModel", "topicCounts", "[I", .ref b64)]) :: (b1, OA Z .int [xe, xe, xe, xe, xa, xb, xe, xe, xe, xe, xe, xe]) :: (b64, OA Z .int [(0 : Int32), (0 : Int32), (0 : Int32), (0 : Int32)]) :: []) := H65
      show OE p e room_1 below s n0 Q' T65 (mkF m 162 #[.val (.int xs), .val (.int xa), .val (.int xb), .val (.int xc), .val (.int xd), .val (.int xe), .val (.int (2 : Int32)), .val (.int (2 : Int32)), .val (.ref b1), .val (.int (4 : Int32)), .unset, .unset, .unset] [(.ref b63)])
      refine o_astore X65 at_162 rfl #[.val (.int xs), .val (.int xa), .val (.int xb), .val (.int xc), .val (.int xd), .val (.int xe), .val (.int (2 : Int32)), .val (.int (2 : Int32)), .val (.ref b1), .val (.int (4 : Int32)), .val (.ref b63), .unset, .unset] rfl 164 rfl ?_
      refine o_iloadN X65 at_164 rfl 165 rfl ?_
      refine o_i2l X65 at_165 166 rfl ?_
      refine o_lstore X65 at_166 #[.val (.int xs), .val (.int xa), .val (.int xb), .val (.int xc), .val (.int xd), .val (.int xe), .val (.int (2 : Int32)), .val (.int (2 : Int32)), .val (.ref b1), .val (.int (4 : Int32)), .val (.ref b63), .val (.long (Int32.toInt64 xa)), .second] rfl 168 rfl ?_
      refine o_iload X65 at_168 rfl 170 rfl ?_
      refine o_iconst (v := (1 : Int32)) X65 at_170 rfl 171 rfl ?_
      refine o_icmpLe X65 at_171 181 174 (by decide) (by decide) rfl (fun q => by exfalso; exact absurd q (by decide)) ?_
      intro hc171
      refine o_lload X65 at_174 rfl 176 rfl ?_
      refine o_iloadN X65 at_176 rfl 177 rfl ?_
      refine o_i2l X65 at_177 178 rfl ?_
      refine o_ladd X65 at_178 179 rfl ?_
      refine o_lstore X65 at_179 #[.val (.int xs), .val (.int xa), .val (.int xb), .val (.int xc), .val (.int xd), .val (.int xe), .val (.int (2 : Int32)), .val (.int (2 : Int32)), .val (.ref b1), .val (.int (4 : Int32)), .val (.ref b63), .val (.long ((Int32.toInt64 xa) + (Int32.toInt64 xb))), .second] rfl 181 rfl ?_
      refine o_iload X65 at_181 rfl 183 rfl ?_
      refine o_iconst (v := (2 : Int32)) X65 at_183 rfl 184 rfl ?_
      refine o_icmpLe X65 at_184 194 187 (by decide) (by decide) rfl ?_ (fun q => by exfalso; exact absurd q (by decide))
      intro hc184
      refine o_iload X65 at_194 rfl 196 rfl ?_
      refine o_iconst (v := (3 : Int32)) X65 at_196 rfl 197 rfl ?_
      refine o_icmpLe X65 at_197 208 200 (by decide) (by decide) rfl ?_ (fun q => by exfalso; exact absurd q (by decide))
      intro hc197
      refine o_aload X65 at_208 rfl rfl 210 rfl ?_
      refine o_iload X65 at_210 rfl 212 rfl ?_
      have H69 : OL n0 h65 ((b1, OA Z .int [xe, xe, xe, xe, xa, xb, xe, xe, xe, xe, xe, xe]) :: (b63, OO Z "com/example/palamedes/palamedes/lda/TopicModel" [("com/example/palamedes/palamedes/lda/TopicModel", "topics", "I", .int (2 : Int32)), ("com/example/palamedes/palamedes/lda/TopicModel", "words", "I", .int (3 : Int32)), ("com/example/palamedes/palamedes/lda/TopicModel", "alpha", "D", .double FP.dconst1), ("com/example/palamedes/palamedes/lda/TopicModel", "beta", "D", .double FP.dconst1), ("com/example/palamedes/palamedes/lda/TopicModel", "wordTopicCounts", "[I", .ref b1), ("com/example/palamedes/palamedes/lda/TopicModel", "topicCounts", "[I", .ref b64)]) :: (b64, OA Z .int [(0 : Int32), (0 : Int32), (0 : Int32), (0 : Int32)]) :: []) := H65.front 1 rfl
      have H70 : OL n0 h65 ((b63, OO Z "com/example/palamedes/palamedes/lda/TopicModel" [("com/example/palamedes/palamedes/lda/TopicModel", "topics", "I", .int (2 : Int32)), ("com/example/palamedes/palamedes/lda/TopicModel", "words", "I", .int (3 : Int32)), ("com/example/palamedes/palamedes/lda/TopicModel", "alpha", "D", .double FP.dconst1), ("com/example/palamedes/palamedes/lda/TopicModel", "beta", "D", .double FP.dconst1), ("com/example/palamedes/palamedes/lda/TopicModel", "wordTopicCounts", "[I", .ref b1), ("com/example/palamedes/palamedes/lda/TopicModel", "topicCounts", "[I", .ref b64)]) :: (b1, OA Z .int [xe, xe, xe, xe, xa, xb, xe, xe, xe, xe, xe, xe]) :: (b64, OA Z .int [(0 : Int32), (0 : Int32), (0 : Int32), (0 : Int32)]) :: []) := H69.front 1 rfl
      refine o_callV X65 H70 0 rfl at_212 (rest := []) (c_wt_2_2 l Z a0 hw [] n0 _ X65.size b63 b1 b64 (3 : Int32) FP.dconst1 FP.dconst1 xe xe xe xe xa xb xe xe xe xe xe xe ((b64, OA Z .int [(0 : Int32), (0 : Int32), (0 : Int32), (0 : Int32)]) :: []) H70) (hw _ (List.mem_of_getElem? (i := 23) rfl)) (hw _ (List.mem_of_getElem? (i := 24) rfl)) (hw _ (List.mem_of_getElem? (i := 26) rfl)) (hw _ (List.mem_of_getElem? (i := 25) rfl)) (hw _ (List.mem_of_getElem? (i := 4) rfl)) (hw _ (List.mem_of_getElem? (i := 27) rfl)) (by decide) 0 (by decide) (by decide) rfl [(.int (2 : Int32))] rfl pd_3 rfl rfl (Nat.le_of_eq rfl) 3 22 rfl rfl (by decide) (by decide) 215 rfl ?_
      rintro _ T68 _ X68 ⟨rfl, rfl⟩
      show OE p e room_1 below s n0 Q' T68 (mkF m 215 #[.val (.int xs), .val (.int xa), .val (.int xb), .val (.int xc), .val (.int xd), .val (.int xe), .val (.int (2 : Int32)), .val (.int (2 : Int32)), .val (.ref b1), .val (.int (4 : Int32)), .val (.ref b63), .val (.long ((Int32.toInt64 xa) + (Int32.toInt64 xb))), .second] [(.long (((0 : Int64) + (Int32.toInt64 xa)) + (Int32.toInt64 xb)))])
      refine o_lload X68 at_215 rfl 217 rfl ?_
      refine o_lcmp X68 at_217 218 rfl ?_
      refine o_ifNe X68 at_218 225 221 (by decide) (by decide) rfl (fun q => by exfalso; exact q ((v_cmp0 _ _).mpr (by simp only [Int64.zero_add]))) ?_
      intro hc218
      refine o_iconst (v := (1 : Int32)) X68 at_221 rfl 222 rfl ?_
      refine o_goto X68 at_222 226 (by decide) (by decide) ?_
      exact o_retZ X68 at_226 (by decide) (by decide) (hQ _ _ rfl)
  · rw [hv]
    rcases v_w (XT.ushr xs 2) with hv | hv | hv
    · rw [hv]
      refine o_iload X13 at_89 rfl 91 rfl ?_
      refine o_iload X13 at_91 rfl 93 rfl ?_
      refine o_imul X13 at_93 94 rfl ?_
      refine o_istore X13 at_94 #[.val (.int xs), .val (.int xa), .val (.int xb), .val (.int xc), .val (.int xd), .val (.int xe), .val (.int (3 : Int32)), .val (.int (0 : Int32)), .val (.ref b1), .val (.int ((0 : Int32) * (3 : Int32))), .unset, .unset, .unset] rfl 96 rfl ?_
      rw [show ((0 : Int32) * (3 : Int32)) = (0 : Int32) from rfl]
      refine o_aload X13 at_96 rfl rfl 98 rfl ?_
      refine o_iload X13 at_98 rfl 100 rfl ?_
      refine o_iloadN X13 at_100 rfl 101 rfl ?_
      refine o_iastore X13 H13 0 rfl at_101 0 rfl (by show 0 < 12; decide) 102 rfl ?_
      intro T71 h71 X71 H71
      replace H71 : OL n0 h71 ((b1, OA Z .int [xa, xe, xe, xe, xe, xe, xe, xe, xe, xe, xe, xe]) :: []) := H71
      refine o_iload X71 at_102 rfl 104 rfl ?_
      refine o_iconst (v := (1 : Int32)) X71 at_104 rfl 105 rfl ?_
      refine o_icmpLe X71 at_105 116 108 (by decide) (by decide) rfl (fun q => by exfalso; exact absurd q (by decide)) ?_
      intro hc105
      refine o_aload X71 at_108 rfl rfl 110 rfl ?_
      refine o_iload X71 at_110 rfl 112 rfl ?_
      refine o_iconst (v := (1 : Int32)) X71 at_112 rfl 113 rfl ?_
      refine o_iadd X71 at_113 114 rfl ?_
      refine o_iloadN X71 at_114 rfl 115 rfl ?_
      refine o_iastore X71 H71 0 rfl at_115 1 rfl (by show 1 < 12; decide) 116 rfl ?_
      intro T72 h72 X72 H72
      replace H72 : OL n0 h72 ((b1, OA Z .int [xa, xb, xe, xe, xe, xe, xe, xe, xe, xe, xe, xe]) :: []) := H72
      refine o_iload X72 at_116 rfl 118 rfl ?_
      refine o_iconst (v := (2 : Int32)) X72 at_118 rfl 119 rfl ?_
      refine o_icmpLe X72 at_119 130 122 (by decide) (by decide) rfl (fun q => by exfalso; exact absurd q (by decide)) ?_
      intro hc119
      refine o_aload X72 at_122 rfl rfl 124 rfl ?_
      refine o_iload X72 at_124 rfl 126 rfl ?_
      refine o_iconst (v := (2 : Int32)) X72 at_126 rfl 127 rfl ?_
      refine o_iadd X72 at_127 128 rfl ?_
      refine o_iloadN X72 at_128 rfl 129 rfl ?_
      refine o_iastore X72 H72 0 rfl at_129 2 rfl (by show 2 < 12; decide) 130 rfl ?_
      intro T73 h73 X73 H73
      replace H73 : OL n0 h73 ((b1, OA Z .int [xa, xb, xc, xe, xe, xe, xe, xe, xe, xe, xe, xe]) :: []) := H73
      refine o_iload X73 at_130 rfl 132 rfl ?_
      refine o_iconst (v := (3 : Int32)) X73 at_132 rfl 133 rfl ?_
      refine o_icmpLe X73 at_133 145 136 (by decide) (by decide) rfl ?_ (fun q => by exfalso; exact absurd q (by decide))
      intro hc133
      refine o_new (L := ((b1, OA Z .int [xa, xb, xc, xe, xe, xe, xe, xe, xe, xe, xe, xe]) :: [])) X73 H73 at_145 (hw _ (List.mem_of_getElem? (i := 2) rfl)) (hw _ (List.mem_of_getElem? (i := 3) rfl)) (hw _ (List.mem_of_getElem? (i := 4) rfl)) [("com/example/palamedes/palamedes/lda/TopicModel", "topics", "I", .int (0 : Int32)), ("com/example/palamedes/palamedes/lda/TopicModel", "words", "I", .int (0 : Int32)), ("com/example/palamedes/palamedes/lda/TopicModel", "alpha", "D", .double 0), ("com/example/palamedes/palamedes/lda/TopicModel", "beta", "D", .double 0), ("com/example/palamedes/palamedes/lda/TopicModel", "wordTopicCounts", "[I", .null), ("com/example/palamedes/palamedes/lda/TopicModel", "topicCounts", "[I", .null)] (oqS ⟨.int, Or.inr (hw _ (List.mem_of_getElem? (i := 12) rfl)), by decide, rfl⟩ (oqS ⟨.int, Or.inr (hw _ (List.mem_of_getElem? (i := 14) rfl)), by decide, rfl⟩ (oqS ⟨.double, Or.inr (hw _ (List.mem_of_getElem? (i := 16) rfl)), by decide, rfl⟩ (oqS ⟨.double, Or.inr (hw _ (List.mem_of_getElem? (i := 18) rfl)), by decide, rfl⟩ (oqS ⟨(.array .int), Or.inr (hw _ (List.mem_of_getElem? (i := 20) rfl)), by decide, rfl⟩ (oqS ⟨(.array .int), Or.inr (hw _ (List.mem_of_getElem? (i := 22) rfl)), by decide, rfl⟩ oq0)))))) 2 18 rfl rfl (by decide) (by decide) 148 rfl ?_
      intro T74 h74 b74 X74 H74
      refine o_dup X74 at_148 rfl 149 rfl ?_
      refine o_iload X74 at_149 rfl 151 rfl ?_
      refine o_iconst (v := (3 : Int32)) X74 at_151 rfl 152 rfl ?_
      refine o_dconst1 X74 at_152 153 rfl ?_
      refine o_dconst1 X74 at_153 154 rfl ?_
      refine o_aload X74 at_154 rfl rfl 156 rfl ?_
      refine o_iconst (v := (4 : Int32)) X74 at_156 rfl 157 rfl ?_
      refine o_newarray (L := ((b74, OO Z "com/example/palamedes/palamedes/lda/TopicModel" [("com/example/palamedes/palamedes/lda/TopicModel", "topics", "I", .int (0 : Int32)), ("com/example/palamedes/palamedes/lda/TopicModel", "words", "I", .int (0 : Int32)), ("com/example/palamedes/palamedes/lda/TopicModel", "alpha", "D", .double 0), ("com/example/palamedes/palamedes/lda/TopicModel", "beta", "D", .double 0), ("com/example/palamedes/palamedes/lda/TopicModel", "wordTopicCounts", "[I", .null), ("com/example/palamedes/palamedes/lda/TopicModel", "topicCounts", "[I", .null)]) :: (b1, OA Z .int [xa, xb, xc, xe, xe, xe, xe, xe, xe, xe, xe, xe]) :: [])) X74 H74 at_157 (hw _ (List.mem_of_getElem? (i := 1) rfl)) rfl rfl 4 4 rfl (by decide) (by decide) 3 22 rfl rfl (by decide) (by decide) 159 rfl ?_
      intro T75 h75 b75 X75 H75
      replace H75 : OL n0 h75 ((b75, OA Z .int [(0 : Int32), (0 : Int32), (0 : Int32), (0 : Int32)]) :: (b74, OO Z "com/example/palamedes/palamedes/lda/TopicModel" [("com/example/palamedes/palamedes/lda/TopicModel", "topics", "I", .int (0 : Int32)), ("com/example/palamedes/palamedes/lda/TopicModel", "words", "I", .int (0 : Int32)), ("com/example/palamedes/palamedes/lda/TopicModel", "alpha", "D", .double 0), ("com/example/palamedes/palamedes/lda/TopicModel", "beta", "D", .double 0), ("com/example/palamedes/palamedes/lda/TopicModel", "wordTopicCounts", "[I", .null), ("com/example/palamedes/palamedes/lda/TopicModel", "topicCounts", "[I", .null)]) :: (b1, OA Z .int [xa, xb, xc, xe, xe, xe, xe, xe, xe, xe, xe, xe]) :: []) := H75
      have H77 : OL n0 h75 ((b1, OA Z .int [xa, xb, xc, xe, xe, xe, xe, xe, xe, xe, xe, xe]) :: (b75, OA Z .int [(0 : Int32), (0 : Int32), (0 : Int32), (0 : Int32)]) :: (b74, OO Z "com/example/palamedes/palamedes/lda/TopicModel" [("com/example/palamedes/palamedes/lda/TopicModel", "topics", "I", .int (0 : Int32)), ("com/example/palamedes/palamedes/lda/TopicModel", "words", "I", .int (0 : Int32)), ("com/example/palamedes/palamedes/lda/TopicModel", "alpha", "D", .double 0), ("com/example/palamedes/palamedes/lda/TopicModel", "beta", "D", .double 0), ("com/example/palamedes/palamedes/lda/TopicModel", "wordTopicCounts", "[I", .null), ("com/example/palamedes/palamedes/lda/TopicModel", "topicCounts", "[I", .null)]) :: []) := H75.front 2 rfl
      have H78 : OL n0 h75 ((b74, OO Z "com/example/palamedes/palamedes/lda/TopicModel" [("com/example/palamedes/palamedes/lda/TopicModel", "topics", "I", .int (0 : Int32)), ("com/example/palamedes/palamedes/lda/TopicModel", "words", "I", .int (0 : Int32)), ("com/example/palamedes/palamedes/lda/TopicModel", "alpha", "D", .double 0), ("com/example/palamedes/palamedes/lda/TopicModel", "beta", "D", .double 0), ("com/example/palamedes/palamedes/lda/TopicModel", "wordTopicCounts", "[I", .null), ("com/example/palamedes/palamedes/lda/TopicModel", "topicCounts", "[I", .null)]) :: (b1, OA Z .int [xa, xb, xc, xe, xe, xe, xe, xe, xe, xe, xe, xe]) :: (b75, OA Z .int [(0 : Int32), (0 : Int32), (0 : Int32), (0 : Int32)]) :: []) := H77.front 2 rfl
      refine o_callI X75 at_159 (rest := [(.ref b74)]) (c_init l Z a0 hw [] n0 _ X75.size b74 (3 : Int32) (3 : Int32) FP.dconst1 FP.dconst1 b1 b75 _ _ _ _ _ _ ((b1, OA Z .int [xa, xb, xc, xe, xe, xe, xe, xe, xe, xe, xe, xe]) :: (b75, OA Z .int [(0 : Int32), (0 : Int32), (0 : Int32), (0 : Int32)]) :: []) H78) rfl (hw _ (List.mem_of_getElem? (i := 5) rfl)) (hw _ (List.mem_of_getElem? (i := 6) rfl)) (hw _ (List.mem_of_getElem? (i := 4) rfl)) (hw _ (List.mem_of_getElem? (i := 7) rfl)) (by decide) 1 (by decide) (by decide) rfl [(.int (3 : Int32)), (.int (3 : Int32)), (.double FP.dconst1), (.double FP.dconst1), (.ref b1), (.ref b75)] rfl pd_1 rfl rfl (Nat.le_of_eq rfl) 3 22 rfl rfl (by decide) (by decide) 162 rfl ?_
      rintro _ T76 h76 X76 ⟨rfl, H76⟩
      replace H76 : OL n0 h76 ((b74, OO Z "com/example/palamedes/palamedes/lda/TopicModel" [("com/example/palamedes/palamedes/lda/TopicModel", "topics", "I", .int (3 : Int32)), ("com/example/palamedes/palamedes/lda/TopicModel", "words", "I", .int (3 : Int32)), ("com/example/palamedes/palamedes/lda/TopicModel", "alpha", "D", .double FP.dconst1), ("com/example/palamedes/palamedes/lda/TopicModel", "beta", "D", .double FP.dconst1), ("com/example/palamedes/palamedes/lda/TopicModel", "wordTopicCounts", "[I", .ref b1), ("com/example/palamedes/palamedes/lda/TopicModel", "topicCounts", "[I", .ref b75)]) :: (b1, OA Z .int [xa, xb, xc, xe, xe, xe, xe, xe, xe, xe, xe, xe]) :: (b75, OA Z .int [(0 : Int32), (0 : Int32), (0 : Int32), (0 : Int32)]) :: []) := H76
      show OE p e room_1 below s n0 Q' T76 (mkF m 162 #[.val (.int xs), .val (.int xa), .val (.int xb), .val (.int xc), .val (.int xd), .val (.int xe), .val (.int (3 : Int32)), .val (.int (0 : Int32)), .val (.ref b1), .val (.int (0 : Int32)), .unset, .unset, .unset] [(.ref b74)])
      refine o_astore X76 at_162 rfl #[.val (.int xs), .val (.int xa), .val (.int xb), .val (.int xc), .val (.int xd), .val (.int xe), .val (.int (3 : Int32)), .val (.int (0 : Int32)), .val (.ref b1), .val (.int (0 : Int32)), .val (.ref b74), .unset, .unset] rfl 164 rfl ?_
      refine o_iloadN X76 at_164 rfl 165 rfl ?_
      refine o_i2l X76 at_165 166 rfl ?_
      refine o_lstore X76 at_166 #[.val (.int xs), .val (.int xa), .val (.int xb), .val (.int xc), .val (.int xd), .val (.int xe), .val (.int (3 : Int32)), .val (.int (0 : Int32)), .val (.ref b1), .val (.int (0 : Int32)), .val (.ref b74), .val (.long (Int32.toInt64 xa)), .second] rfl 168 rfl ?_
      refine o_iload X76 at_168 rfl 170 rfl ?_
      refine o_iconst (v := (1 : Int32)) X76 at_170 rfl 171 rfl ?_
      refine o_icmpLe X76 at_171 181 174 (by decide) (by decide) rfl (fun q => by exfalso; exact absurd q (by decide)) ?_
      intro hc171
      refine o_lload X76 at_174 rfl 176 rfl ?_
      refine o_iloadN X76 at_176 rfl 177 rfl ?_
      refine o_i2l X76 at_177 178 rfl ?_
      refine o_ladd X76 at_178 179 rfl ?_
      refine o_lstore X76 at_179 #[.val (.int xs), .val (.int xa), .val (.int xb), .val (.int xc), .val (.int xd), .val (.int xe), .val (.int (3 : Int32)), .val (.int (0 : Int32)), .val (.ref b1), .val (.int (0 : Int32)), .val (.ref b74), .val (.long ((Int32.toInt64 xa) + (Int32.toInt64 xb))), .second] rfl 181 rfl ?_
      refine o_iload X76 at_181 rfl 183 rfl ?_
      refine o_iconst (v := (2 : Int32)) X76 at_183 rfl 184 rfl ?_
      refine o_icmpLe X76 at_184 194 187 (by decide) (by decide) rfl (fun q => by exfalso; exact absurd q (by decide)) ?_
      intro hc184
      refine o_lload X76 at_187 rfl 189 rfl ?_
      refine o_iloadN X76 at_189 rfl 190 rfl ?_
      refine o_i2l X76 at_190 191 rfl ?_
      refine o_ladd X76 at_191 192 rfl ?_
      refine o_lstore X76 at_192 #[.val (.int xs), .val (.int xa), .val (.int xb), .val (.int xc), .val (.int xd), .val (.int xe), .val (.int (3 : Int32)), .val (.int (0 : Int32)), .val (.ref b1), .val (.int (0 : Int32)), .val (.ref b74), .val (.long (((Int32.toInt64 xa) + (Int32.toInt64 xb)) + (Int32.toInt64 xc))), .second] rfl 194 rfl ?_
      refine o_iload X76 at_194 rfl 196 rfl ?_
      refine o_iconst (v := (3 : Int32)) X76 at_196 rfl 197 rfl ?_
      refine o_icmpLe X76 at_197 208 200 (by decide) (by decide) rfl ?_ (fun q => by exfalso; exact absurd q (by decide))
      intro hc197
      refine o_aload X76 at_208 rfl rfl 210 rfl ?_
      refine o_iload X76 at_210 rfl 212 rfl ?_
      have H80 : OL n0 h76 ((b1, OA Z .int [xa, xb, xc, xe, xe, xe, xe, xe, xe, xe, xe, xe]) :: (b74, OO Z "com/example/palamedes/palamedes/lda/TopicModel" [("com/example/palamedes/palamedes/lda/TopicModel", "topics", "I", .int (3 : Int32)), ("com/example/palamedes/palamedes/lda/TopicModel", "words", "I", .int (3 : Int32)), ("com/example/palamedes/palamedes/lda/TopicModel", "alpha", "D", .double FP.dconst1), ("com/example/palamedes/palamedes/lda/TopicModel", "beta", "D", .double FP.dconst1), ("com/example/palamedes/palamedes/lda/TopicModel", "wordTopicCounts", "[I", .ref b1), ("com/example/palamedes/palamedes/lda/TopicModel", "topicCounts", "[I", .ref b75)]) :: (b75, OA Z .int [(0 : Int32), (0 : Int32), (0 : Int32), (0 : Int32)]) :: []) := H76.front 1 rfl
      have H81 : OL n0 h76 ((b74, OO Z "com/example/palamedes/palamedes/lda/TopicModel" [("com/example/palamedes/palamedes/lda/TopicModel", "topics", "I", .int (3 : Int32)), ("com/example/palamedes/palamedes/lda/TopicModel", "words", "I", .int (3 : Int32)), ("com/example/palamedes/palamedes/lda/TopicModel", "alpha", "D", .double FP.dconst1), ("com/example/palamedes/palamedes/lda/TopicModel", "beta", "D", .double FP.dconst1), ("com/example/palamedes/palamedes/lda/TopicModel", "wordTopicCounts", "[I", .ref b1), ("com/example/palamedes/palamedes/lda/TopicModel", "topicCounts", "[I", .ref b75)]) :: (b1, OA Z .int [xa, xb, xc, xe, xe, xe, xe, xe, xe, xe, xe, xe]) :: (b75, OA Z .int [(0 : Int32), (0 : Int32), (0 : Int32), (0 : Int32)]) :: []) := H80.front 1 rfl
      refine o_callV X76 H81 0 rfl at_212 (rest := []) (c_wt_3_0 l Z a0 hw [] n0 _ X76.size b74 b1 b75 (3 : Int32) FP.dconst1 FP.dconst1 xa xb xc xe xe xe xe xe xe xe xe xe ((b75, OA Z .int [(0 : Int32), (0 : Int32), (0 : Int32), (0 : Int32)]) :: []) H81) (hw _ (List.mem_of_getElem? (i := 23) rfl)) (hw _ (List.mem_of_getElem? (i := 24) rfl)) (hw _ (List.mem_of_getElem? (i := 26) rfl)) (hw _ (List.mem_of_getElem? (i := 25) rfl)) (hw _ (List.mem_of_getElem? (i := 4) rfl)) (hw _ (List.mem_of_getElem? (i := 27) rfl)) (by decide) 0 (by decide) (by decide) rfl [(.int (0 : Int32))] rfl pd_3 rfl rfl (Nat.le_of_eq rfl) 3 22 rfl rfl (by decide) (by decide) 215 rfl ?_
      rintro _ T79 _ X79 ⟨rfl, rfl⟩
      show OE p e room_1 below s n0 Q' T79 (mkF m 215 #[.val (.int xs), .val (.int xa), .val (.int xb), .val (.int xc), .val (.int xd), .val (.int xe), .val (.int (3 : Int32)), .val (.int (0 : Int32)), .val (.ref b1), .val (.int (0 : Int32)), .val (.ref b74), .val (.long (((Int32.toInt64 xa) + (Int32.toInt64 xb)) + (Int32.toInt64 xc))), .second] [(.long ((((0 : Int64) + (Int32.toInt64 xa)) + (Int32.toInt64 xb)) + (Int32.toInt64 xc)))])
      refine o_lload X79 at_215 rfl 217 rfl ?_
      refine o_lcmp X79 at_217 218 rfl ?_
      refine o_ifNe X79 at_218 225 221 (by decide) (by decide) rfl (fun q => by exfalso; exact q ((v_cmp0 _ _).mpr (by simp only [Int64.zero_add]))) ?_
      intro hc218
      refine o_iconst (v := (1 : Int32)) X79 at_221 rfl 222 rfl ?_
      refine o_goto X79 at_222 226 (by decide) (by decide) ?_
      exact o_retZ X79 at_226 (by decide) (by decide) (hQ _ _ rfl)
    · rw [hv]
      refine o_iload X13 at_89 rfl 91 rfl ?_
      refine o_iload X13 at_91 rfl 93 rfl ?_
      refine o_imul X13 at_93 94 rfl ?_
      refine o_istore X13 at_94 #[.val (.int xs), .val (.int xa), .val (.int xb), .val (.int xc), .val (.int xd), .val (.int xe), .val (.int (3 : Int32)), .val (.int (1 : Int32)), .val (.ref b1), .val (.int ((1 : Int32) * (3 : Int32))), .unset, .unset, .unset] rfl 96 rfl ?_
      rw [show ((1 : Int32) * (3 : Int32)) = (3 : Int32) from rfl]
      refine o_aload X13 at_96 rfl rfl 98 rfl ?_
      refine o_iload X13 at_98 rfl 100 rfl ?_
      refine o_iloadN X13 at_100 rfl 101 rfl ?_
      refine o_iastore X13 H13 0 rfl at_101 3 rfl (by show 3 < 12; decide) 102 rfl ?_
      intro T82 h82 X82 H82
      replace H82 : OL n0 h82 ((b1, OA Z .int [xe, xe, xe, xa, xe, xe, xe, xe, xe, xe, xe, xe]) :: []) := H82
      refine o_iload X82 at_102 rfl 104 rfl ?_
      refine o_iconst (v := (1 : Int32)) X82 at_104 rfl 105 rfl ?_
      refine o_icmpLe X82 at_105 116 108 (by decide) (by decide) rfl (fun q => by exfalso; exact absurd q (by decide)) ?_
      intro hc105
      refine o_aload X82 at_108 rfl rfl 110 rfl ?_
      refine o_iload X82 at_110 rfl 112 rfl ?_
      refine o_iconst (v := (1 : Int32)) X82 at_112 rfl 113 rfl ?_
      refine o_iadd X82 at_113 114 rfl ?_
      refine o_iloadN X82 at_114 rfl 115 rfl ?_
      refine o_iastore X82 H82 0 rfl at_115 4 rfl (by show 4 < 12; decide) 116 rfl ?_
      intro T83 h83 X83 H83
      replace H83 : OL n0 h83 ((b1, OA Z .int [xe, xe, xe, xa, xb, xe, xe, xe, xe, xe, xe, xe]) :: []) := H83
      refine o_iload X83 at_116 rfl 118 rfl ?_
      refine o_iconst (v := (2 : Int32)) X83 at_118 rfl 119 rfl ?_
      refine o_icmpLe X83 at_119 130 122 (by decide) (by decide) rfl (fun q => by exfalso; exact absurd q (by decide)) ?_
      intro hc119
      refine o_aload X83 at_122 rfl rfl 124 rfl ?_
      refine o_iload X83 at_124 rfl 126 rfl ?_
      refine o_iconst (v := (2 : Int32)) X83 at_126 rfl 127 rfl ?_
      refine o_iadd X83 at_127 128 rfl ?_
      refine o_iloadN X83 at_128 rfl 129 rfl ?_
      refine o_iastore X83 H83 0 rfl at_129 5 rfl (by show 5 < 12; decide) 130 rfl ?_
      intro T84 h84 X84 H84
      replace H84 : OL n0 h84 ((b1, OA Z .int [xe, xe, xe, xa, xb, xc, xe, xe, xe, xe, xe, xe]) :: []) := H84
      refine o_iload X84 at_130 rfl 132 rfl ?_
      refine o_iconst (v := (3 : Int32)) X84 at_132 rfl 133 rfl ?_
      refine o_icmpLe X84 at_133 145 136 (by decide) (by decide) rfl ?_ (fun q => by exfalso; exact absurd q (by decide))
      intro hc133
      refine o_new (L := ((b1, OA Z .int [xe, xe, xe, xa, xb, xc, xe, xe, xe, xe, xe, xe]) :: [])) X84 H84 at_145 (hw _ (List.mem_of_getElem? (i := 2) rfl)) (hw _ (List.mem_of_getElem? (i := 3) rfl)) (hw _ (List.mem_of_getElem? (i := 4) rfl)) [("com/example/palamedes/palamedes/lda/TopicModel", "topics", "I", .int (0 : Int32)), ("com/example/palamedes/palamedes/lda/TopicModel", "words", "I", .int (0 : Int32)), ("com/example/palamedes/palamedes/lda/TopicModel", "alpha", "D", .double 0), ("com/example/palamedes/palamedes/lda/TopicModel", "beta", "D", .double 0), ("com/example/palamedes/palamedes/lda/TopicModel", "wordTopicCounts", "[I", .null), ("com/example/palamedes/palamedes/lda/TopicModel", "topicCounts", "[I", .null)] (oqS ⟨.int, Or.inr (hw _ (List.mem_of_getElem? (i := 12) rfl)), by decide, rfl⟩ (oqS ⟨.int, Or.inr (hw _ (List.mem_of_getElem? (i := 14) rfl)), by decide, rfl⟩ (oqS ⟨.double, Or.inr (hw _ (List.mem_of_getElem? (i := 16) rfl)), by decide, rfl⟩ (oqS ⟨.double, Or.inr (hw _ (List.mem_of_getElem? (i := 18) rfl)), by decide, rfl⟩ (oqS ⟨(.array .int), Or.inr (hw _ (List.mem_of_getElem? (i := 20) rfl)), by decide, rfl⟩ (oqS ⟨(.array .int), Or.inr (hw _ (List.mem_of_getElem? (i := 22) rfl)), by decide, rfl⟩ oq0)))))) 2 18 rfl rfl (by decide) (by decide) 148 rfl ?_
      intro T85 h85 b85 X85 H85
      refine o_dup X85 at_148 rfl 149 rfl ?_
      refine o_iload X85 at_149 rfl 151 rfl ?_
      refine o_iconst (v := (3 : Int32)) X85 at_151 rfl 152 rfl ?_
      refine o_dconst1 X85 at_152 153 rfl ?_
      refine o_dconst1 X85 at_153 154 rfl ?_
      refine o_aload X85 at_154 rfl rfl 156 rfl ?_
      refine o_iconst (v := (4 : Int32)) X85 at_156 rfl 157 rfl ?_
      refine o_newarray (L := ((b85, OO Z "com/example/palamedes/palamedes/lda/TopicModel" [("com/example/palamedes/palamedes/lda/TopicModel", "topics", "I", .int (0 : Int32)), ("com/example/palamedes/palamedes/lda/TopicModel", "words", "I", .int (0 : Int32)), ("com/example/palamedes/palamedes/lda/TopicModel", "alpha", "D", .double 0), ("com/example/palamedes/palamedes/lda/TopicModel", "beta", "D", .double 0), ("com/example/palamedes/palamedes/lda/TopicModel", "wordTopicCounts", "[I", .null), ("com/example/palamedes/palamedes/lda/TopicModel", "topicCounts", "[I", .null)]) :: (b1, OA Z .int [xe, xe, xe, xa, xb, xc, xe, xe, xe, xe, xe, xe]) :: [])) X85 H85 at_157 (hw _ (List.mem_of_getElem? (i := 1) rfl)) rfl rfl 4 4 rfl (by decide) (by decide) 3 22 rfl rfl (by decide) (by decide) 159 rfl ?_
      intro T86 h86 b86 X86 H86
      replace H86 : OL n0 h86 ((b86, OA Z .int [(0 : Int32), (0 : Int32), (0 : Int32), (0 : Int32)]) :: (b85, OO Z "com/example/palamedes/palamedes/lda/TopicModel" [("com/example/palamedes/palamedes/lda/TopicModel", "topics", "I", .int (0 : Int32)), ("com/example/palamedes/palamedes/lda/TopicModel", "words", "I", .int (0 : Int32)), ("com/example/palamedes/palamedes/lda/TopicModel", "alpha", "D", .double 0), ("com/example/palamedes/palamedes/lda/TopicModel", "beta", "D", .double 0), ("com/example/palamedes/palamedes/lda/TopicModel", "wordTopicCounts", "[I", .null), ("com/example/palamedes/palamedes/lda/TopicModel", "topicCounts", "[I", .null)]) :: (b1, OA Z .int [xe, xe, xe, xa, xb, xc, xe, xe, xe, xe, xe, xe]) :: []) := H86
      have H88 : OL n0 h86 ((b1, OA Z .int [xe, xe, xe, xa, xb, xc, xe, xe, xe, xe, xe, xe]) :: (b86, OA Z .int [(0 : Int32), (0 : Int32), (0 : Int32), (0 : Int32)]) :: (b85, OO Z "com/example/palamedes/palamedes/lda/TopicModel" [("com/example/palamedes/palamedes/lda/TopicModel", "topics", "I", .int (0 : Int32)), ("com/example/palamedes/palamedes/lda/TopicModel", "words", "I", .int (0 : Int32)), ("com/example/palamedes/palamedes/lda/TopicModel", "alpha", "D", .double 0), ("com/example/palamedes/palamedes/lda/TopicModel", "beta", "D", .double 0), ("com/example/palamedes/palamedes/lda/TopicModel", "wordTopicCounts", "[I", .null), ("com/example/palamedes/palamedes/lda/TopicModel", "topicCounts", "[I", .null)]) :: []) := H86.front 2 rfl
      have H89 : OL n0 h86 ((b85, OO Z "com/example/palamedes/palamedes/lda/TopicModel" [("com/example/palamedes/palamedes/lda/TopicModel", "topics", "I", .int (0 : Int32)), ("com/example/palamedes/palamedes/lda/TopicModel", "words", "I", .int (0 : Int32)), ("com/example/palamedes/palamedes/lda/TopicModel", "alpha", "D", .double 0), ("com/example/palamedes/palamedes/lda/TopicModel", "beta", "D", .double 0), ("com/example/palamedes/palamedes/lda/TopicModel", "wordTopicCounts", "[I", .null), ("com/example/palamedes/palamedes/lda/TopicModel", "topicCounts", "[I", .null)]) :: (b1, OA Z .int [xe, xe, xe, xa, xb, xc, xe, xe, xe, xe, xe, xe]) :: (b86, OA Z .int [(0 : Int32), (0 : Int32), (0 : Int32), (0 : Int32)]) :: []) := H88.front 2 rfl
      refine o_callI X86 at_159 (rest := [(.ref b85)]) (c_init l Z a0 hw [] n0 _ X86.size b85 (3 : Int32) (3 : Int32) FP.dconst1 FP.dconst1 b1 b86 _ _ _ _ _ _ ((b1, OA Z .int [xe, xe, xe, xa, xb, xc, xe, xe, xe, xe, xe, xe]) :: (b86, OA Z .int [(0 : Int32), (0 : Int32), (0 : Int32), (0 : Int32)]) :: []) H89) rfl (hw _ (List.mem_of_getElem? (i := 5) rfl)) (hw _ (List.mem_of_getElem? (i := 6) rfl)) (hw _ (List.mem_of_getElem? (i := 4) rfl)) (hw _ (List.mem_of_getElem? (i := 7) rfl)) (by decide) 1 (by decide) (by decide) rfl [(.int (3 : Int32)), (.int (3 : Int32)), (.double FP.dconst1), (.double FP.dconst1), (.ref b1), (.ref b86)] rfl pd_1 rfl rfl (Nat.le_of_eq rfl) 3 22 rfl rfl (by decide) (by decide) 162 rfl ?_
      rintro _ T87 h87 X87 ⟨rfl, H87⟩
      replace H87 : OL n0 h87 ((b85, OO Z "com/example/palamedes/palamedes/lda/TopicModel" [("com/example/palamedes/palamedes/lda/TopicModel", "topics", "I", .int (3 : Int32)), ("com/example/palamedes/palamedes/lda/TopicModel", "words", "I", .int (3 : Int32)), ("com/example/palamedes/palamedes/lda/TopicModel", "alpha", "D", .double FP.dconst1), ("com/example/palamedes/palamedes/lda/TopicModel", "beta", "D", .double FP.dconst1), ("com/example/palamedes/palamedes/lda/TopicModel", "wordTopicCounts", "[I", .ref b1), ("com/example/palamedes/palamedes/lda/TopicModel", "topicCounts", "[I", .ref b86)]) :: (b1, OA Z .int [xe, xe, xe, xa, xb, xc, xe, xe, xe, xe, xe, xe]) :: (b86, OA Z .int [(0 : Int32), (0 : Int32), (0 : Int32), (0 : Int32)]) :: []) := H87
      show OE p e room_1 below s n0 Q' T87 (mkF m 162 #[.val (.int xs), .val (.int xa), .val (.int xb), .val (.int xc), .val (.int xd), .val (.int xe), .val (.int (3 : Int32)), .val (.int (1 : Int32)), .val (.ref b1), .val (.int (3 : Int32)), .unset, .unset, .unset] [(.ref b85)])
      refine o_astore X87 at_162 rfl #[.val (.int xs), .val (.int xa), .val (.int xb), .val (.int xc), .val (.int xd), .val (.int xe), .val (.int (3 : Int32)), .val (.int (1 : Int32)), .val (.ref b1), .val (.int (3 : Int32)), .val (.ref b85), .unset, .unset] rfl 164 rfl ?_
      refine o_iloadN X87 at_164 rfl 165 rfl ?_
      refine o_i2l X87 at_165 166 rfl ?_
      refine o_lstore X87 at_166 #[.val (.int xs), .val (.int xa), .val (.int xb), .val (.int xc), .val (.int xd), .val (.int xe), .val (.int (3 : Int32)), .val (.int (1 : Int32)), .val (.ref b1), .val (.int (3 : Int32)), .val (.ref b85), .val (.long (Int32.toInt64 xa)), .second] rfl 168 rfl ?_
      refine o_iload X87 at_168 rfl 170 rfl ?_
      refine o_iconst (v := (1 : Int32)) X87 at_170 rfl 171 rfl ?_
      refine o_icmpLe X87 at_171 181 174 (by decide) (by decide) rfl (fun q => by exfalso; exact absurd q (by decide)) ?_
      intro hc171
      refine o_lload X87 at_174 rfl 176 rfl ?_
      refine o_iloadN X87 at_176 rfl 177 rfl ?_
      refine o_i2l X87 at_177 178 rfl ?_
      refine o_ladd X87 at_178 179 rfl ?_
      refine o_lstore X87 at_179 #[.val (.int xs), .val (.int xa), .val (.int xb), .val (.int xc), .val (.int xd), .val (.int xe), .val (.int (3 : Int32)), .val (.int (1 : Int32)), .val (.ref b1), .val (.int (3 : Int32)), .val (.ref b85), .val (.long ((Int32.toInt64 xa) + (Int32.toInt64 xb))), .second] rfl 181 rfl ?_
      refine o_iload X87 at_181 rfl 183 rfl ?_
      refine o_iconst (v := (2 : Int32)) X87 at_183 rfl 184 rfl ?_
      refine o_icmpLe X87 at_184 194 187 (by decide) (by decide) rfl (fun q => by exfalso; exact absurd q (by decide)) ?_
      intro hc184
      refine o_lload X87 at_187 rfl 189 rfl ?_
      refine o_iloadN X87 at_189 rfl 190 rfl ?_
      refine o_i2l X87 at_190 191 rfl ?_
      refine o_ladd X87 at_191 192 rfl ?_
      refine o_lstore X87 at_192 #[.val (.int xs), .val (.int xa), .val (.int xb), .val (.int xc), .val (.int xd), .val (.int xe), .val (.int (3 : Int32)), .val (.int (1 : Int32)), .val (.ref b1), .val (.int (3 : Int32)), .val (.ref b85), .val (.long (((Int32.toInt64 xa) + (Int32.toInt64 xb)) + (Int32.toInt64 xc))), .second] rfl 194 rfl ?_
      refine o_iload X87 at_194 rfl 196 rfl ?_
      refine o_iconst (v := (3 : Int32)) X87 at_196 rfl 197 rfl ?_
      refine o_icmpLe X87 at_197 208 200 (by decide) (by decide) rfl ?_ (fun q => by exfalso; exact absurd q (by decide))
      intro hc197
      refine o_aload X87 at_208 rfl rfl 210 rfl ?_
      refine o_iload X87 at_210 rfl 212 rfl ?_
      have H91 : OL n0 h87 ((b1, OA Z .int [xe, xe, xe, xa, xb, xc, xe, xe, xe, xe, xe, xe]) :: (b85, OO Z "com/example/palamedes/palamedes/lda/TopicModel" [("com/example/palamedes/palamedes/lda/TopicModel", "topics", "I", .int (3 : Int32)), ("com/example/palamedes/palamedes/lda/TopicModel", "words", "I", .int (3 : Int32)), ("com/example/palamedes/palamedes/lda/TopicModel", "alpha", "D", .double FP.dconst1), ("com/example/palamedes/palamedes/lda/TopicModel", "beta", "D", .double FP.dconst1), ("com/example/palamedes/palamedes/lda/TopicModel", "wordTopicCounts", "[I", .ref b1), ("com/example/palamedes/palamedes/lda/TopicModel", "topicCounts", "[I", .ref b86)]) :: (b86, OA Z .int [(0 : Int32), (0 : Int32), (0 : Int32), (0 : Int32)]) :: []) := H87.front 1 rfl
      have H92 : OL n0 h87 ((b85, OO Z "com/example/palamedes/palamedes/lda/TopicModel" [("com/example/palamedes/palamedes/lda/TopicModel", "topics", "I", .int (3 : Int32)), ("com/example/palamedes/palamedes/lda/TopicModel", "words", "I", .int (3 : Int32)), ("com/example/palamedes/palamedes/lda/TopicModel", "alpha", "D", .double FP.dconst1), ("com/example/palamedes/palamedes/lda/TopicModel", "beta", "D", .double FP.dconst1), ("com/example/palamedes/palamedes/lda/TopicModel", "wordTopicCounts", "[I", .ref b1), ("com/example/palamedes/palamedes/lda/TopicModel", "topicCounts", "[I", .ref b86)]) :: (b1, OA Z .int [xe, xe, xe, xa, xb, xc, xe, xe, xe, xe, xe, xe]) :: (b86, OA Z .int [(0 : Int32), (0 : Int32), (0 : Int32), (0 : Int32)]) :: []) := H91.front 1 rfl
      refine o_callV X87 H92 0 rfl at_212 (rest := []) (c_wt_3_1 l Z a0 hw [] n0 _ X87.size b85 b1 b86 (3 : Int32) FP.dconst1 FP.dconst1 xe xe xe xa xb xc xe xe xe xe xe xe ((b86, OA Z .int [(0 : Int32), (0 : Int32), (0 : Int32), (0 : Int32)]) :: []) H92) (hw _ (List.mem_of_getElem? (i := 23) rfl)) (hw _ (List.mem_of_getElem? (i := 24) rfl)) (hw _ (List.mem_of_getElem? (i := 26) rfl)) (hw _ (List.mem_of_getElem? (i := 25) rfl)) (hw _ (List.mem_of_getElem? (i := 4) rfl)) (hw _ (List.mem_of_getElem? (i := 27) rfl)) (by decide) 0 (by decide) (by decide) rfl [(.int (1 : Int32))] rfl pd_3 rfl rfl (Nat.le_of_eq rfl) 3 22 rfl rfl (by decide) (by decide) 215 rfl ?_
      rintro _ T90 _ X90 ⟨rfl, rfl⟩
      show OE p e room_1 below s n0 Q' T90 (mkF m 215 #[.val (.int xs), .val (.int xa), .val (.int xb), .val (.int xc), .val (.int xd), .val (.int xe), .val (.int (3 : Int32)), .val (.int (1 : Int32)), .val (.ref b1), .val (.int (3 : Int32)), .val (.ref b85), .val (.long (((Int32.toInt64 xa) + (Int32.toInt64 xb)) + (Int32.toInt64 xc))), .second] [(.long ((((0 : Int64) + (Int32.toInt64 xa)) + (Int32.toInt64 xb)) + (Int32.toInt64 xc)))])
      refine o_lload X90 at_215 rfl 217 rfl ?_
      refine o_lcmp X90 at_217 218 rfl ?_
      refine o_ifNe X90 at_218 225 221 (by decide) (by decide) rfl (fun q => by exfalso; exact q ((v_cmp0 _ _).mpr (by simp only [Int64.zero_add]))) ?_
      intro hc218
      refine o_iconst (v := (1 : Int32)) X90 at_221 rfl 222 rfl ?_
      refine o_goto X90 at_222 226 (by decide) (by decide) ?_
      exact o_retZ X90 at_226 (by decide) (by decide) (hQ _ _ rfl)
    · rw [hv]
      refine o_iload X13 at_89 rfl 91 rfl ?_
      refine o_iload X13 at_91 rfl 93 rfl ?_
      refine o_imul X13 at_93 94 rfl ?_
      refine o_istore X13 at_94 #[.val (.int xs), .val (.int xa), .val (.int xb), .val (.int xc), .val (.int xd), .val (.int xe), .val (.int (3 : Int32)), .val (.int (2 : Int32)), .val (.ref b1), .val (.int ((2 : Int32) * (3 : Int32))), .unset, .unset, .unset] rfl 96 rfl ?_
      rw [show ((2 : Int32) * (3 : Int32)) = (6 : Int32) from rfl]
      refine o_aload X13 at_96 rfl rfl 98 rfl ?_
      refine o_iload X13 at_98 rfl 100 rfl ?_
      refine o_iloadN X13 at_100 rfl 101 rfl ?_
      refine o_iastore X13 H13 0 rfl at_101 6 rfl (by show 6 < 12; decide) 102 rfl ?_
      intro T93 h93 X93 H93
      replace H93 : OL n0 h93 ((b1, OA Z .int [xe, xe, xe, xe, xe, xe, xa, xe, xe, xe, xe, xe]) :: []) := H93
      refine o_iload X93 at_102 rfl 104 rfl ?_
      refine o_iconst (v := (1 : Int32)) X93 at_104 rfl 105 rfl ?_
      refine o_icmpLe X93 at_105 116 108 (by decide) (by decide) rfl (fun q => by exfalso; exact absurd q (by decide)) ?_
      intro hc105
      refine o_aload X93 at_108 rfl rfl 110 rfl ?_
      refine o_iload X93 at_110 rfl 112 rfl ?_
      refine o_iconst (v := (1 : Int32)) X93 at_112 rfl 113 rfl ?_
      refine o_iadd X93 at_113 114 rfl ?_
      refine o_iloadN X93 at_114 rfl 115 rfl ?_
      refine o_iastore X93 H93 0 rfl at_115 7 rfl (by show 7 < 12; decide) 116 rfl ?_
      intro T94 h94 X94 H94
      replace H94 : OL n0 h94 ((b1, OA Z .int [xe, xe, xe, xe, xe, xe, xa, xb, xe, xe, xe, xe]) :: []) := H94
      refine o_iload X94 at_116 rfl 118 rfl ?_
      refine o_iconst (v := (2 : Int32)) X94 at_118 rfl 119 rfl ?_
      refine o_icmpLe X94 at_119 130 122 (by decide) (by decide) rfl (fun q => by exfalso; exact absurd q (by decide)) ?_
      intro hc119
      refine o_aload X94 at_122 rfl rfl 124 rfl ?_
      refine o_iload X94 at_124 rfl 126 rfl ?_
      refine o_iconst (v := (2 : Int32)) X94 at_126 rfl 127 rfl ?_
      refine o_iadd X94 at_127 128 rfl ?_
      refine o_iloadN X94 at_128 rfl 129 rfl ?_
      refine o_iastore X94 H94 0 rfl at_129 8 rfl (by show 8 < 12; decide) 130 rfl ?_
      intro T95 h95 X95 H95
      replace H95 : OL n0 h95 ((b1, OA Z .int [xe, xe, xe, xe, xe, xe, xa, xb, xc, xe, xe, xe]) :: []) := H95
      refine o_iload X95 at_130 rfl 132 rfl ?_
      refine o_iconst (v := (3 : Int32)) X95 at_132 rfl 133 rfl ?_
      refine o_icmpLe X95 at_133 145 136 (by decide) (by decide) rfl ?_ (fun q => by exfalso; exact absurd q (by decide))
      intro hc133
      refine o_new (L := ((b1, OA Z .int [xe, xe, xe, xe, xe, xe, xa, xb, xc, xe, xe, xe]) :: [])) X95 H95 at_145 (hw _ (List.mem_of_getElem? (i := 2) rfl)) (hw _ (List.mem_of_getElem? (i := 3) rfl)) (hw _ (List.mem_of_getElem? (i := 4) rfl)) [("com/example/palamedes/palamedes/lda/TopicModel", "topics", "I", .int (0 : Int32)), ("com/example/palamedes/palamedes/lda/TopicModel", "words", "I", .int (0 : Int32)), ("com/example/palamedes/palamedes/lda/TopicModel", "alpha", "D", .double 0), ("com/example/palamedes/palamedes/lda/TopicModel", "beta", "D", .double 0), ("com/example/palamedes/palamedes/lda/TopicModel", "wordTopicCounts", "[I", .null), ("com/example/palamedes/palamedes/lda/TopicModel", "topicCounts", "[I", .null)] (oqS ⟨.int, Or.inr (hw _ (List.mem_of_getElem? (i := 12) rfl)), by decide, rfl⟩ (oqS ⟨.int, Or.inr (hw _ (List.mem_of_getElem? (i := 14) rfl)), by decide, rfl⟩ (oqS ⟨.double, Or.inr (hw _ (List.mem_of_getElem? (i := 16) rfl)), by decide, rfl⟩ (oqS ⟨.double, Or.inr (hw _ (List.mem_of_getElem? (i := 18) rfl)), by decide, rfl⟩ (oqS ⟨(.array .int), Or.inr (hw _ (List.mem_of_getElem? (i := 20) rfl)), by decide, rfl⟩ (oqS ⟨(.array .int), Or.inr (hw _ (List.mem_of_getElem? (i := 22) rfl)), by decide, rfl⟩ oq0)))))) 2 18 rfl rfl (by decide) (by decide) 148 rfl ?_
      intro T96 h96 b96 X96 H96
      refine o_dup X96 at_148 rfl 149 rfl ?_
      refine o_iload X96 at_149 rfl 151 rfl ?_
      refine o_iconst (v := (3 : Int32)) X96 at_151 rfl 152 rfl ?_
      refine o_dconst1 X96 at_152 153 rfl ?_
      refine o_dconst1 X96 at_153 154 rfl ?_
      refine o_aload X96 at_154 rfl rfl 156 rfl ?_
      refine o_iconst (v := (4 : Int32)) X96 at_156 rfl 157 rfl ?_
      refine o_newarray (L := ((b96, OO Z "com/example/palamedes/palamedes/lda/TopicModel" [("com/example/palamedes/palamedes/lda/TopicModel", "topics", "I", .int (0 : Int32)), ("com/example/palamedes/palamedes/lda/TopicModel", "words", "I", .int (0 : Int32)), ("com/example/palamedes/palamedes/lda/TopicModel", "alpha", "D", .double 0), ("com/example/palamedes/palamedes/lda/TopicModel", "beta", "D", .double 0), ("com/example/palamedes/palamedes/lda/TopicModel", "wordTopicCounts", "[I", .null), ("com/example/palamedes/palamedes/lda/TopicModel", "topicCounts", "[I", .null)]) :: (b1, OA Z .int [xe, xe, xe, xe, xe, xe, xa, xb, xc, xe, xe, xe]) :: [])) X96 H96 at_157 (hw _ (List.mem_of_getElem? (i := 1) rfl)) rfl rfl 4 4 rfl (by decide) (by decide) 3 22 rfl rfl (by decide) (by decide) 159 rfl ?_
      intro T97 h97 b97 X97 H97
      replace H97 : OL n0 h97 ((b97, OA Z .int [(0 : Int32), (0 : Int32), (0 : Int32), (0 : Int32)]) :: (b96, OO Z "com/example/palamedes/palamedes/lda/TopicModel" [("com/example/palamedes/palamedes/lda/TopicModel", "topics", "I", .int (0 : Int32)), ("com/example/palamedes/palamedes/lda/TopicModel", "words", "I", .int (0 : Int32)), ("com/example/palamedes/palamedes/lda/TopicModel", "alpha", "D", .double 0), ("com/example/palamedes/palamedes/lda/TopicModel", "beta", "D", .double 0), ("com/example/palamedes/palamedes/lda/TopicModel", "wordTopicCounts", "[I", .null), ("com/example/palamedes/palamedes/lda/TopicModel", "topicCounts", "[I", .null)]) :: (b1, OA Z .int [xe, xe, xe, xe, xe, xe, xa, xb, xc, xe, xe, xe]) :: []) := H97
      have H99 : OL n0 h97 ((b1, OA Z .int [xe, xe, xe, xe, xe, xe, xa, xb, xc, xe, xe, xe]) :: (b97, OA Z .int [(0 : Int32), (0 : Int32), (0 : Int32), (0 : Int32)]) :: (b96, OO Z "com/example/palamedes/palamedes/lda/TopicModel" [("com/example/palamedes/palamedes/lda/TopicModel", "topics", "I", .int (0 : Int32)), ("com/example/palamedes/palamedes/lda/TopicModel", "words", "I", .int (0 : Int32)), ("com/example/palamedes/palamedes/lda/TopicModel", "alpha", "D", .double 0), ("com/example/palamedes/palamedes/lda/TopicModel", "beta", "D", .double 0), ("com/example/palamedes/palamedes/lda/TopicModel", "wordTopicCounts", "[I", .null), ("com/example/palamedes/palamedes/lda/TopicModel", "topicCounts", "[I", .null)]) :: []) := H97.front 2 rfl
      have H100 : OL n0 h97 ((b96, OO Z "com/example/palamedes/palamedes/lda/TopicModel" [("com/example/palamedes/palamedes/lda/TopicModel", "topics", "I", .int (0 : Int32)), ("com/example/palamedes/palamedes/lda/TopicModel", "words", "I", .int (0 : Int32)), ("com/example/palamedes/palamedes/lda/TopicModel", "alpha", "D", .double 0), ("com/example/palamedes/palamedes/lda/TopicModel", "beta", "D", .double 0), ("com/example/palamedes/palamedes/lda/TopicModel", "wordTopicCounts", "[I", .null), ("com/example/palamedes/palamedes/lda/TopicModel", "topicCounts", "[I", .null)]) :: (b1, OA Z .int [xe, xe, xe, xe, xe, xe, xa, xb, xc, xe, xe, xe]) :: (b97, OA Z .int [(0 : Int32), (0 : Int32), (0 : Int32), (0 : Int32)]) :: []) := H99.front 2 rfl
      refine o_callI X97 at_159 (rest := [(.ref b96)]) (c_init l Z a0 hw [] n0 _ X97.size b96 (3 : Int32) (3 : Int32) FP.dconst1 FP.dconst1 b1 b97 _ _ _ _ _ _ ((b1, OA Z .int [xe, xe, xe, xe, xe, xe, xa, xb, xc, xe, xe, xe]) :: (b97, OA Z .int [(0 : Int32), (0 : Int32), (0 : Int32), (0 : Int32)]) :: []) H100) rfl (hw _ (List.mem_of_getElem? (i := 5) rfl)) (hw _ (List.mem_of_getElem? (i := 6) rfl)) (hw _ (List.mem_of_getElem? (i := 4) rfl)) (hw _ (List.mem_of_getElem? (i := 7) rfl)) (by decide) 1 (by decide) (by decide) rfl [(.int (3 : Int32)), (.int (3 : Int32)), (.double FP.dconst1), (.double FP.dconst1), (.ref b1), (.ref b97)] rfl pd_1 rfl rfl (Nat.le_of_eq rfl) 3 22 rfl rfl (by decide) (by decide) 162 rfl ?_
      rintro _ T98 h98 X98 ⟨rfl, H98⟩
      replace H98 : OL n0 h98 ((b96, OO Z "com/example/palamedes/palamedes/lda/TopicModel" [("com/example/palamedes/palamedes/lda/TopicModel", "topics", "I", .int (3 : Int32)), ("com/example/palamedes/palamedes/lda/TopicModel", "words", "I", .int (3 : Int32)), ("com/example/palamedes/palamedes/lda/TopicModel", "alpha", "D", .double FP.dconst1), ("com/example/palamedes/palamedes/lda/TopicModel", "beta", "D", .double FP.dconst1), ("com/example/palamedes/palamedes/lda/TopicModel", "wordTopicCounts", "[I", .ref b1), ("com/example/palamedes/palamedes/lda/TopicModel", "topicCounts", "[I", .ref b97)]) :: (b1, OA Z .int [xe, xe, xe, xe, xe, xe, xa, xb, xc, xe, xe, xe]) :: (b97, OA Z .int [(0 : Int32), (0 : Int32), (0 : Int32), (0 : Int32)]) :: []) := H98
      show OE p e room_1 below s n0 Q' T98 (mkF m 162 #[.val (.int xs), .val (.int xa), .val (.int xb), .val (.int xc), .val (.int xd), .val (.int xe), .val (.int (3 : Int32)), .val (.int (2 : Int32)), .val (.ref b1), .val (.int (6 : Int32)), .unset, .unset, .unset] [(.ref b96)])
      refine o_astore X98 at_162 rfl #[.val (.int xs), .val (.int xa), .val (.int xb), .val (.int xc), .val (.int xd), .val (.int xe), .val (.int (3 : Int32)), .val (.int (2 : Int32)), .val (.ref b1), .val (.int (6 : Int32)), .val (.ref b96), .unset, .unset] rfl 164 rfl ?_
      refine o_iloadN X98 at_164 rfl 165 rfl ?_
      refine o_i2l X98 at_165 166 rfl ?_
      refine o_lstore X98 at_166 #[.val (.int xs), .val (.int xa), .val (.int xb), .val (.int xc), .val (.int xd), .val (.int xe), .val (.int (3 : Int32)), .val (.int (2 : Int32)), .val (.ref b1), .val (.int (6 : Int32)), .val (.ref b96), .val (.long (Int32.toInt64 xa)), .second] rfl 168 rfl ?_
      refine o_iload X98 at_168 rfl 170 rfl ?_
      refine o_iconst (v := (1 : Int32)) X98 at_170 rfl 171 rfl ?_
      refine o_icmpLe X98 at_171 181 174 (by decide) (by decide) rfl (fun q => by exfalso; exact absurd q (by decide)) ?_
      intro hc171
      refine o_lload X98 at_174 rfl 176 rfl ?_
      refine o_iloadN X98 at_176 rfl 177 rfl ?_
      refine o_i2l X98 at_177 178 rfl ?_
      refine o_ladd X98 at_178 179 rfl ?_
      refine o_lstore X98 at_179 #[.val (.int xs), .val (.int xa), .val (.int xb), .val (.int xc), .val (.int xd), .val (.int xe), .val (.int (3 : Int32)), .val (.int (2 : Int32)), .val (.ref b1), .val (.int (6 : Int32)), .val (.ref b96), .val (.long ((Int32.toInt64 xa) + (Int32.toInt64 xb))), .second] rfl 181 rfl ?_
      refine o_iload X98 at_181 rfl 183 rfl ?_
      refine o_iconst (v := (2 : Int32)) X98 at_183 rfl 184 rfl ?_
      refine o_icmpLe X98 at_184 194 187 (by decide) (by decide) rfl (fun q => by exfalso; exact absurd q (by decide)) ?_
      intro hc184
      refine o_lload X98 at_187 rfl 189 rfl ?_
      refine o_iloadN X98 at_189 rfl 190 rfl ?_
      refine o_i2l X98 at_190 191 rfl ?_
      refine o_ladd X98 at_191 192 rfl ?_
      refine o_lstore X98 at_192 #[.val (.int xs), .val (.int xa), .val (.int xb), .val (.int xc), .val (.int xd), .val (.int xe), .val (.int (3 : Int32)), .val (.int (2 : Int32)), .val (.ref b1), .val (.int (6 : Int32)), .val (.ref b96), .val (.long (((Int32.toInt64 xa) + (Int32.toInt64 xb)) + (Int32.toInt64 xc))), .second] rfl 194 rfl ?_
      refine o_iload X98 at_194 rfl 196 rfl ?_
      refine o_iconst (v := (3 : Int32)) X98 at_196 rfl 197 rfl ?_
      refine o_icmpLe X98 at_197 208 200 (by decide) (by decide) rfl ?_ (fun q => by exfalso; exact absurd q (by decide))
      intro hc197
      refine o_aload X98 at_208 rfl rfl 210 rfl ?_
      refine o_iload X98 at_210 rfl 212 rfl ?_
      have H102 : OL n0 h98 ((b1, OA Z .int [xe, xe, xe, xe, xe, xe, xa, xb, xc, xe, xe, xe]) :: (b96, OO Z "com/example/palamedes/palamedes/lda/TopicModel" [("com/example/palamedes/palamedes/lda/TopicModel", "topics", "I", .int (3 : Int32)), ("com/example/palamedes/palamedes/lda/TopicModel", "words", "I", .int (3 : Int32)), ("com/example/palamedes/palamedes/lda/TopicModel", "alpha", "D", .double FP.dconst1), ("com/example/palamedes/palamedes/lda/TopicModel", "beta", "D", .double FP.dconst1), ("com/example/palamedes/palamedes/lda/TopicModel", "wordTopicCounts", "[I", .ref b1), ("com/example/palamedes/palamedes/lda/TopicModel", "topicCounts", "[I", .ref b97)]) :: (b97, OA Z .int [(0 : Int32), (0 : Int32), (0 : Int32), (0 : Int32)]) :: []) := H98.front 1 rfl
      have H103 : OL n0 h98 ((b96, OO Z "com/example/palamedes/palamedes/lda/TopicModel" [("com/example/palamedes/palamedes/lda/TopicModel", "topics", "I", .int (3 : Int32)), ("com/example/palamedes/palamedes/lda/TopicModel", "words", "I", .int (3 : Int32)), ("com/example/palamedes/palamedes/lda/TopicModel", "alpha", "D", .double FP.dconst1), ("com/example/palamedes/palamedes/lda/TopicModel", "beta", "D", .double FP.dconst1), ("com/example/palamedes/palamedes/lda/TopicModel", "wordTopicCounts", "[I", .ref b1), ("com/example/palamedes/palamedes/lda/TopicModel", "topicCounts", "[I", .ref b97)]) :: (b1, OA Z .int [xe, xe, xe, xe, xe, xe, xa, xb, xc, xe, xe, xe]) :: (b97, OA Z .int [(0 : Int32), (0 : Int32), (0 : Int32), (0 : Int32)]) :: []) := H102.front 1 rfl
      refine o_callV X98 H103 0 rfl at_212 (rest := []) (c_wt_3_2 l Z a0 hw [] n0 _ X98.size b96 b1 b97 (3 : Int32) FP.dconst1 FP.dconst1 xe xe xe xe xe xe xa xb xc xe xe xe ((b97, OA Z .int [(0 : Int32), (0 : Int32), (0 : Int32), (0 : Int32)]) :: []) H103) (hw _ (List.mem_of_getElem? (i := 23) rfl)) (hw _ (List.mem_of_getElem? (i := 24) rfl)) (hw _ (List.mem_of_getElem? (i := 26) rfl)) (hw _ (List.mem_of_getElem? (i := 25) rfl)) (hw _ (List.mem_of_getElem? (i := 4) rfl)) (hw _ (List.mem_of_getElem? (i := 27) rfl)) (by decide) 0 (by decide) (by decide) rfl [(.int (2 : Int32))] rfl pd_3 rfl rfl (Nat.le_of_eq rfl) 3 22 rfl rfl (by decide) (by decide) 215 rfl ?_
      rintro _ T101 _ X101 ⟨rfl, rfl⟩
      show OE p e room_1 below s n0 Q' T101 (mkF m 215 #[.val (.int xs), .val (.int xa), .val (.int xb), .val (.int xc), .val (.int xd), .val (.int xe), .val (.int (3 : Int32)), .val (.int (2 : Int32)), .val (.ref b1), .val (.int (6 : Int32)), .val (.ref b96), .val (.long (((Int32.toInt64 xa) + (Int32.toInt64 xb)) + (Int32.toInt64 xc))), .second] [(.long ((((0 : Int64) + (Int32.toInt64 xa)) + (Int32.toInt64 xb)) + (Int32.toInt64 xc)))])
      refine o_lload X101 at_215 rfl 217 rfl ?_
      refine o_lcmp X101 at_217 218 rfl ?_
      refine o_ifNe X101 at_218 225 221 (by decide) (by decide) rfl (fun q => by exfalso; exact q ((v_cmp0 _ _).mpr (by simp only [Int64.zero_add]))) ?_
      intro hc218
      refine o_iconst (v := (1 : Int32)) X101 at_221 rfl 222 rfl ?_
      refine o_goto X101 at_222 226 (by decide) (by decide) ?_
      exact o_retZ X101 at_226 (by decide) (by decide) (hQ _ _ rfl)
  · rw [hv]
    rcases v_w (XT.ushr xs 2) with hv | hv | hv
    · rw [hv]
      refine o_iload X13 at_89 rfl 91 rfl ?_
      refine o_iload X13 at_91 rfl 93 rfl ?_
      refine o_imul X13 at_93 94 rfl ?_
      refine o_istore X13 at_94 #[.val (.int xs), .val (.int xa), .val (.int xb), .val (.int xc), .val (.int xd), .val (.int xe), .val (.int (4 : Int32)), .val (.int (0 : Int32)), .val (.ref b1), .val (.int ((0 : Int32) * (4 : Int32))), .unset, .unset, .unset] rfl 96 rfl ?_
      rw [show ((0 : Int32) * (4 : Int32)) = (0 : Int32) from rfl]
      refine o_aload X13 at_96 rfl rfl 98 rfl ?_
      refine o_iload X13 at_98 rfl 100 rfl ?_
      refine o_iloadN X13 at_100 rfl 101 rfl ?_
      refine o_iastore X13 H13 0 rfl at_101 0 rfl (by show 0 < 12; decide) 102 rfl ?_
      intro T104 h104 X104 H104
      replace H104 : OL n0 h104 ((b1, OA Z .int [xa, xe, xe, xe, xe, xe, xe, xe, xe, xe, xe, xe]) :: []) := H104
      refine o_iload X104 at_102 rfl 104 rfl ?_
      refine o_iconst (v := (1 : Int32)) X104 at_104 rfl 105 rfl ?_
      refine o_icmpLe X104 at_105 116 108 (by decide) (by decide) rfl (fun q => by exfalso; exact absurd q (by decide)) ?_
      intro hc105
      refine o_aload X104 at_108 rfl rfl 110 rfl ?_
      refine o_iload X104 at_110 rfl 112 rfl ?_
      refine o_iconst (v := (1 : Int32)) X104 at_112 rfl 113 rfl ?_
      refine o_iadd X104 at_113 114 rfl ?_
      refine o_iloadN X104 at_114 rfl 115 rfl ?_
      refine o_iastore X104 H104 0 rfl at_115 1 rfl (by show 1 < 12; decide) 116 rfl ?_
      intro T105 h105 X105 H105
      replace H105 : OL n0 h105 ((b1, OA Z .int [xa, xb, xe, xe, xe, xe, xe, xe, xe, xe, xe, xe]) :: []) := H105
      refine o_iload X105 at_116 rfl 118 rfl ?_
      refine o_iconst (v := (2 : Int32)) X105 at_118 rfl 119 rfl ?_
      refine o_icmpLe X105 at_119 130 122 (by decide) (by decide) rfl (fun q => by exfalso; exact absurd q (by decide)) ?_
      intro hc119
      refine o_aload X105 at_122 rfl rfl 124 rfl ?_
      refine o_iload X105 at_124 rfl 126 rfl ?_
      refine o_iconst (v := (2 : Int32)) X105 at_126 rfl 127 rfl ?_
      refine o_iadd X105 at_127 128 rfl ?_
      refine o_iloadN X105 at_128 rfl 129 rfl ?_
      refine o_iastore X105 H105 0 rfl at_129 2 rfl (by show 2 < 12; decide) 130 rfl ?_
      intro T106 h106 X106 H106
      replace H106 : OL n0 h106 ((b1, OA Z .int [xa, xb, xc, xe, xe, xe, xe, xe, xe, xe, xe, xe]) :: []) := H106
      refine o_iload X106 at_130 rfl 132 rfl ?_
      refine o_iconst (v := (3 : Int32)) X106 at_132 rfl 133 rfl ?_
      refine o_icmpLe X106 at_133 145 136 (by decide) (by decide) rfl (fun q => by exfalso; exact absurd q (by decide)) ?_
      intro hc133
      refine o_aload X106 at_136 rfl rfl 138 rfl ?_
      refine o_iload X106 at_138 rfl 140 rfl ?_
      refine o_iconst (v := (3 : Int32)) X106 at_140 rfl 141 rfl ?_
      refine o_iadd X106 at_141 142 rfl ?_
      refine o_iload X106 at_142 rfl 144 rfl ?_
      refine o_iastore X106 H106 0 rfl at_144 3 rfl (by show 3 < 12; decide) 145 rfl ?_
      intro T107 h107 X107 H107
      replace H107 : OL n0 h107 ((b1, OA Z .int [xa, xb, xc, xd, xe, xe, xe, xe, xe, xe, xe, xe]) :: []) := H107
      refine o_new (L := ((b1, OA Z .int [xa, xb, xc, xd, xe, xe, xe, xe, xe, xe, xe, xe]) :: [])) X107 H107 at_145 (hw _ (List.mem_of_getElem? (i := 2) rfl)) (hw _ (List.mem_of_getElem? (i := 3) rfl)) (hw _ (List.mem_of_getElem? (i := 4) rfl)) [("com/example/palamedes/palamedes/lda/TopicModel", "topics", "I", .int (0 : Int32)), ("com/example/palamedes/palamedes/lda/TopicModel", "words", "I", .int (0 : Int32)), ("com/example/palamedes/palamedes/lda/TopicModel", "alpha", "D", .double 0), ("com/example/palamedes/palamedes/lda/TopicModel", "beta", "D", .double 0), ("com/example/palamedes/palamedes/lda/TopicModel", "wordTopicCounts", "[I", .null), ("com/example/palamedes/palamedes/lda/TopicModel", "topicCounts", "[I", .null)] (oqS ⟨.int, Or.inr (hw _ (List.mem_of_getElem? (i := 12) rfl)), by decide, rfl⟩ (oqS ⟨.int, Or.inr (hw _ (List.mem_of_getElem? (i := 14) rfl)), by decide, rfl⟩ (oqS ⟨.double, Or.inr (hw _ (List.mem_of_getElem? (i := 16) rfl)), by decide, rfl⟩ (oqS ⟨.double, Or.inr (hw _ (List.mem_of_getElem? (i := 18) rfl)), by decide, rfl⟩ (oqS ⟨(.array .int), Or.inr (hw _ (List.mem_of_getElem? (i := 20) rfl)), by decide, rfl⟩ (oqS ⟨(.array .int), Or.inr (hw _ (List.mem_of_getElem? (i := 22) rfl)), by decide, rfl⟩ oq0)))))) 2 18 rfl rfl (by decide) (by decide) 148 rfl ?_
      intro T108 h108 b108 X108 H108
      refine o_dup X108 at_148 rfl 149 rfl ?_
      refine o_iload X108 at_149 rfl 151 rfl ?_
      refine o_iconst (v := (3 : Int32)) X108 at_151 rfl 152 rfl ?_
      refine o_dconst1 X108 at_152 153 rfl ?_
      refine o_dconst1 X108 at_153 154 rfl ?_
      refine o_aload X108 at_154 rfl rfl 156 rfl ?_
      refine o_iconst (v := (4 : Int32)) X108 at_156 rfl 157 rfl ?_
      refine o_newarray (L := ((b108, OO Z "com/example/palamedes/palamedes/lda/TopicModel" [("com/example/palamedes/palamedes/lda/TopicModel", "topics", "I", .int (0 : Int32)), ("com/example/palamedes/palamedes/lda/TopicModel", "words", "I", .int (0 : Int32)), ("com/example/palamedes/palamedes/lda/TopicModel", "alpha", "D", .double 0), ("com/example/palamedes/palamedes/lda/TopicModel", "beta", "D", .double 0), ("com/example/palamedes/palamedes/lda/TopicModel", "wordTopicCounts", "[I", .null), ("com/example/palamedes/palamedes/lda/TopicModel", "topicCounts", "[I", .null)]) :: (b1, OA Z .int [xa, xb, xc, xd, xe, xe, xe, xe, xe, xe, xe, xe]) :: [])) X108 H108 at_157 (hw _ (List.mem_of_getElem? (i := 1) rfl)) rfl rfl 4 4 rfl (by decide) (by decide) 3 22 rfl rfl (by decide) (by decide) 159 rfl ?_
      intro T109 h109 b109 X109 H109
      replace H109 : OL n0 h109 ((b109, OA Z .int [(0 : Int32), (0 : Int32), (0 : Int32), (0 : Int32)]) :: (b108, OO Z "com/example/palamedes/palamedes/lda/TopicModel" [("com/example/palamedes/palamedes/lda/TopicModel", "topics", "I", .int (0 : Int32)), ("com/example/palamedes/palamedes/lda/TopicModel", "words", "I", .int (0 : Int32)), ("com/example/palamedes/palamedes/lda/TopicModel", "alpha", "D", .double 0), ("com/example/palamedes/palamedes/lda/TopicModel", "beta", "D", .double 0), ("com/example/palamedes/palamedes/lda/TopicModel", "wordTopicCounts", "[I", .null), ("com/example/palamedes/palamedes/lda/TopicModel", "topicCounts", "[I", .null)]) :: (b1, OA Z .int [xa, xb, xc, xd, xe, xe, xe, xe, xe, xe, xe, xe]) :: []) := H109
      have H111 : OL n0 h109 ((b1, OA Z .int [xa, xb, xc, xd, xe, xe, xe, xe, xe, xe, xe, xe]) :: (b109, OA Z .int [(0 : Int32), (0 : Int32), (0 : Int32), (0 : Int32)]) :: (b108, OO Z "com/example/palamedes/palamedes/lda/TopicModel" [("com/example/palamedes/palamedes/lda/TopicModel", "topics", "I", .int (0 : Int32)), ("com/example/palamedes/palamedes/lda/TopicModel", "words", "I", .int (0 : Int32)), ("com/example/palamedes/palamedes/lda/TopicModel", "alpha", "D", .double 0), ("com/example/palamedes/palamedes/lda/TopicModel", "beta", "D", .double 0), ("com/example/palamedes/palamedes/lda/TopicModel", "wordTopicCounts", "[I", .null), ("com/example/palamedes/palamedes/lda/TopicModel", "topicCounts", "[I", .null)]) :: []) := H109.front 2 rfl
      have H112 : OL n0 h109 ((b108, OO Z "com/example/palamedes/palamedes/lda/TopicModel" [("com/example/palamedes/palamedes/lda/TopicModel", "topics", "I", .int (0 : Int32)), ("com/example/palamedes/palamedes/lda/TopicModel", "words", "I", .int (0 : Int32)), ("com/example/palamedes/palamedes/lda/TopicModel", "alpha", "D", .double 0), ("com/example/palamedes/palamedes/lda/TopicModel", "beta", "D", .double 0), ("com/example/palamedes/palamedes/lda/TopicModel", "wordTopicCounts", "[I", .null), ("com/example/palamedes/palamedes/lda/TopicModel", "topicCounts", "[I", .null)]) :: (b1, OA Z .int [xa, xb, xc, xd, xe, xe, xe, xe, xe, xe, xe, xe]) :: (b109, OA Z .int [(0 : Int32), (0 : Int32), (0 : Int32), (0 : Int32)]) :: []) := H111.front 2 rfl
      refine o_callI X109 at_159 (rest := [(.ref b108)]) (c_init l Z a0 hw [] n0 _ X109.size b108 (4 : Int32) (3 : Int32) FP.dconst1 FP.dconst1 b1 b109 _ _ _ _ _ _ ((b1, OA Z .int [xa, xb, xc, xd, xe, xe, xe, xe, xe, xe, xe, xe]) :: (b109, OA Z .int [(0 : Int32), (0 : Int32), (0 : Int32), (0 : Int32)]) :: []) H112) rfl (hw _ (List.mem_of_getElem? (i := 5) rfl)) (hw _ (List.mem_of_getElem? (i := 6) rfl)) (hw _ (List.mem_of_getElem? (i := 4) rfl)) (hw _ (List.mem_of_getElem? (i := 7) rfl)) (by decide) 1 (by decide) (by decide) rfl [(.int (4 : Int32)), (.int (3 : Int32)), (.double FP.dconst1), (.double FP.dconst1), (.ref b1), (.ref b109)] rfl pd_1 rfl rfl (Nat.le_of_eq rfl) 3 22 rfl rfl (by decide) (by decide) 162 rfl ?_
      rintro _ T110 h110 X110 ⟨rfl, H110⟩
      replace H110 : OL n0 h110 ((b108, OO Z "com/example/palamedes/palamedes/lda/TopicModel" [("com/example/palamedes/palamedes/lda/TopicModel", "topics", "I", .int (4 : Int32)), ("com/example/palamedes/palamedes/lda/TopicModel", "words", "I", .int (3 : Int32)), ("com/example/palamedes/palamedes/lda/TopicModel", "alpha", "D", .double FP.dconst1), ("com/example/palamedes/palamedes/lda/TopicModel", "beta", "D", .double FP.dconst1), ("com/example/palamedes/palamedes/lda/TopicModel", "wordTopicCounts", "[I", .ref b1), ("com/example/palamedes/palamedes/lda/TopicModel", "topicCounts", "[I", .ref b109)]) :: (b1, OA Z .int [xa, xb, xc, xd, xe, xe, xe, xe, xe, xe, xe, xe]) :: (b109, OA Z .int [(0 : Int32), (0 : Int32), (0 : Int32), (0 : Int32)]) :: []) := H110
      show OE p e room_1 below s n0 Q' T110 (mkF m 162 #[.val (.int xs), .val (.int xa), .val (.int xb), .val (.int xc), .val (.int xd), .val (.int xe), .val (.int (4 : Int32)), .val (.int (0 : Int32)), .val (.ref b1), .val (.int (0 : Int32)), .unset, .unset, .unset] [(.ref b108)])
      refine o_astore X110 at_162 rfl #[.val (.int xs), .val (.int xa), .val (.int xb), .val (.int xc), .val (.int xd), .val (.int xe), .val (.int (4 : Int32)), .val (.int (0 : Int32)), .val (.ref b1), .val (.int (0 : Int32)), .val (.ref b108), .unset, .unset] rfl 164 rfl ?_
      refine o_iloadN X110 at_164 rfl 165 rfl ?_
      refine o_i2l X110 at_165 166 rfl ?_
      refine o_lstore X110 at_166 #[.val (.int xs), .val (.int xa), .val (.int xb), .val (.int xc), .val (.int xd), .val (.int xe), .val (.int (4 : Int32)), .val (.int (0 : Int32)), .val (.ref b1), .val (.int (0 : Int32)), .val (.ref b108), .val (.long (Int32.toInt64 xa)), .second] rfl 168 rfl ?_
      refine o_iload X110 at_168 rfl 170 rfl ?_
      refine o_iconst (v := (1 : Int32)) X110 at_170 rfl 171 rfl ?_
      refine o_icmpLe X110 at_171 181 174 (by decide) (by decide) rfl (fun q => by exfalso; exact absurd q (by decide)) ?_
      intro hc171
      refine o_lload X110 at_174 rfl 176 rfl ?_
      refine o_iloadN X110 at_176 rfl 177 rfl ?_
      refine o_i2l X110 at_177 178 rfl ?_
      refine o_ladd X110 at_178 179 rfl ?_
      refine o_lstore X110 at_179 #[.val (.int xs), .val (.int xa), .val (.int xb), .val (.int xc), .val (.int xd), .val (.int xe), .val (.int (4 : Int32)), .val (.int (0 : Int32)), .val (.ref b1), .val (.int (0 : Int32)), .val (.ref b108), .val (.long ((Int32.toInt64 xa) + (Int32.toInt64 xb))), .second] rfl 181 rfl ?_
      refine o_iload X110 at_181 rfl 183 rfl ?_
      refine o_iconst (v := (2 : Int32)) X110 at_183 rfl 184 rfl ?_
      refine o_icmpLe X110 at_184 194 187 (by decide) (by decide) rfl (fun q => by exfalso; exact absurd q (by decide)) ?_
      intro hc184
      refine o_lload X110 at_187 rfl 189 rfl ?_
      refine o_iloadN X110 at_189 rfl 190 rfl ?_
      refine o_i2l X110 at_190 191 rfl ?_
      refine o_ladd X110 at_191 192 rfl ?_
      refine o_lstore X110 at_192 #[.val (.int xs), .val (.int xa), .val (.int xb), .val (.int xc), .val (.int xd), .val (.int xe), .val (.int (4 : Int32)), .val (.int (0 : Int32)), .val (.ref b1), .val (.int (0 : Int32)), .val (.ref b108), .val (.long (((Int32.toInt64 xa) + (Int32.toInt64 xb)) + (Int32.toInt64 xc))), .second] rfl 194 rfl ?_
      refine o_iload X110 at_194 rfl 196 rfl ?_
      refine o_iconst (v := (3 : Int32)) X110 at_196 rfl 197 rfl ?_
      refine o_icmpLe X110 at_197 208 200 (by decide) (by decide) rfl (fun q => by exfalso; exact absurd q (by decide)) ?_
      intro hc197
      refine o_lload X110 at_200 rfl 202 rfl ?_
      refine o_iload X110 at_202 rfl 204 rfl ?_
      refine o_i2l X110 at_204 205 rfl ?_
      refine o_ladd X110 at_205 206 rfl ?_
      refine o_lstore X110 at_206 #[.val (.int xs), .val (.int xa), .val (.int xb), .val (.int xc), .val (.int xd), .val (.int xe), .val (.int (4 : Int32)), .val (.int (0 : Int32)), .val (.ref b1), .val (.int (0 : Int32)), .val (.ref b108), .val (.long ((((Int32.toInt64 xa) + (Int32.toInt64 xb)) + (Int32.toInt64 xc)) + (Int32.toInt64 xd))), .second] rfl 208 rfl ?_
      refine o_aload X110 at_208 rfl rfl 210 rfl ?_
      refine o_iload X110 at_210 rfl 212 rfl ?_
      have H114 : OL n0 h110 ((b1, OA Z .int [xa, xb, xc, xd, xe, xe, xe, xe, xe, xe, xe, xe]) :: (b108, OO Z "com/example/palamedes/palamedes/lda/TopicModel" [("com/example/palamedes/palamedes/lda/TopicModel", "topics", "I", .int (4 : Int32)), ("com/example/palamedes/palamedes/lda/TopicModel", "words", "I", .int (3 : Int32)), ("com/example/palamedes/palamedes/lda/TopicModel", "alpha", "D", .double FP.dconst1), ("com/example/palamedes/palamedes/lda/TopicModel", "beta", "D", .double FP.dconst1), ("com/example/palamedes/palamedes/lda/TopicModel", "wordTopicCounts", "[I", .ref b1), ("com/example/palamedes/palamedes/lda/TopicModel", "topicCounts", "[I", .ref b109)]) :: (b109, OA Z .int [(0 : Int32), (0 : Int32), (0 : Int32), (0 : Int32)]) :: []) := H110.front 1 rfl
      have H115 : OL n0 h110 ((b108, OO Z "com/example/palamedes/palamedes/lda/TopicModel" [("com/example/palamedes/palamedes/lda/TopicModel", "topics", "I", .int (4 : Int32)), ("com/example/palamedes/palamedes/lda/TopicModel", "words", "I", .int (3 : Int32)), ("com/example/palamedes/palamedes/lda/TopicModel", "alpha", "D", .double FP.dconst1), ("com/example/palamedes/palamedes/lda/TopicModel", "beta", "D", .double FP.dconst1), ("com/example/palamedes/palamedes/lda/TopicModel", "wordTopicCounts", "[I", .ref b1), ("com/example/palamedes/palamedes/lda/TopicModel", "topicCounts", "[I", .ref b109)]) :: (b1, OA Z .int [xa, xb, xc, xd, xe, xe, xe, xe, xe, xe, xe, xe]) :: (b109, OA Z .int [(0 : Int32), (0 : Int32), (0 : Int32), (0 : Int32)]) :: []) := H114.front 1 rfl
      refine o_callV X110 H115 0 rfl at_212 (rest := []) (c_wt_4_0 l Z a0 hw [] n0 _ X110.size b108 b1 b109 (3 : Int32) FP.dconst1 FP.dconst1 xa xb xc xd xe xe xe xe xe xe xe xe ((b109, OA Z .int [(0 : Int32), (0 : Int32), (0 : Int32), (0 : Int32)]) :: []) H115) (hw _ (List.mem_of_getElem? (i := 23) rfl)) (hw _ (List.mem_of_getElem? (i := 24) rfl)) (hw _ (List.mem_of_getElem? (i := 26) rfl)) (hw _ (List.mem_of_getElem? (i := 25) rfl)) (hw _ (List.mem_of_getElem? (i := 4) rfl)) (hw _ (List.mem_of_getElem? (i := 27) rfl)) (by decide) 0 (by decide) (by decide) rfl [(.int (0 : Int32))] rfl pd_3 rfl rfl (Nat.le_of_eq rfl) 3 22 rfl rfl (by decide) (by decide) 215 rfl ?_
      rintro _ T113 _ X113 ⟨rfl, rfl⟩
      show OE p e room_1 below s n0 Q' T113 (mkF m 215 #[.val (.int xs), .val (.int xa), .val (.int xb), .val (.int xc), .val (.int xd), .val (.int xe), .val (.int (4 : Int32)), .val (.int (0 : Int32)), .val (.ref b1), .val (.int (0 : Int32)), .val (.ref b108), .val (.long ((((Int32.toInt64 xa) + (Int32.toInt64 xb)) + (Int32.toInt64 xc)) + (Int32.toInt64 xd))), .second] [(.long (((((0 : Int64) + (Int32.toInt64 xa)) + (Int32.toInt64 xb)) + (Int32.toInt64 xc)) + (Int32.toInt64 xd)))])
      refine o_lload X113 at_215 rfl 217 rfl ?_
      refine o_lcmp X113 at_217 218 rfl ?_
      refine o_ifNe X113 at_218 225 221 (by decide) (by decide) rfl (fun q => by exfalso; exact q ((v_cmp0 _ _).mpr (by simp only [Int64.zero_add]))) ?_
      intro hc218
      refine o_iconst (v := (1 : Int32)) X113 at_221 rfl 222 rfl ?_
      refine o_goto X113 at_222 226 (by decide) (by decide) ?_
      exact o_retZ X113 at_226 (by decide) (by decide) (hQ _ _ rfl)
    · rw [hv]
      refine o_iload X13 at_89 rfl 91 rfl ?_
      refine o_iload X13 at_91 rfl 93 rfl ?_
      refine o_imul X13 at_93 94 rfl ?_
      refine o_istore X13 at_94 #[.val (.int xs), .val (.int xa), .val (.int xb), .val (.int xc), .val (.int xd), .val (.int xe), .val (.int (4 : Int32)), .val (.int (1 : Int32)), .val (.ref b1), .val (.int ((1 : Int32) * (4 : Int32))), .unset, .unset, .unset] rfl 96 rfl ?_
      rw [show ((1 : Int32) * (4 : Int32)) = (4 : Int32) from rfl]
      refine o_aload X13 at_96 rfl rfl 98 rfl ?_
      refine o_iload X13 at_98 rfl 100 rfl ?_
      refine o_iloadN X13 at_100 rfl 101 rfl ?_
      refine o_iastore X13 H13 0 rfl at_101 4 rfl (by show 4 < 12; decide) 102 rfl ?_
      intro T116 h116 X116 H116
      replace H116 : OL n0 h116 ((b1, OA Z .int [xe, xe, xe, xe, xa, xe, xe, xe, xe, xe, xe, xe]) :: []) := H116
      refine o_iload X116 at_102 rfl 104 rfl ?_
      refine o_iconst (v := (1 : Int32)) X116 at_104 rfl 105 rfl ?_
      refine o_icmpLe X116 at_105 116 108 (by decide) (by decide) rfl (fun q => by exfalso; exact absurd q (by decide)) ?_
      intro hc105
      refine o_aload X116 at_108 rfl rfl 110 rfl ?_
      refine o_iload X116 at_110 rfl 112 rfl ?_
      refine o_iconst (v := (1 : Int32)) X116 at_112 rfl 113 rfl ?_
      refine o_iadd X116 at_113 114 rfl ?_
      refine o_iloadN X116 at_114 rfl 115 rfl ?_
      refine o_iastore X116 H116 0 rfl at_115 5 rfl (by show 5 < 12; decide) 116 rfl ?_
      intro T117 h117 X117 H117
      replace H117 : OL n0 h117 ((b1, OA Z .int [xe, xe, xe, xe, xa, xb, xe, xe, xe, xe, xe, xe]) :: []) := H117
      refine o_iload X117 at_116 rfl 118 rfl ?_
      refine o_iconst (v := (2 : Int32)) X117 at_118 rfl 119 rfl ?_
      refine o_icmpLe X117 at_119 130 122 (by decide) (by decide) rfl (fun q => by exfalso; exact absurd q (by decide)) ?_
      intro hc119
      refine o_aload X117 at_122 rfl rfl 124 rfl ?_
      refine o_iload X117 at_124 rfl 126 rfl ?_
      refine o_iconst (v := (2 : Int32)) X117 at_126 rfl 127 rfl ?_
      refine o_iadd X117 at_127 128 rfl ?_
      refine o_iloadN X117 at_128 rfl 129 rfl ?_
      refine o_iastore X117 H117 0 rfl at_129 6 rfl (by show 6 < 12; decide) 130 rfl ?_
      intro T118 h118 X118 H118
      replace H118 : OL n0 h118 ((b1, OA Z .int [xe, xe, xe, xe, xa, xb, xc, xe, xe, xe, xe, xe]) :: []) := H118
      refine o_iload X118 at_130 rfl 132 rfl ?_
      refine o_iconst (v := (3 : Int32)) X118 at_132 rfl 133 rfl ?_
      refine o_icmpLe X118 at_133 145 136 (by decide) (by decide) rfl (fun q => by exfalso; exact absurd q (by decide)) ?_
      intro hc133
      refine o_aload X118 at_136 rfl rfl 138 rfl ?_
      refine o_iload X118 at_138 rfl 140 rfl ?_
      refine o_iconst (v := (3 : Int32)) X118 at_140 rfl 141 rfl ?_
      refine o_iadd X118 at_141 142 rfl ?_
      refine o_iload X118 at_142 rfl 144 rfl ?_
      refine o_iastore X118 H118 0 rfl at_144 7 rfl (by show 7 < 12; decide) 145 rfl ?_
      intro T119 h119 X119 H119
      replace H119 : OL n0 h119 ((b1, OA Z .int [xe, xe, xe, xe, xa, xb, xc, xd, xe, xe, xe, xe]) :: []) := H119
      refine o_new (L := ((b1, OA Z .int [xe, xe, xe, xe, xa, xb, xc, xd, xe, xe, xe, xe]) :: [])) X119 H119 at_145 (hw _ (List.mem_of_getElem? (i := 2) rfl)) (hw _ (List.mem_of_getElem? (i := 3) rfl)) (hw _ (List.mem_of_getElem? (i := 4) rfl)) [("com/example/palamedes/palamedes/lda/TopicModel", "topics", "I", .int (0 : Int32)), ("com/example/palamedes/palamedes/lda/TopicModel", "words", "I", .int (0 : Int32)), ("com/example/palamedes/palamedes/lda/TopicModel", "alpha", "D", .double 0), ("com/example/palamedes/palamedes/lda/TopicModel", "beta", "D", .double 0), ("com/example/palamedes/palamedes/lda/TopicModel", "wordTopicCounts", "[I", .null), ("com/example/palamedes/palamedes/lda/TopicModel", "topicCounts", "[I", .null)] (oqS ⟨.int, Or.inr (hw _ (List.mem_of_getElem? (i := 12) rfl)), by decide, rfl⟩ (oqS ⟨.int, Or.inr (hw _ (List.mem_of_getElem? (i := 14) rfl)), by decide, rfl⟩ (oqS ⟨.double, Or.inr (hw _ (List.mem_of_getElem? (i := 16) rfl)), by decide, rfl⟩ (oqS ⟨.double, Or.inr (hw _ (List.mem_of_getElem? (i := 18) rfl)), by decide, rfl⟩ (oqS ⟨(.array .int), Or.inr (hw _ (List.mem_of_getElem? (i := 20) rfl)), by decide, rfl⟩ (oqS ⟨(.array .int), Or.inr (hw _ (List.mem_of_getElem? (i := 22) rfl)), by decide, rfl⟩ oq0)))))) 2 18 rfl rfl (by decide) (by decide) 148 rfl ?_
      intro T120 h120 b120 X120 H120
      refine o_dup X120 at_148 rfl 149 rfl ?_
      refine o_iload X120 at_149 rfl 151 rfl ?_
      refine o_iconst (v := (3 : Int32)) X120 at_151 rfl 152 rfl ?_
      refine o_dconst1 X120 at_152 153 rfl ?_
      refine o_dconst1 X120 at_153 154 rfl ?_
      refine o_aload X120 at_154 rfl rfl 156 rfl ?_
      refine o_iconst (v := (4 : Int32)) X120 at_156 rfl 157 rfl ?_
      refine o_newarray (L := ((b120, OO Z "com/example/palamedes/palamedes/lda/TopicModel" [("com/example/palamedes/palamedes/lda/TopicModel", "topics", "I", .int (0 : Int32)), ("com/example/palamedes/palamedes/lda/TopicModel", "words", "I", .int (0 : Int32)), ("com/example/palamedes/palamedes/lda/TopicModel", "alpha", "D", .double 0), ("com/example/palamedes/palamedes/lda/TopicModel", "beta", "D", .double 0), ("com/example/palamedes/palamedes/lda/TopicModel", "wordTopicCounts", "[I", .null), ("com/example/palamedes/palamedes/lda/TopicModel", "topicCounts", "[I", .null)]) :: (b1, OA Z .int [xe, xe, xe, xe, xa, xb, xc, xd, xe, xe, xe, xe]) :: [])) X120 H120 at_157 (hw _ (List.mem_of_getElem? (i := 1) rfl)) rfl rfl 4 4 rfl (by decide) (by decide) 3 22 rfl rfl (by decide) (by decide) 159 rfl ?_
      intro T121 h121 b121 X121 H121
      replace H121 : OL n0 h121 ((b121, OA Z .int [(0 : Int32), (0 : Int32), (0 : Int32), (0 : Int32)]) :: (b120, OO Z "com/example/palamedes/palamedes/lda/TopicModel" [("com/example/palamedes/palamedes/lda/TopicModel", "topics", "I", .int (0 : Int32)), ("com/example/palamedes/palamedes/lda/TopicModel", "words", "I", .int (0 : Int32)), ("com/example/palamedes/palamedes/lda/TopicModel", "alpha", "D", .double 0), ("com/example/palamedes/palamedes/lda/TopicModel", "beta", "D", .double 0), ("com/example/palamedes/palamedes/lda/TopicModel", "wordTopicCounts", "[I", .null), ("com/example/palamedes/palamedes/lda/TopicModel", "topicCounts", "[I", .null)]) :: (b1, OA Z .int [xe, xe, xe, xe, xa, xb, xc, xd, xe, xe, xe, xe]) :: []) := H121
      have H123 : OL n0 h121 ((b1, OA Z .int [xe, xe, xe, xe, xa, xb, xc, xd, xe, xe, xe, xe]) :: (b121, OA Z .int [(0 : Int32), (0 : Int32), (0 : Int32), (0 : Int32)]) :: (b120, OO Z "com/example/palamedes/palamedes/lda/TopicModel" [("com/example/palamedes/palamedes/lda/TopicModel", "topics", "I", .int (0 : Int32)), ("com/example/palamedes/palamedes/lda/TopicModel", "words", "I", .int (0 : Int32)), ("com/example/palamedes/palamedes/lda/TopicModel", "alpha", "D", .double 0), ("com/example/palamedes/palamedes/lda/TopicModel", "beta", "D", .double 0), ("com/example/palamedes/palamedes/lda/TopicModel", "wordTopicCounts", "[I", .null), ("com/example/palamedes/palamedes/lda/TopicModel", "topicCounts", "[I", .null)]) :: []) := H121.front 2 rfl
      have H124 : OL n0 h121 ((b120, OO Z "com/example/palamedes/palamedes/lda/TopicModel" [("com/example/palamedes/palamedes/lda/TopicModel", "topics", "I", .int (0 : Int32)), ("com/example/palamedes/palamedes/lda/TopicModel", "words", "I", .int (0 : Int32)), ("com/example/palamedes/palamedes/lda/TopicModel", "alpha", "D", .double 0), ("com/example/palamedes/palamedes/lda/TopicModel", "beta", "D", .double 0), ("com/example/palamedes/palamedes/lda/TopicModel", "wordTopicCounts", "[I", .null), ("com/example/palamedes/palamedes/lda/TopicModel", "topicCounts", "[I", .null)]) :: (b1, OA Z .int [xe, xe, xe, xe, xa, xb, xc, xd, xe, xe, xe, xe]) :: (b121, OA Z .int [(0 : Int32), (0 : Int32), (0 : Int32), (0 : Int32)]) :: []) := H123.front 2 rfl
      refine o_callI X121 at_159 (rest := [(.ref b120)]) (c_init l Z a0 hw [] n0 _ X121.size b120 (4 : Int32) (3 : Int32) FP.dconst1 FP.dconst1 b1 b121 _ _ _ _ _ _ ((b1, OA Z .int [xe, xe, xe, xe, xa, xb, xc, xd, xe, xe, xe, xe]) :: (b121, OA Z .int [(0 : Int32), (0 : Int32), (0 : Int32), (0 : Int32)]) :: []) H124) rfl (hw _ (List.mem_of_getElem? (i := 5) rfl)) (hw _ (List.mem_of_getElem? (i := 6) rfl)) (hw _ (List.mem_of_getElem? (i := 4) rfl)) (hw _ (List.mem_of_getElem? (i := 7) rfl)) (by decide) 1 (by decide) (by decide) rfl [(.int (4 : Int32)), (.int (3 : Int32)), (.double FP.dconst1), (.double FP.dconst1), (.ref b1), (.ref b121)] rfl pd_1 rfl rfl (Nat.le_of_eq rfl) 3 22 rfl rfl (by decide) (by decide) 162 rfl ?_
      rintro _ T122 h122 X122 ⟨rfl, H122⟩
      replace H122 : OL n0 h122 ((b120, OO Z "com/example/palamedes/palamedes/lda/TopicModel" [("com/example/palamedes/palamedes/lda/TopicModel", "topics", "I", .int (4 : Int32)), ("com/example/palamedes/palamedes/lda/TopicModel", "words", "I", .int (3 : Int32)), ("com/example/palamedes/palamedes/lda/TopicModel", "alpha", "D", .double FP.dconst1), ("com/example/palamedes/palamedes/lda/TopicModel", "beta", "D", .double FP.dconst1), ("com/example/palamedes/palamedes/lda/TopicModel", "wordTopicCounts", "[I", .ref b1), ("com/example/palamedes/palamedes/lda/TopicModel", "topicCounts", "[I", .ref b121)]) :: (b1, OA Z .int [xe, xe, xe, xe, xa, xb, xc, xd, xe, xe, xe, xe]) :: (b121, OA Z .int [(0 : Int32), (0 : Int32), (0 : Int32), (0 : Int32)]) :: []) := H122
      show OE p e room_1 below s n0 Q' T122 (mkF m 162 #[.val (.int xs), .val (.int xa), .val (.int xb), .val (.int xc), .val (.int xd), .val (.int xe), .val (.int (4 : Int32)), .val (.int (1 : Int32)), .val (.ref b1), .val (.int (4 : Int32)), .unset, .unset, .unset] [(.ref b120)])
      refine o_astore X122 at_162 rfl #[.val (.int xs), .val (.int xa), .val (.int xb), .val (.int xc), .val (.int xd), .val (.int xe), .val (.int (4 : Int32)), .val (.int (1 : Int32)), .val (.ref b1), .val (.int (4 : Int32)), .val (.ref b120), .unset, .unset] rfl 164 rfl ?_
      refine o_iloadN X122 at_164 rfl 165 rfl ?_
      refine o_i2l X122 at_165 166 rfl ?_
      refine o_lstore X122 at_166 #[.val (.int xs), .val (.int xa), .val (.int xb), .val (.int xc), .val (.int xd), .val (.int xe), .val (.int (4 : Int32)), .val (.int (1 : Int32)), .val (.ref b1), .val (.int (4 : Int32)), .val (.ref b120), .val (.long (Int32.toInt64 xa)), .second] rfl 168 rfl ?_
      refine o_iload X122 at_168 rfl 170 rfl ?_
      refine o_iconst (v := (1 : Int32)) X122 at_170 rfl 171 rfl ?_
      refine o_icmpLe X122 at_171 181 174 (by decide) (by decide) rfl (fun q => by exfalso; exact absurd q (by decide)) ?_
      intro hc171
      refine o_lload X122 at_174 rfl 176 rfl ?_
      refine o_iloadN X122 at_176 rfl 177 rfl ?_
      refine o_i2l X122 at_177 178 rfl ?_
      refine o_ladd X122 at_178 179 rfl ?_
      refine o_lstore X122 at_179 #[.val (.int xs), .val (.int xa), .val (.int xb), .val (.int xc), .val (.int xd), .val (.int xe), .val (.int (4 : Int32)), .val (.int (1 : Int32)), .val (.ref b1), .val (.int (4 : Int32)), .val (.ref b120), .val (.long ((Int32.toInt64 xa) + (Int32.toInt64 xb))), .second] rfl 181 rfl ?_
      refine o_iload X122 at_181 rfl 183 rfl ?_
      refine o_iconst (v := (2 : Int32)) X122 at_183 rfl 184 rfl ?_
      refine o_icmpLe X122 at_184 194 187 (by decide) (by decide) rfl (fun q => by exfalso; exact absurd q (by decide)) ?_
      intro hc184
      refine o_lload X122 at_187 rfl 189 rfl ?_
      refine o_iloadN X122 at_189 rfl 190 rfl ?_
      refine o_i2l X122 at_190 191 rfl ?_
      refine o_ladd X122 at_191 192 rfl ?_
      refine o_lstore X122 at_192 #[.val (.int xs), .val (.int xa), .val (.int xb), .val (.int xc), .val (.int xd), .val (.int xe), .val (.int (4 : Int32)), .val (.int (1 : Int32)), .val (.ref b1), .val (.int (4 : Int32)), .val (.ref b120), .val (.long (((Int32.toInt64 xa) + (Int32.toInt64 xb)) + (Int32.toInt64 xc))), .second] rfl 194 rfl ?_
      refine o_iload X122 at_194 rfl 196 rfl ?_
      refine o_iconst (v := (3 : Int32)) X122 at_196 rfl 197 rfl ?_
      refine o_icmpLe X122 at_197 208 200 (by decide) (by decide) rfl (fun q => by exfalso; exact absurd q (by decide)) ?_
      intro hc197
      refine o_lload X122 at_200 rfl 202 rfl ?_
      refine o_iload X122 at_202 rfl 204 rfl ?_
      refine o_i2l X122 at_204 205 rfl ?_
      refine o_ladd X122 at_205 206 rfl ?_
      refine o_lstore X122 at_206 #[.val (.int xs), .val (.int xa), .val (.int xb), .val (.int xc), .val (.int xd), .val (.int xe), .val (.int (4 : Int32)), .val (.int (1 : Int32)), .val (.ref b1), .val (.int (4 : Int32)), .val (.ref b120), .val (.long ((((Int32.toInt64 xa) + (Int32.toInt64 xb)) + (Int32.toInt64 xc)) + (Int32.toInt64 xd))), .second] rfl 208 rfl ?_
      refine o_aload X122 at_208 rfl rfl 210 rfl ?_
      refine o_iload X122 at_210 rfl 212 rfl ?_
      have H126 : OL n0 h122 ((b1, OA Z .int [xe, xe, xe, xe, xa, xb, xc, xd, xe, xe, xe, xe]) :: (b120, OO Z "com/example/palamedes/palamedes/lda/TopicModel" [("com/example/palamedes/palamedes/lda/TopicModel", "topics", "I", .int (4 : Int32)), ("com/example/palamedes/palamedes/lda/TopicModel", "words", "I", .int (3 : Int32)), ("com/example/palamedes/palamedes/lda/TopicModel", "alpha", "D", .double FP.dconst1), ("com/example/palamedes/palamedes/lda/TopicModel", "beta", "D", .double FP.dconst1), ("com/example/palamedes/palamedes/lda/TopicModel", "wordTopicCounts", "[I", .ref b1), ("com/example/palamedes/palamedes/lda/TopicModel", "topicCounts", "[I", .ref b121)]) :: (b121, OA Z .int [(0 : Int32), (0 : Int32), (0 : Int32), (0 : Int32)]) :: []) := H122.front 1 rfl
      have H127 : OL n0 h122 ((b120, OO Z "com/example/palamedes/palamedes/lda/TopicModel" [("com/example/palamedes/palamedes/lda/TopicModel", "topics", "I", .int (4 : Int32)), ("com/example/palamedes/palamedes/lda/TopicModel", "words", "I", .int (3 : Int32)), ("com/example/palamedes/palamedes/lda/TopicModel", "alpha", "D", .double FP.dconst1), ("com/example/palamedes/palamedes/lda/TopicModel", "beta", "D", .double FP.dconst1), ("com/example/palamedes/palamedes/lda/TopicModel", "wordTopicCounts", "[I", .ref b1), ("com/example/palamedes/palamedes/lda/TopicModel", "topicCounts", "[I", .ref b121)]) :: (b1, OA Z .int [xe, xe, xe, xe, xa, xb, xc, xd, xe, xe, xe, xe]) :: (b121, OA Z .int [(0 : Int32), (0 : Int32), (0 : Int32), (0 : Int32)]) :: []) := H126.front 1 rfl
      refine o_callV X122 H127 0 rfl at_212 (rest := []) (c_wt_4_1 l Z a0 hw [] n0 _ X122.size b120 b1 b121 (3 : Int32) FP.dconst1 FP.dconst1 xe xe xe xe xa xb xc xd xe xe xe xe ((b121, OA Z .int [(0 : Int32), (0 : Int32), (0 : Int32), (0 : Int32)]) :: []) H127) (hw _ (List.mem_of_getElem? (i := 23) rfl)) (hw _ (List.mem_of_getElem? (i := 24) rfl)) (hw _ (List.mem_of_getElem? (i := 26) rfl)) (hw _ (List.mem_of_getElem? (i := 25) rfl)) (hw _ (List.mem_of_getElem? (i := 4) rfl)) (hw _ (List.mem_of_getElem? (i := 27) rfl)) (by decide) 0 (by decide) (by decide) rfl [(.int (1 : Int32))] rfl pd_3 rfl rfl (Nat.le_of_eq rfl) 3 22 rfl rfl (by decide) (by decide) 215 rfl ?_
      rintro _ T125 _ X125 ⟨rfl, rfl⟩
      show OE p e room_1 below s n0 Q' T125 (mkF m 215 #[.val (.int xs), .val (.int xa), .val (.int xb), .val (.int xc), .val (.int xd), .val (.int xe), .val (.int (4 : Int32)), .val (.int (1 : Int32)), .val (.ref b1), .val (.int (4 : Int32)), .val (.ref b120), .val (.long ((((Int32.toInt64 xa) + (Int32.toInt64 xb)) + (Int32.toInt64 xc)) + (Int32.toInt64 xd))), .second] [(.long (((((0 : Int64) + (Int32.toInt64 xa)) + (Int32.toInt64 xb)) + (Int32.toInt64 xc)) + (Int32.toInt64 xd)))])
      refine o_lload X125 at_215 rfl 217 rfl ?_
      refine o_lcmp X125 at_217 218 rfl ?_
      refine o_ifNe X125 at_218 225 221 (by decide) (by decide) rfl (fun q => by exfalso; exact q ((v_cmp0 _ _).mpr (by simp only [Int64.zero_add]))) ?_
      intro hc218
      refine o_iconst (v := (1 : Int32)) X125 at_221 rfl 222 rfl ?_
      refine o_goto X125 at_222 226 (by decide) (by decide) ?_
      exact o_retZ X125 at_226 (by decide) (by decide) (hQ _ _ rfl)
    · rw [hv]
      refine o_iload X13 at_89 rfl 91 rfl ?_
      refine o_iload X13 at_91 rfl 93 rfl ?_
      refine o_imul X13 at_93 94 rfl ?_
      refine o_istore X13 at_94 #[.val (.int xs), .val (.int xa), .val (.int xb), .val (.int xc), .val (.int xd), .val (.int xe), .val (.int (4 : Int32)), .val (.int (2 : Int32)), .val (.ref b1), .val (.int ((2 : Int32) * (4 : Int32))), .unset, .unset, .unset] rfl 96 rfl ?_
      rw [show ((2 : Int32) * (4 : Int32)) = (8 : Int32) from rfl]
      refine o_aload X13 at_96 rfl rfl 98 rfl ?_
      refine o_iload X13 at_98 rfl 100 rfl ?_
      refine o_iloadN X13 at_100 rfl 101 rfl ?_
      refine o_iastore X13 H13 0 rfl at_101 8 rfl (by show 8 < 12; decide) 102 rfl ?_
      intro T128 h128 X128 H128
      replace H128 : OL n0 h128 ((b1, OA Z .int [xe, xe, xe, xe, xe, xe, xe, xe, xa, xe, xe, xe]) :: []) := H128
      refine o_iload X128 at_102 rfl 104 rfl ?_
      refine o_iconst (v := (1 : Int32)) X128 at_104 rfl 105 rfl ?_
      refine o_icmpLe X128 at_105 116 108 (by decide) (by decide) rfl (fun q => by exfalso; exact absurd q (by decide)) ?_
      intro hc105
      refine o_aload X128 at_108 rfl rfl 110 rfl ?_
      refine o_iload X128 at_110 rfl 112 rfl ?_
      refine o_iconst (v := (1 : Int32)) X128 at_112 rfl 113 rfl ?_
      refine o_iadd X128 at_113 114 rfl ?_
      refine o_iloadN X128 at_114 rfl 115 rfl ?_
      refine o_iastore X128 H128 0 rfl at_115 9 rfl (by show 9 < 12; decide) 116 rfl ?_
      intro T129 h129 X129 H129
      replace H129 : OL n0 h129 ((b1, OA Z .int [xe, xe, xe, xe, xe, xe, xe, xe, xa, xb, xe, xe]) :: []) := H129
      refine o_iload X129 at_116 rfl 118 rfl ?_
      refine o_iconst (v := (2 : Int32)) X129 at_118 rfl 119 rfl ?_
      refine o_icmpLe X129 at_119 130 122 (by decide) (by decide) rfl (fun q => by exfalso; exact absurd q (by decide)) ?_
      intro hc119
      refine o_aload X129 at_122 rfl rfl 124 rfl ?_
      refine o_iload X129 at_124 rfl 126 rfl ?_
      refine o_iconst (v := (2 : Int32)) X129 at_126 rfl 127 rfl ?_
      refine o_iadd X129 at_127 128 rfl ?_
      refine o_iloadN X129 at_128 rfl 129 rfl ?_
      refine o_iastore X129 H129 0 rfl at_129 10 rfl (by show 10 < 12; decide) 130 rfl ?_
      intro T130 h130 X130 H130
      replace H130 : OL n0 h130 ((b1, OA Z .int [xe, xe, xe, xe, xe, xe, xe, xe, xa, xb, xc, xe]) :: []) := H130
      refine o_iload X130 at_130 rfl 132 rfl ?_
      refine o_iconst (v := (3 : Int32)) X130 at_132 rfl 133 rfl ?_
      refine o_icmpLe X130 at_133 145 136 (by decide) (by decide) rfl (fun q => by exfalso; exact absurd q (by decide)) ?_
      intro hc133
      refine o_aload X130 at_136 rfl rfl 138 rfl ?_
      refine o_iload X130 at_138 rfl 140 rfl ?_
      refine o_iconst (v := (3 : Int32)) X130 at_140 rfl 141 rfl ?_
      refine o_iadd X130 at_141 142 rfl ?_
      refine o_iload X130 at_142 rfl 144 rfl ?_
      refine o_iastore X130 H130 0 rfl at_144 11 rfl (by show 11 < 12; decide) 145 rfl ?_
      intro T131 h131 X131 H131
      replace H131 : OL n0 h131 ((b1, OA Z .int [xe, xe, xe, xe, xe, xe, xe, xe, xa, xb, xc, xd]) :: []) := H131
      refine o_new (L := ((b1, OA Z .int [xe, xe, xe, xe, xe, xe, xe, xe, xa, xb, xc, xd]) :: [])) X131 H131 at_145 (hw _ (List.mem_of_getElem? (i := 2) rfl)) (hw _ (List.mem_of_getElem? (i := 3) rfl)) (hw _ (List.mem_of_getElem? (i := 4) rfl)) [("com/example/palamedes/palamedes/lda/TopicModel", "topics", "I", .int (0 : Int32)), ("com/example/palamedes/palamedes/lda/TopicModel", "words", "I", .int (0 : Int32)), ("com/example/palamedes/palamedes/lda/TopicModel", "alpha", "D", .double 0), ("com/example/palamedes/palamedes/lda/TopicModel", "beta", "D", .double 0), ("com/example/palamedes/palamedes/lda/TopicModel", "wordTopicCounts", "[I", .null), ("com/example/palamedes/palamedes/lda/TopicModel", "topicCounts", "[I", .null)] (oqS ⟨.int, Or.inr (hw _ (List.mem_of_getElem? (i := 12) rfl)), by decide, rfl⟩ (oqS ⟨.int, Or.inr (hw _ (List.mem_of_getElem? (i := 14) rfl)), by decide, rfl⟩ (oqS ⟨.double, Or.inr (hw _ (List.mem_of_getElem? (i := 16) rfl)), by decide, rfl⟩ (oqS ⟨.double, Or.inr (hw _ (List.mem_of_getElem? (i := 18) rfl)), by decide, rfl⟩ (oqS ⟨(.array .int), Or.inr (hw _ (List.mem_of_getElem? (i := 20) rfl)), by decide, rfl⟩ (oqS ⟨(.array .int), Or.inr (hw _ (List.mem_of_getElem? (i := 22) rfl)), by decide, rfl⟩ oq0)))))) 2 18 rfl rfl (by decide) (by decide) 148 rfl ?_
      intro T132 h132 b132 X132 H132
      refine o_dup X132 at_148 rfl 149 rfl ?_
      refine o_iload X132 at_149 rfl 151 rfl ?_
      refine o_iconst (v := (3 : Int32)) X132 at_151 rfl 152 rfl ?_
      refine o_dconst1 X132 at_152 153 rfl ?_
      refine o_dconst1 X132 at_153 154 rfl ?_
      refine o_aload X132 at_154 rfl rfl 156 rfl ?_
      refine o_iconst (v := (4 : Int32)) X132 at_156 rfl 157 rfl ?_
      refine o_newarray (L := ((b132, OO Z "com/example/palamedes/palamedes/lda/TopicModel" [("com/example/palamedes/palamedes/lda/TopicModel", "topics", "I", .int (0 : Int32)), ("com/example/palamedes/palamedes/lda/TopicModel", "words", "I", .int (0 : Int32)), ("com/example/palamedes/palamedes/lda/TopicModel", "alpha", "D", .double 0), ("com/example/palamedes/palamedes/lda/TopicModel", "beta", "D", .double 0), ("com/example/palamedes/palamedes/lda/TopicModel", "wordTopicCounts", "[I", .null), ("com/example/palamedes/palamedes/lda/TopicModel", "topicCounts", "[I", .null)]) :: (b1, OA Z .int [xe, xe, xe, xe, xe, xe, xe, xe, xa, xb, xc, xd]) :: [])) X132 H132 at_157 (hw _ (List.mem_of_getElem? (i := 1) rfl)) rfl rfl 4 4 rfl (by decide) (by decide) 3 22 rfl rfl (by decide) (by decide) 159 rfl ?_
      intro T133 h133 b133 X133 H133
      replace H133 : OL n0 h133 ((b133, OA Z .int [(0 : Int32), (0 : Int32), (0 : Int32), (0 : Int32)]) :: (b132, OO Z "com/example/palamedes/palamedes/lda/TopicModel" [("com/example/palamedes/palamedes/lda/TopicModel", "topics", "I", .int (0 : Int32)), ("com/example/palamedes/palamedes/lda/TopicModel", "words", "I", .int (0 : Int32)), ("com/example/palamedes/palamedes/lda/TopicModel", "alpha", "D", .double 0), ("com/example/palamedes/palamedes/lda/TopicModel", "beta", "D", .double 0), ("com/example/palamedes/palamedes/lda/TopicModel", "wordTopicCounts", "[I", .null), ("com/example/palamedes/palamedes/lda/TopicModel", "topicCounts", "[I", .null)]) :: (b1, OA Z .int [xe, xe, xe, xe, xe, xe, xe, xe, xa, xb, xc, xd]) :: []) := H133
      have H135 : OL n0 h133 ((b1, OA Z .int [xe, xe, xe, xe, xe, xe, xe, xe, xa, xb, xc, xd]) :: (b133, OA Z .int [(0 : Int32), (0 : Int32), (0 : Int32), (0 : Int32)]) :: (b132, OO Z "com/example/palamedes/palamedes/lda/TopicModel" [("com/example/palamedes/palamedes/lda/TopicModel", "topics", "I", .int (0 : Int32)), ("com/example/palamedes/palamedes/lda/TopicModel", "words", "I", .int (0 : Int32)), ("com/example/palamedes/palamedes/lda/TopicModel", "alpha", "D", .double 0), ("com/example/palamedes/palamedes/lda/TopicModel", "beta", "D", .double 0), ("com/example/palamedes/palamedes/lda/TopicModel", "wordTopicCounts", "[I", .null), ("com/example/palamedes/palamedes/lda/TopicModel", "topicCounts", "[I", .null)]) :: []) := H133.front 2 rfl
      have H136 : OL n0 h133 ((b132, OO Z "com/example/palamedes/palamedes/lda/TopicModel" [("com/example/palamedes/palamedes/lda/TopicModel", "topics", "I", .int (0 : Int32)), ("com/example/palamedes/palamedes/lda/TopicModel", "words", "I", .int (0 : Int32)), ("com/example/palamedes/palamedes/lda/TopicModel", "alpha", "D", .double 0), ("com/example/palamedes/palamedes/lda/TopicModel", "beta", "D", .double 0), ("com/example/palamedes/palamedes/lda/TopicModel", "wordTopicCounts", "[I", .null), ("com/example/palamedes/palamedes/lda/TopicModel", "topicCounts", "[I", .null)]) :: (b1, OA Z .int [xe, xe, xe, xe, xe, xe, xe, xe, xa, xb, xc, xd]) :: (b133, OA Z .int [(0 : Int32), (0 : Int32), (0 : Int32), (0 : Int32)]) :: []) := H135.front 2 rfl
      refine o_callI X133 at_159 (rest := [(.ref b132)]) (c_init l Z a0 hw [] n0 _ X133.size b132 (4 : Int32) (3 : Int32) FP.dconst1 FP.dconst1 b1 b133 _ _ _ _ _ _ ((b1, OA Z .int [xe, xe, xe, xe, xe, xe, xe, xe, xa, xb, xc, xd]) :: (b133, OA Z .int [(0 : Int32), (0 : Int32), (0 : Int32), (0 : Int32)]) :: []) H136) rfl (hw _ (List.mem_of_getElem? (i := 5) rfl)) (hw _ (List.mem_of_getElem? (i := 6) rfl)) (hw _ (List.mem_of_getElem? (i := 4) rfl)) (hw _ (List.mem_of_getElem? (i := 7) rfl)) (by decide) 1 (by decide) (by decide) rfl [(.int (4 : Int32)), (.int (3 : Int32)), (.double FP.dconst1), (.double FP.dconst1), (.ref b1), (.ref b133)] rfl pd_1 rfl rfl (Nat.le_of_eq rfl) 3 22 rfl rfl (by decide) (by decide) 162 rfl ?_
      rintro _ T134 h134 X134 ⟨rfl, H134⟩
      replace H134 : OL n0 h134 ((b132, OO Z "com/example/palamedes/palamedes/lda/TopicModel" [("com/example/palamedes/palamedes/lda/TopicModel", "topics", "I", .int (4 : Int32)), ("com/example/palamedes/palamedes/lda/TopicModel", "words", "I", .int (3 : Int32)), ("com/example/palamedes/palamedes/lda/TopicModel", "alpha", "D", .double FP.dconst1), ("com/example/palamedes/palamedes/lda/TopicModel", "beta", "D", .double FP.dconst1), ("com/example/palamedes/palamedes/lda/TopicModel", "wordTopicCounts", "[I", .ref b1), ("com/example/palamedes/palamedes/lda/TopicModel", "topicCounts", "[I", .ref b133)]) :: (b1, OA Z .int [xe, xe, xe, xe, xe, xe, xe, xe, xa, xb, xc, xd]) :: (b133, OA Z .int [(0 : Int32), (0 : Int32), (0 : Int32), (0 : Int32)]) :: []) := H134
      show OE p e room_1 below s n0 Q' T134 (mkF m 162 #[.val (.int xs), .val (.int xa), .val (.int xb), .val (.int xc), .val (.int xd), .val (.int xe), .val (.int (4 : Int32)), .val (.int (2 : Int32)), .val (.ref b1), .val (.int (8 : Int32)), .unset, .unset, .unset] [(.ref b132)])
      refine o_astore X134 at_162 rfl #[.val (.int xs), .val (.int xa), .val (.int xb), .val (.int xc), .val (.int xd), .val (.int xe), .val (.int (4 : Int32)), .val (.int (2 : Int32)), .val (.ref b1), .val (.int (8 : Int32)), .val (.ref b132), .unset, .unset] rfl 164 rfl ?_
      refine o_iloadN X134 at_164 rfl 165 rfl ?_
      refine o_i2l X134 at_165 166 rfl ?_
      refine o_lstore X134 at_166 #[.val (.int xs), .val (.int xa), .val (.int xb), .val (.int xc), .val (.int xd), .val (.int xe), .val (.int (4 : Int32)), .val (.int (2 : Int32)), .val (.ref b1), .val (.int (8 : Int32)), .val (.ref b132), .val (.long (Int32.toInt64 xa)), .second] rfl 168 rfl ?_
      refine o_iload X134 at_168 rfl 170 rfl ?_
      refine o_iconst (v := (1 : Int32)) X134 at_170 rfl 171 rfl ?_
      refine o_icmpLe X134 at_171 181 174 (by decide) (by decide) rfl (fun q => by exfalso; exact absurd q (by decide)) ?_
      intro hc171
      refine o_lload X134 at_174 rfl 176 rfl ?_
      refine o_iloadN X134 at_176 rfl 177 rfl ?_
      refine o_i2l X134 at_177 178 rfl ?_
      refine o_ladd X134 at_178 179 rfl ?_
      refine o_lstore X134 at_179 #[.val (.int xs), .val (.int xa), .val (.int xb), .val (.int xc), .val (.int xd), .val (.int xe), .val (.int (4 : Int32)), .val (.int (2 : Int32)), .val (.ref b1), .val (.int (8 : Int32)), .val (.ref b132), .val (.long ((Int32.toInt64 xa) + (Int32.toInt64 xb))), .second] rfl 181 rfl ?_
      refine o_iload X134 at_181 rfl 183 rfl ?_
      refine o_iconst (v := (2 : Int32)) X134 at_183 rfl 184 rfl ?_
      refine o_icmpLe X134 at_184 194 187 (by decide) (by decide) rfl (fun q => by exfalso; exact absurd q (by decide)) ?_
      intro hc184
      refine o_lload X134 at_187 rfl 189 rfl ?_
      refine o_iloadN X134 at_189 rfl 190 rfl ?_
      refine o_i2l X134 at_190 191 rfl ?_
      refine o_ladd X134 at_191 192 rfl ?_
      refine o_lstore X134 at_192 #[.val (.int xs), .val (.int xa), .val (.int xb), .val (.int xc), .val (.int xd), .val (.int xe), .val (.int (4 : Int32)), .val (.int (2 : Int32)), .val (.ref b1), .val (.int (8 : Int32)), .val (.ref b132), .val (.long (((Int32.toInt64 xa) + (Int32.toInt64 xb)) + (Int32.toInt64 xc))), .second] rfl 194 rfl ?_
      refine o_iload X134 at_194 rfl 196 rfl ?_
      refine o_iconst (v := (3 : Int32)) X134 at_196 rfl 197 rfl ?_
      refine o_icmpLe X134 at_197 208 200 (by decide) (by decide) rfl (fun q => by exfalso; exact absurd q (by decide)) ?_
      intro hc197
      refine o_lload X134 at_200 rfl 202 rfl ?_
      refine o_iload X134 at_202 rfl 204 rfl ?_
      refine o_i2l X134 at_204 205 rfl ?_
      refine o_ladd X134 at_205 206 rfl ?_
      refine o_lstore X134 at_206 #[.val (.int xs), .val (.int xa), .val (.int xb), .val (.int xc), .val (.int xd), .val (.int xe), .val (.int (4 : Int32)), .val (.int (2 : Int32)), .val (.ref b1), .val (.int (8 : Int32)), .val (.ref b132), .val (.long ((((Int32.toInt64 xa) + (Int32.toInt64 xb)) + (Int32.toInt64 xc)) + (Int32.toInt64 xd))), .second] rfl 208 rfl ?_
      refine o_aload X134 at_208 rfl rfl 210 rfl ?_
      refine o_iload X134 at_210 rfl 212 rfl ?_
      have H138 : OL n0 h134 ((b1, OA Z .int [xe, xe, xe, xe, xe, xe, xe, xe, xa, xb, xc, xd]) :: (b132, OO Z "com/example/palamedes/palamedes/lda/TopicModel" [("com/example/palamedes/palamedes/lda/TopicModel", "topics", "I", .int (4 : Int32)), ("com/example/palamedes/palamedes/lda/TopicModel", "words", "I", .int (3 : Int32)), ("com/example/palamedes/palamedes/lda/TopicModel", "alpha", "D", .double FP.dconst1), ("com/example/palamedes/palamedes/lda/TopicModel", "beta", "D", .double FP.dconst1), ("com/example/palamedes/palamedes/lda/TopicModel", "wordTopicCounts", "[I", .ref b1), ("com/example/palamedes/palamedes/lda/TopicModel", "topicCounts", "[I", .ref b133)]) :: (b133, OA Z .int [(0 : Int32), (0 : Int32), (0 : Int32), (0 : Int32)]) :: []) := H134.front 1 rfl
      have H139 : OL n0 h134 ((b132, OO Z "com/example/palamedes/palamedes/lda/TopicModel" [("com/example/palamedes/palamedes/lda/TopicModel", "topics", "I", .int (4 : Int32)), ("com/example/palamedes/palamedes/lda/TopicModel", "words", "I", .int (3 : Int32)), ("com/example/palamedes/palamedes/lda/TopicModel", "alpha", "D", .double FP.dconst1), ("com/example/palamedes/palamedes/lda/TopicModel", "beta", "D", .double FP.dconst1), ("com/example/palamedes/palamedes/lda/TopicModel", "wordTopicCounts", "[I", .ref b1), ("com/example/palamedes/palamedes/lda/TopicModel", "topicCounts", "[I", .ref b133)]) :: (b1, OA Z .int [xe, xe, xe, xe, xe, xe, xe, xe, xa, xb, xc, xd]) :: (b133, OA Z .int [(0 : Int32), (0 : Int32), (0 : Int32), (0 : Int32)]) :: []) := H138.front 1 rfl
      refine o_callV X134 H139 0 rfl at_212 (rest := []) (c_wt_4_2 l Z a0 hw [] n0 _ X134.size b132 b1 b133 (3 : Int32) FP.dconst1 FP.dconst1 xe xe xe xe xe xe xe xe xa xb xc xd ((b133, OA Z .int [(0 : Int32), (0 : Int32), (0 : Int32), (0 : Int32)]) :: []) H139) (hw _ (List.mem_of_getElem? (i := 23) rfl)) (hw _ (List.mem_of_getElem? (i := 24) rfl)) (hw _ (List.mem_of_getElem? (i := 26) rfl)) (hw _ (List.mem_of_getElem? (i := 25) rfl)) (hw _ (List.mem_of_getElem? (i := 4) rfl)) (hw _ (List.mem_of_getElem? (i := 27) rfl)) (by decide) 0 (by decide) (by decide) rfl [(.int (2 : Int32))] rfl pd_3 rfl rfl (Nat.le_of_eq rfl) 3 22 rfl rfl (by decide) (by decide) 215 rfl ?_
      rintro _ T137 _ X137 ⟨rfl, rfl⟩
      show OE p e room_1 below s n0 Q' T137 (mkF m 215 #[.val (.int xs), .val (.int xa), .val (.int xb), .val (.int xc), .val (.int xd), .val (.int xe), .val (.int (4 : Int32)), .val (.int (2 : Int32)), .val (.ref b1), .val (.int (8 : Int32)), .val (.ref b132), .val (.long ((((Int32.toInt64 xa) + (Int32.toInt64 xb)) + (Int32.toInt64 xc)) + (Int32.toInt64 xd))), .second] [(.long (((((0 : Int64) + (Int32.toInt64 xa)) + (Int32.toInt64 xb)) + (Int32.toInt64 xc)) + (Int32.toInt64 xd)))])
      refine o_lload X137 at_215 rfl 217 rfl ?_
      refine o_lcmp X137 at_217 218 rfl ?_
      refine o_ifNe X137 at_218 225 221 (by decide) (by decide) rfl (fun q => by exfalso; exact q ((v_cmp0 _ _).mpr (by simp only [Int64.zero_add]))) ?_
      intro hc218
      refine o_iconst (v := (1 : Int32)) X137 at_221 rfl 222 rfl ?_
      refine o_goto X137 at_222 226 (by decide) (by decide) ?_
      exact o_retZ X137 at_226 (by decide) (by decide) (hQ _ _ rfl)
set_option maxRecDepth 65536 in
set_option maxHeartbeats 40000000 in
theorem comes_1 {Post : Tables → Env → Array Value → State → Outcome → State → Prop} (hpost : ∀ tb e args s v u, (limb_1_1.after args s (.returned v) u = true ∧ limb_1_2.after args s (.returned v) u = true ∧ True) → FrameEnd s (.returned v) u (Jvm.fieldLocs frame_1_writes args s ++ Jvm.arrayLocs frame_1_arrays args s ++ Jvm.staticLocs frame_1_statics s) 16 128 → Post tb e args s (.returned v) u) :
    ArmFor flags0 classFile x code maxLocals ret World_1 tables_1 room_1 Calls_1 rest_1 Pre_1 Post := by
  intro l hfl _ _ p e ha hc hk s m args below hf hA hF happ hP
  obtain ⟨hcalls, hrest, hpre⟩ := hP
  obtain ⟨-, -, -, hnamed, -, -, -, hat⟩ := (Spec.applies_iff hf).mp happ
  obtain ⟨hg, hn⟩ := and_e (Cond.before_iff.mp (show (Jvm.Cond.and given_1 narrow_1).before args s = true from hpre))
  obtain ⟨hcnt, hg0⟩ := and_e hg
  obtain ⟨ha0, hg1⟩ := and_e hg0
  obtain ⟨ha1, hg2⟩ := and_e hg1
  obtain ⟨ha2, hg3⟩ := and_e hg2
  obtain ⟨ha3, hg4⟩ := and_e hg3
  obtain ⟨ha4, hg5⟩ := and_e hg4
  have ha5 := hg5
  obtain ⟨w0, w1, w2, w3, w4, w5, rfl⟩ : ∃ w0 w1 w2 w3 w4 w5 : Value, args = #[w0, w1, w2, w3, w4, w5] := by
    have hs : args.size = 6 := by simpa [Cond.value, given_1] using hcnt
    obtain ⟨L⟩ := args
    match L, hs with
    | [w0, w1, w2, w3, w4, w5], _ => exact ⟨w0, w1, w2, w3, w4, w5, rfl⟩
  have hw := fun d (hd : d ∈ tables_1) => atoms_spec (ws := Jvm.Cond.code x code maxLocals ret :: tables_1) hat d (List.mem_cons_of_mem _ hd)
  obtain ⟨i0, ei0⟩ := is_v ha0
  obtain rfl : w0 = (.int i0) := Option.some.inj ei0
  obtain ⟨i1, ei1⟩ := is_v ha1
  obtain rfl : w1 = (.int i1) := Option.some.inj ei1
  obtain ⟨i2, ei2⟩ := is_v ha2
  obtain rfl : w2 = (.int i2) := Option.some.inj ei2
  obtain ⟨i3, ei3⟩ := is_v ha3
  obtain rfl : w3 = (.int i3) := Option.some.inj ei3
  obtain ⟨i4, ei4⟩ := is_v ha4
  obtain rfl : w4 = (.int i4) := Option.some.inj ei4
  obtain ⟨i5, ei5⟩ := is_v ha5
  obtain rfl : w5 = (.int i5) := Option.some.inj ei5
  obtain ⟨n, o, h1, h2, h3, _, L, rfl, ⟨rfl, N⟩, hq⟩ := c_law l s _ hw tables_1 s.heap.size s.heap (Nat.le_refl _) i0 i1 i2 i3 i4 i5 p e ha hc hk s m _ below hf ((Spec.applies_iff_loose hf).mp happ).1 ⟨rfl, State.Warmed39.refl s, rfl⟩ trivial
  refine ⟨n, _, h1, h2, h3, hpost _ _ _ _ _ _ ⟨Cond.after_iff.mpr rfl, Cond.after_iff.mpr (eq_i res_at (Term.int_eval (1)) rfl), trivial⟩ ⟨hq.1, hq.2.1, (hq.2.2.sift fun y hy => Or.inr (N y hy)).mono (by decide) (by decide)⟩⟩
theorem main_1_1 : Claimed_1_1 := comes_1 fun _ _ _ _ _ _ h hF => ⟨h.1, hF⟩
theorem main_1_2 : Claimed_1_2 := comes_1 fun _ _ _ _ _ _ h hF => ⟨h.2.1, hF⟩
end Jvm.Pilot.@@N@@
namespace Jvm.Pilot.@@N@@
open Jvm Jvm.ClassFile Sem Op Lib Jvm.Free Jvm.Stand Jvm.Pilot.@@N@@.Jvm.D
/-! MADE BY PROGRAM (witnessworld.py) out of the Statement's table words and the real class files: 9 classes; the members and pool entries that the words name. The judged class is class 1, her method 1. -/
namespace start1
open Jvm.ClassFile
def u (s : String) : CpInfo := .utf8 (stringToUtf16 s)
/-- a pool by its gaps: so many unusable entries, then the entry; so many at the end -/
def gap : Nat → List CpInfo → List CpInfo
  | 0, r => r
  | n + 1, r => .unusable :: gap n r
def poolList (es : List (Nat × CpInfo)) (last : Nat) : List CpInfo := es.foldr (fun e r => gap e.1 (e.2 :: r)) (gap last [])
def pool (es : List (Nat × CpInfo)) (last : Nat) : Array CpInfo := ⟨poolList es last⟩
def fileOf (pool : Array CpInfo) (this : Nat) (attrs : Array Attribute := #[]) (ms : Array MethodInfo := #[]) (fl : Nat := 33) (sup : Nat := 0) (ifs : Array Nat := #[]) (fds : Array FieldInfo := #[]) : ClassFile where
  minorVersion := 0
  majorVersion := 65
  constantPool := pool
  accessFlags := fl
  thisClass := this
  superClass := sup
  interfaces := ifs
  fields := fds
  methods := ms
  attributes := attrs
def plain (name : String) (sup : Option ClassId) : Class where
  name := name
  kind := .ordinary
  loader := none
  accessFlags := 33
  super := sup
  interfaces := #[]
  cf := none
  fields := #[]
  methods := #[]
  instanceTypes := #[]
  staticTypes := #[]
  resolved := #[]
  callSites := []
  init := .initialized
  statics := none
  mirror := none

def pool0 : Array CpInfo := pool [(5, u "<init>"), (0, u "()V"), (1, .class_ 10), (1, u "java/lang/Object")] 113

def k0c0 : Code := { maxStack := 0, maxLocals := 1, code := object_method_1_code, exceptionTable := #[], attributes := #[] }
def k0m0 : Method := { name := "<init>", desc := "()V", sig := { parameters := [], returnType := none }, accessFlags := 1, code := some k0c0 }
/-- java/lang/Object -/
def k0 : Class := { plain "java/lang/Object" none with
  accessFlags := 33
  interfaces := #[]
  cf := some (fileOf pool0 8 #[] #[{ accessFlags := 1, nameIndex := 5, descriptorIndex := 6, attributes := #[] }] 33 0 #[] #[])
  fields := #[]
  methods := #[k0m0]
  instanceTypes := #[]
  staticTypes := #[]
  resolved := Array.replicate 124 none
  statics := none }

def pool1 : Array CpInfo := pool [(2, .class_ 4), (1, u "java/lang/Object"), (0, u "<init>"), (0, u "()V"), (0, .integer 2147483647), (0, .class_ 9), (0, u "com/example/palamedes/palamedes/lda/TopicModel"), (0, .methodref 8 11), (0, .nameAndType 5 12), (0, u "(IIDD[I[I)V"), (0, .methodref 8 14), (0, .nameAndType 15 16), (0, u "wordTokens"), (0, u "(I)J"), (0, .class_ 18), (0, u "com/example/palamedes/palamedes/lda/TopicModelWordTokensPinLaw"), (2, u "law"), (0, u "(IIIIII)Z")] 5

def k1m0 : Method := { name := "<init>", desc := "()V", sig := { parameters := [], returnType := none }, accessFlags := 1, code := none }
def k1c1 : Code := { maxStack := 10, maxLocals := 13, code := code, exceptionTable := #[], attributes := #[] }
def k1m1 : Method := { name := "law", desc := "(IIIIII)Z", sig := { parameters := [.int, .int, .int, .int, .int, .int], returnType := some .boolean }, accessFlags := 9, code := some k1c1 }
/-- com/example/palamedes/palamedes/lda/TopicModelWordTokensPinLaw -/
def k1 : Class := { plain "com/example/palamedes/palamedes/lda/TopicModelWordTokensPinLaw" (some 0) with
  accessFlags := 49
  interfaces := #[]
  cf := some (fileOf pool1 17 #[] #[{ accessFlags := 1, nameIndex := 5, descriptorIndex := 6, attributes := #[] }, { accessFlags := 9, nameIndex := 21, descriptorIndex := 22, attributes := #[] }] 49 2 #[] #[])
  fields := #[]
  methods := #[k1m0, k1m1]
  instanceTypes := #[]
  staticTypes := #[]
  resolved := Array.replicate 28 none
  statics := none }

def pool2 : Array CpInfo := pool [(1, .methodref 2 3), (0, .class_ 4), (0, .nameAndType 5 6), (0, u "java/lang/Object"), (0, u "<init>"), (0, u "()V"), (0, .fieldref 8 9), (0, .class_ 10), (0, .nameAndType 11 12), (0, u "com/example/palamedes/palamedes/lda/TopicModel"), (0, u "topics"), (0, u "I"), (0, .fieldref 8 14), (0, .nameAndType 15 12), (0, u "words"), (0, .fieldref 8 17), (0, .nameAndType 18 19), (0, u "alpha"), (0, u "D"), (0, .fieldref 8 21), (0, .nameAndType 22 19), (0, u "beta"), (0, .fieldref 8 24), (0, .nameAndType 25 26), (0, u "wordTopicCounts"), (0, u "[I"), (0, .fieldref 8 28), (0, .nameAndType 29 26), (0, u "topicCounts"), (5, u "(IIDD[I[I)V"), (4, u "wordTokens"), (0, u "(I)J")] 5

def k2c0 : Code := { maxStack := 3, maxLocals := 9, code := prog_43_method_1_code, exceptionTable := #[], attributes := #[] }
def k2m0 : Method := { name := "<init>", desc := "(IIDD[I[I)V", sig := { parameters := [.int, .int, .double, .double, (.array .int), (.array .int)], returnType := none }, accessFlags := 0, code := some k2c0 }
def k2c1 : Code := { maxStack := 5, maxLocals := 5, code := prog_43_method_6_code, exceptionTable := #[], attributes := #[] }
def k2m1 : Method := { name := "wordTokens", desc := "(I)J", sig := { parameters := [.int], returnType := some .long }, accessFlags := 0, code := some k2c1 }
/-- com/example/palamedes/palamedes/lda/TopicModel -/
def k2 : Class := { plain "com/example/palamedes/palamedes/lda/TopicModel" (some 0) with
  accessFlags := 49
  interfaces := #[]
  cf := some (fileOf pool2 8 #[] #[{ accessFlags := 0, nameIndex := 5, descriptorIndex := 35, attributes := #[] }, { accessFlags := 0, nameIndex := 40, descriptorIndex := 41, attributes := #[] }] 49 2 #[] #[{ accessFlags := 18, nameIndex := 11, descriptorIndex := 12, attributes := #[] }, { accessFlags := 18, nameIndex := 15, descriptorIndex := 12, attributes := #[] }, { accessFlags := 18, nameIndex := 18, descriptorIndex := 19, attributes := #[] }, { accessFlags := 18, nameIndex := 22, descriptorIndex := 19, attributes := #[] }, { accessFlags := 16, nameIndex := 25, descriptorIndex := 26, attributes := #[] }, { accessFlags := 16, nameIndex := 29, descriptorIndex := 26, attributes := #[] }])
  fields := #[{ name := "topics", type := .int, accessFlags := 18, slot := 0, constantValue := 0 }, { name := "words", type := .int, accessFlags := 18, slot := 1, constantValue := 0 }, { name := "alpha", type := .double, accessFlags := 18, slot := 2, constantValue := 0 }, { name := "beta", type := .double, accessFlags := 18, slot := 3, constantValue := 0 }, { name := "wordTopicCounts", type := (.array .int), accessFlags := 16, slot := 4, constantValue := 0 }, { name := "topicCounts", type := (.array .int), accessFlags := 16, slot := 5, constantValue := 0 }]
  methods := #[k2m0, k2m1]
  instanceTypes := #[.int, .int, .double, .double, (.array .int), (.array .int)]
  staticTypes := #[]
  resolved := Array.replicate 47 none
  statics := none }

def pool3 : Array CpInfo := pool [(1, u "java/lang/Cloneable"), (0, .class_ 1), (0, u "java/lang/Object"), (0, .class_ 3)] 3

/-- java/lang/Cloneable -/
def k3 : Class := { plain "java/lang/Cloneable" (some 0) with
  accessFlags := 1537
  interfaces := #[]
  cf := some (fileOf pool3 2 #[] #[] 1537 4 #[] #[])
  fields := #[]
  methods := #[]
  instanceTypes := #[]
  staticTypes := #[]
  resolved := Array.replicate 8 none
  statics := none }

def pool4 : Array CpInfo := pool [(1, u "java/io/Serializable"), (0, .class_ 1), (0, u "java/lang/Object"), (0, .class_ 3)] 3

/-- java/io/Serializable -/
def k4 : Class := { plain "java/io/Serializable" (some 0) with
  accessFlags := 1537
  interfaces := #[]
  cf := some (fileOf pool4 2 #[] #[] 1537 4 #[] #[])
  fields := #[]
  methods := #[]
  instanceTypes := #[]
  staticTypes := #[]
  resolved := Array.replicate 8 none
  statics := none }

/-- the primitive byte -/
def k5 : Class := { plain "byte" none with kind := .primitive 'B', accessFlags := 0x411 }
/-- [B -/
def k6 : Class := { plain "[B" (some 0) with kind := .array 5 .byte, interfaces := #[3, 4], accessFlags := 1041 }

/-- the primitive int -/
def k7 : Class := { plain "int" none with kind := .primitive 'I', accessFlags := 0x411 }
/-- [I -/
def k8 : Class := { plain "[I" (some 0) with kind := .array 7 .int, interfaces := #[3, 4], accessFlags := 1041 }

def heap : Heap := #[]
def classes : Array Class := #[k0, k1, k2, k3, k4, k5, k6, k7, k8]
def interned : List (Array UInt16 × Addr) := []
def slotsUsed : Nat := 0
def theMethod : MethodId := ⟨1, 1⟩
def args0 : Array Value := #[.int 5, .int 3, .int 4, .int 2, .int 1, .int 9]
def aboutOver (below : List Frame) : State where
  vm := { classes := classes, interned := interned.toArray }
  heap := heap
  slotsUsed := slotsUsed
  threads := #[{ frames := .invoking theMethod args0 :: below }]
def below0 : List Frame := [.native { method := ⟨0, 0⟩, args := #[] }]
def about1 : State := aboutOver below0
def p0 : Program := .bare "" "" ""
def e0 : Env := launch0.env 0 0 0
theorem w_frames : about1.frames = Frame.invoking theMethod args0 :: below0 := rfl
set_option maxRecDepth 65536 in
theorem w_args : argsFit about1.vm theMethod args0 = true := by decide +kernel
set_option maxRecDepth 65536 in
theorem w_heap : heapFits about1 = true := by decide +kernel
set_option maxRecDepth 65536 in
theorem w_runnable : about1.curStatus? = some .runnable := by decide +kernel
set_option maxRecDepth 65536 in
theorem w_alone : about1.alone = true := by decide +kernel
set_option maxRecDepth 65536 in
theorem w_named : about1.methodNamed? x = some theMethod := by decide +kernel
set_option maxRecDepth 65536 in
theorem w_hears : about1.hears theMethod below0 = true := by decide +kernel
set_option maxRecDepth 65536 in
theorem w_ripe : about1.ripe theMethod args0 below0 = true := by decide +kernel
theorem w_running : about1.status = .running := rfl
set_option maxRecDepth 65536 in
theorem w_room : about1.hasRoom e0.platform room_1 = true :=
  launch0.hasRoom_least _ room_1 (by decide +kernel) (by decide +kernel) (by decide +kernel) (by decide +kernel) (by decide +kernel) (by decide +kernel)
theorem allAtoms_all (ts : List Jvm.Cond) (a : Array Jvm.Value) (st : Jvm.State) : (allAtoms ts).before a st = ts.all (fun c => c.before a st) := by
  induction ts with
  | nil => rfl
  | cons c t ih =>
    show (Jvm.Cond.and c (allAtoms t)).before a st = _
    rw [Jvm.Cond.before_and, ih, List.all_cons]
def words1 : List Jvm.Cond := Jvm.Cond.code x code maxLocals ret :: tables_1
/-- a 'code' word, met by the world's own term for the bytes: nothing is compared byte by byte -/
theorem code_word {y : MethodName} {bytes : ByteArray} {mx : Nat} {rt : Option FieldType} {a : Array Value} {s : State} {m : MethodId} {meth : Method} {c : Code} (h1 : s.methodNamed? y = some m) (h2 : s.vm.method? m = some meth) (h3 : meth.code = some c) (h4 : c.code = bytes)
    (h5 : (c.maxLocals == mx && c.exceptionTable.isEmpty && decide (c.maxStack ≤ mostOperands) && decide (meth.sig.returnType = rt) && !meth.locks && decide (parseMethodDescriptor y.desc = some meth.sig)) = true) : (Jvm.Cond.code y bytes mx rt).before a s = true := by
  simp only [Bool.and_eq_true, beq_iff_eq, Bool.not_eq_true', decide_eq_true_eq] at h5
  obtain ⟨⟨⟨⟨⟨g1, g2⟩, g3⟩, g4⟩, g5⟩, g6⟩ := h5
  simp [Cond.before, Cond.holds, Cond.value, h1, h2, h3, h4, g1, g2, g3, g4, g5, g6]
def isCode : Jvm.Cond → Bool
  | .code _ _ _ _ => true
  | _ => false
theorem all_split {L : List Jvm.Cond} {P : Jvm.Cond → Bool} (h1 : L.all (fun c => isCode c || P c) = true) (h2 : ∀ c ∈ L.filter isCode, P c = true) : L.all P = true := by
  refine List.all_eq_true.mpr fun c hc => ?_
  have h := List.all_eq_true.mp h1 c hc
  rcases Bool.eq_false_or_eq_true (isCode c) with hi | hi
  · exact h2 c (List.mem_filter.mpr ⟨hc, hi⟩)
  · simpa [hi] using h
set_option maxRecDepth 65536 in
theorem w_c0 : (Jvm.Cond.code x code maxLocals ret).before args0 about1 = true := code_word (m := ⟨1, 1⟩) (meth := k1m1) (c := k1c1) (by decide +kernel) rfl rfl rfl (by decide +kernel)
set_option maxRecDepth 65536 in
theorem w_c1 : (Jvm.Cond.code ({ cls := "com/example/palamedes/palamedes/lda/TopicModel", name := "<init>", desc := "(IIDD[I[I)V" } : Jvm.MethodName) prog_43_method_1_code (9 : Nat) (Option.none : Option Jvm.ClassFile.FieldType)).before args0 about1 = true := code_word (m := ⟨2, 0⟩) (meth := k2m0) (c := k2c0) (by decide +kernel) rfl rfl rfl (by decide +kernel)
set_option maxRecDepth 65536 in
theorem w_c2 : (Jvm.Cond.code ({ cls := "java/lang/Object", name := "<init>", desc := "()V" } : Jvm.MethodName) object_method_1_code (1 : Nat) (Option.none : Option Jvm.ClassFile.FieldType)).before args0 about1 = true := code_word (m := ⟨0, 0⟩) (meth := k0m0) (c := k0c0) (by decide +kernel) rfl rfl rfl (by decide +kernel)
set_option maxRecDepth 65536 in
theorem w_c3 : (Jvm.Cond.code ({ cls := "com/example/palamedes/palamedes/lda/TopicModel", name := "wordTokens", desc := "(I)J" } : Jvm.MethodName) prog_43_method_6_code (5 : Nat) (Option.some Jvm.ClassFile.FieldType.long)).before args0 about1 = true := code_word (m := ⟨2, 1⟩) (meth := k2m1) (c := k2c1) (by decide +kernel) rfl rfl rfl (by decide +kernel)
def codes1 : List Jvm.Cond := [Jvm.Cond.code x code maxLocals ret, Jvm.Cond.code ({ cls := "com/example/palamedes/palamedes/lda/TopicModel", name := "<init>", desc := "(IIDD[I[I)V" } : Jvm.MethodName) prog_43_method_1_code (9 : Nat) (Option.none : Option Jvm.ClassFile.FieldType), Jvm.Cond.code ({ cls := "java/lang/Object", name := "<init>", desc := "()V" } : Jvm.MethodName) object_method_1_code (1 : Nat) (Option.none : Option Jvm.ClassFile.FieldType), Jvm.Cond.code ({ cls := "com/example/palamedes/palamedes/lda/TopicModel", name := "wordTokens", desc := "(I)J" } : Jvm.MethodName) prog_43_method_6_code (5 : Nat) (Option.some Jvm.ClassFile.FieldType.long)]
set_option maxRecDepth 65536 in
theorem codes_eq : words1.filter isCode = codes1 := rfl
theorem w_codes : ∀ c ∈ words1.filter isCode, c.before args0 about1 = true := by
  rw [codes_eq]
  intro c hc
  simp only [codes1, List.mem_cons, List.not_mem_nil, or_false] at hc
  rcases hc with rfl | rfl | rfl | rfl
  · exact w_c0
  · exact w_c1
  · exact w_c2
  · exact w_c3
set_option maxRecDepth 65536 in
theorem w_t1 : (words1.take 24).all (fun c => isCode c || c.before args0 about1) = true := by decide +kernel
set_option maxRecDepth 65536 in
theorem w_t2 : (words1.drop 24).all (fun c => isCode c || c.before args0 about1) = true := by decide +kernel
theorem w_tables : (allAtoms (Jvm.Cond.code x code maxLocals ret :: tables_1)).before args0 about1 = true := by
  rw [allAtoms_all]
  show words1.all (fun c => c.before args0 about1) = true
  refine all_split ?_ w_codes
  rw [← List.take_append_drop 24 words1, List.all_append, w_t1, w_t2]
  rfl
set_option maxRecDepth 65536 in
theorem w_case : (Jvm.Cond.and given_1 narrow_1).before args0 about1 = true := by decide +kernel
theorem w_applies : (headSpec (Jvm.Cond.code x code maxLocals ret :: tables_1) room_1).applies x e0.platform about1 = true :=
  (Spec.applies_iff w_frames).mpr ⟨w_running, w_runnable, w_alone, w_named, w_hears, w_ripe, w_room, w_tables⟩
theorem atStart : AtStart classFile x code maxLocals ret World_1 tables_1 room_1 Calls_1 rest_1 Pre_1 launch0 p0 e0 about1 theMethod args0 below0 :=
  ⟨lists_1, trivial, launch0.admits_env _ _ _, launch0.least_env, fairChoices_fair.cas, fairChoices_fair.clock, w_frames, w_args, w_heap, w_applies, trivial, trivial, w_case⟩
end start1
theorem witness_1 : WitnessClaimed_1 := ⟨start1.p0, start1.e0, start1.about1, start1.theMethod, start1.args0, start1.below0, start1.atStart⟩
end Jvm.Pilot.@@N@@
