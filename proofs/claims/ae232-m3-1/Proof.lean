import JvmDerived
import JvmDerived.Pilot.@@N@@Statement
import JvmDerived.Pilot.@@N@@Code
set_option linter.unusedVariables false
set_option linter.unusedSimpArgs false
@@BLOCK:NumsL.lean.txt@@
namespace Jvm.Pilot.@@N@@
open Jvm Jvm.ClassFile Sem Op Lib Jvm.Free Jvm.Stand Jvm.LawKit Jvm.RoadKit Bundle Jvm.Pilot.@@N@@.Jvm.D
section OwnKit
variable {p : Program} {l : Launch} {e : Env} {R : Room} {s : State} {m : MethodId} {args : Array Value} {below : List Frame} {meth : Method} {c : Code} {T T' : State} {Z : State} {h : Heap} {n0 k n mx : Nat} {y : MethodName} {bytes : ByteArray} {ret : Option FieldType} {Q : Option Value → Heap → Prop} {pc : Nat} {Ls : Array Slot} {st rest : List Value} {a0 : Array Value} {g g' : JFrame} {EP : Outcome → State → List Loc → Prop} {n1 : Nat}
/-- where a body's walk stands: all that its steps ask, bundled -/
def OW (p : Program) (l : Launch) (e : Env) (R : Room) (s : State) (m : MethodId) (args : Array Value) (below : List Frame) (meth : Method) (c : Code) (Z : State) (y : MethodName) (bytes : ByteArray) (mx : Nat) (ret : Option FieldType) (n0 : Nat) (T : State) (h : Heap) (k n : Nat) : Prop :=
  p.tables.exec = Jvm.exec ∧ Z.Warmed39 s.vm ∧ s.vm.findClass y.cls = some m.cls ∧ c.code = bytes ∧ c.maxLocals = mx ∧ meth.sig.returnType = ret ∧ meth.name = y.name ∧ meth.locks = false ∧ n0 ≤ s.heap.size ∧ T.heap = h ∧ ∃ locs, Stand p l e R s m args below meth c T locs k n ∧ Fr n0 locs
/-- how a body must end: FE, the narrow end -/
def FE (s : State) (R : Room) : Outcome → State → List Loc → Prop := fun o t L => FrameEnd s o t L R.cells R.slots
/-- what a body owes from the frame g on: it returns, Q holds of what it returns and of the heap, and its end is EP's -/
def OE (p : Program) (e : Env) (EP : Outcome → State → List Loc → Prop) (below : List Frame) (n0 : Nat) (Q : Option Value → Heap → Prop) (T : State) (g : JFrame) : Prop :=
  ∃ t o, Steps p.tables e below (T.setTop g) t ∧ t.status = .running ∧ Ended t below o ∧ ∃ v L, o = .returned v ∧ (Q v t.heap ∧ Fr n0 L) ∧ EP o t L
theorem OE.by (hs : ∀ t, Steps p.tables e below (T'.setTop g') t → Steps p.tables e below (T.setTop g) t) (K : OE p e EP below n0 Q T' g') : OE p e EP below n0 Q T g := by
  obtain ⟨t, o, h1, r⟩ := K; exact ⟨t, o, hs t h1, r⟩
theorem OW.size (X : OW p l e R s m args below meth c Z y bytes mx ret n0 T h k n) : n0 ≤ h.size := by
  obtain ⟨-, -, -, -, -, -, -, -, h0, rfl, locs, S, -⟩ := X
  exact Nat.le_trans h0 S.same.2.1
theorem OW.more (X : OW p l e R s m args below meth c Z y bytes mx ret n0 T h k n) {k' n' : Nat} (hk : k ≤ k') (hn : n ≤ n') : OW p l e R s m args below meth c Z y bytes mx ret n0 T h k' n' := by
  obtain ⟨h1, h2, h3, h4, h5, h6, h7, h8, h9, h10, locs, S, N⟩ := X
  exact ⟨h1, h2, h3, h4, h5, h6, h7, h8, h9, h10, locs, S.more hk hn, N⟩
theorem o_iloadN (X : OW p l e R s m args below meth c Z y bytes mx ret n0 T h k n) {j : Fin 4} {v : Int32} (hd : decode bytes pc = .ok (.iload_n j, 1)) (hl : Ls[j.val]? = some (.val (.int v))) (pc' : Nat) (hp : pc + 1 = pc') (K : OE p e EP below n0 Q T (mkF m pc' Ls (.int v :: st))) : OE p e EP below n0 Q T (mkF m pc Ls st) := by
  obtain ⟨hx, hZ, hown, hby, hmx, hret, hnm, hlk, h0, hT, locs, S, N⟩ := X; subst hp
  exact OE.by (fun t q => XS.iloadN S.here hx rfl (hb hby hd) hl q) K
theorem o_iload (X : OW p l e R s m args below meth c Z y bytes mx ret n0 T h k n) {j : Nat} {v : Int32} (hd : decode bytes pc = .ok (.iload j, 2)) (hl : Ls[j]? = some (.val (.int v))) (pc' : Nat) (hp : pc + 2 = pc') (K : OE p e EP below n0 Q T (mkF m pc' Ls (.int v :: st))) : OE p e EP below n0 Q T (mkF m pc Ls st) := by
  obtain ⟨hx, hZ, hown, hby, hmx, hret, hnm, hlk, h0, hT, locs, S, N⟩ := X; subst hp
  exact OE.by (fun t q => XS.iload S.here hx rfl (hb hby hd) hl q) K
theorem o_aloadN (X : OW p l e R s m args below meth c Z y bytes mx ret n0 T h k n) {j : Fin 4} {v : Value} (hd : decode bytes pc = .ok (.aload_n j, 1)) (hl : Ls[j.val]? = some (.val v)) (hv : v.isRef = true) (pc' : Nat) (hp : pc + 1 = pc') (K : OE p e EP below n0 Q T (mkF m pc' Ls (v :: st))) : OE p e EP below n0 Q T (mkF m pc Ls st) := by
  obtain ⟨hx, hZ, hown, hby, hmx, hret, hnm, hlk, h0, hT, locs, S, N⟩ := X; subst hp
  exact OE.by (fun t q => XS.aloadN S.here hx rfl (hb hby hd) hl hv q) K
theorem o_aload (X : OW p l e R s m args below meth c Z y bytes mx ret n0 T h k n) {j : Nat} {v : Value} (hd : decode bytes pc = .ok (.aload j, 2)) (hl : Ls[j]? = some (.val v)) (hv : v.isRef = true) (pc' : Nat) (hp : pc + 2 = pc') (K : OE p e EP below n0 Q T (mkF m pc' Ls (v :: st))) : OE p e EP below n0 Q T (mkF m pc Ls st) := by
  obtain ⟨hx, hZ, hown, hby, hmx, hret, hnm, hlk, h0, hT, locs, S, N⟩ := X; subst hp
  exact OE.by (fun t q => XS.aload S.here hx rfl (hb hby hd) hl hv q) K
theorem o_lloadN (X : OW p l e R s m args below meth c Z y bytes mx ret n0 T h k n) {j : Fin 4} {v : Int64} (hd : decode bytes pc = .ok (.lload_n j, 1)) (hl : Ls[j.val]? = some (.val (.long v))) (pc' : Nat) (hp : pc + 1 = pc') (K : OE p e EP below n0 Q T (mkF m pc' Ls (.long v :: st))) : OE p e EP below n0 Q T (mkF m pc Ls st) := by
  obtain ⟨hx, hZ, hown, hby, hmx, hret, hnm, hlk, h0, hT, locs, S, N⟩ := X; subst hp
  exact OE.by (fun t q => XT.lloadN S.here hx rfl (hb hby hd) hl q) K
theorem o_lload (X : OW p l e R s m args below meth c Z y bytes mx ret n0 T h k n) {j : Nat} {v : Int64} (hd : decode bytes pc = .ok (.lload j, 2)) (hl : Ls[j]? = some (.val (.long v))) (pc' : Nat) (hp : pc + 2 = pc') (K : OE p e EP below n0 Q T (mkF m pc' Ls (.long v :: st))) : OE p e EP below n0 Q T (mkF m pc Ls st) := by
  obtain ⟨hx, hZ, hown, hby, hmx, hret, hnm, hlk, h0, hT, locs, S, N⟩ := X; subst hp
  exact OE.by (fun t q => XT.lload S.here hx rfl (hb hby hd) hl q) K
theorem o_iconst (X : OW p l e R s m args below meth c Z y bytes mx ret n0 T h k n) {i : Int} {v : Int32} (hd : decode bytes pc = .ok (.iconst i, 1)) (hv : Int32.ofInt i = v) (pc' : Nat) (hp : pc + 1 = pc') (K : OE p e EP below n0 Q T (mkF m pc' Ls (.int v :: st))) : OE p e EP below n0 Q T (mkF m pc Ls st) := by
  obtain ⟨hx, hZ, hown, hby, hmx, hret, hnm, hlk, h0, hT, locs, S, N⟩ := X; subst hp hv
  exact OE.by (fun t q => XS.iconst S.here hx rfl (hb hby hd) q) K
theorem o_bipush (X : OW p l e R s m args below meth c Z y bytes mx ret n0 T h k n) {i : Int} {v : Int32} (hd : decode bytes pc = .ok (.bipush i, 2)) (hv : (Int8.ofInt i).toInt32 = v) (pc' : Nat) (hp : pc + 2 = pc') (K : OE p e EP below n0 Q T (mkF m pc' Ls (.int v :: st))) : OE p e EP below n0 Q T (mkF m pc Ls st) := by
  obtain ⟨hx, hZ, hown, hby, hmx, hret, hnm, hlk, h0, hT, locs, S, N⟩ := X; subst hp hv
  exact OE.by (fun t q => XS.bipush S.here hx rfl (hb hby hd) q) K
theorem o_sipush (X : OW p l e R s m args below meth c Z y bytes mx ret n0 T h k n) {i : Int} {v : Int32} (hd : decode bytes pc = .ok (.sipush i, 3)) (hv : (Int16.ofInt i).toInt32 = v) (pc' : Nat) (hp : pc + 3 = pc') (K : OE p e EP below n0 Q T (mkF m pc' Ls (.int v :: st))) : OE p e EP below n0 Q T (mkF m pc Ls st) := by
  obtain ⟨hx, hZ, hown, hby, hmx, hret, hnm, hlk, h0, hT, locs, S, N⟩ := X; subst hp hv
  exact OE.by (fun t q => XS.sipush S.here hx rfl (hb hby hd) q) K
theorem o_lconst (X : OW p l e R s m args below meth c Z y bytes mx ret n0 T h k n) {i : Fin 2} {v : Int64} (hd : decode bytes pc = .ok (.lconst i, 1)) (hv : Int64.ofNat i = v) (pc' : Nat) (hp : pc + 1 = pc') (K : OE p e EP below n0 Q T (mkF m pc' Ls (.long v :: st))) : OE p e EP below n0 Q T (mkF m pc Ls st) := by
  obtain ⟨hx, hZ, hown, hby, hmx, hret, hnm, hlk, h0, hT, locs, S, N⟩ := X; subst hp hv
  exact OE.by (fun t q => XT.lconst S.here hx rfl (hb hby hd) q) K
theorem o_iadd (X : OW p l e R s m args below meth c Z y bytes mx ret n0 T h k n) {x z : Int32} (hd : decode bytes pc = .ok (.iadd, 1))  (pc' : Nat) (hp : pc + 1 = pc') (K : OE p e EP below n0 Q T (mkF m pc' Ls (.int (x + z) :: st))) : OE p e EP below n0 Q T (mkF m pc Ls (.int z :: .int x :: st)) := by
  obtain ⟨hx, hZ, hown, hby, hmx, hret, hnm, hlk, h0, hT, locs, S, N⟩ := X; subst hp
  exact OE.by (fun t q => XS.iadd S.here hx rfl (hb hby hd) rfl q) K
theorem o_isub (X : OW p l e R s m args below meth c Z y bytes mx ret n0 T h k n) {x z : Int32} (hd : decode bytes pc = .ok (.isub, 1))  (pc' : Nat) (hp : pc + 1 = pc') (K : OE p e EP below n0 Q T (mkF m pc' Ls (.int (x - z) :: st))) : OE p e EP below n0 Q T (mkF m pc Ls (.int z :: .int x :: st)) := by
  obtain ⟨hx, hZ, hown, hby, hmx, hret, hnm, hlk, h0, hT, locs, S, N⟩ := X; subst hp
  exact OE.by (fun t q => XS.isub S.here hx rfl (hb hby hd) rfl q) K
theorem o_imul (X : OW p l e R s m args below meth c Z y bytes mx ret n0 T h k n) {x z : Int32} (hd : decode bytes pc = .ok (.imul, 1))  (pc' : Nat) (hp : pc + 1 = pc') (K : OE p e EP below n0 Q T (mkF m pc' Ls (.int (x * z) :: st))) : OE p e EP below n0 Q T (mkF m pc Ls (.int z :: .int x :: st)) := by
  obtain ⟨hx, hZ, hown, hby, hmx, hret, hnm, hlk, h0, hT, locs, S, N⟩ := X; subst hp
  exact OE.by (fun t q => XS.imul S.here hx rfl (hb hby hd) rfl q) K
theorem o_iand (X : OW p l e R s m args below meth c Z y bytes mx ret n0 T h k n) {x z : Int32} (hd : decode bytes pc = .ok (.iand, 1))  (pc' : Nat) (hp : pc + 1 = pc') (K : OE p e EP below n0 Q T (mkF m pc' Ls (.int (x &&& z) :: st))) : OE p e EP below n0 Q T (mkF m pc Ls (.int z :: .int x :: st)) := by
  obtain ⟨hx, hZ, hown, hby, hmx, hret, hnm, hlk, h0, hT, locs, S, N⟩ := X; subst hp
  exact OE.by (fun t q => XS.iand S.here hx rfl (hb hby hd) rfl q) K
theorem o_ior (X : OW p l e R s m args below meth c Z y bytes mx ret n0 T h k n) {x z : Int32} (hd : decode bytes pc = .ok (.ior, 1))  (pc' : Nat) (hp : pc + 1 = pc') (K : OE p e EP below n0 Q T (mkF m pc' Ls (.int (x ||| z) :: st))) : OE p e EP below n0 Q T (mkF m pc Ls (.int z :: .int x :: st)) := by
  obtain ⟨hx, hZ, hown, hby, hmx, hret, hnm, hlk, h0, hT, locs, S, N⟩ := X; subst hp
  exact OE.by (fun t q => XT.ior S.here hx rfl (hb hby hd) rfl q) K
theorem o_ixor (X : OW p l e R s m args below meth c Z y bytes mx ret n0 T h k n) {x z : Int32} (hd : decode bytes pc = .ok (.ixor, 1))  (pc' : Nat) (hp : pc + 1 = pc') (K : OE p e EP below n0 Q T (mkF m pc' Ls (.int (x ^^^ z) :: st))) : OE p e EP below n0 Q T (mkF m pc Ls (.int z :: .int x :: st)) := by
  obtain ⟨hx, hZ, hown, hby, hmx, hret, hnm, hlk, h0, hT, locs, S, N⟩ := X; subst hp
  exact OE.by (fun t q => XT.ixor S.here hx rfl (hb hby hd) rfl q) K
theorem o_ishl (X : OW p l e R s m args below meth c Z y bytes mx ret n0 T h k n) {x z : Int32} (hd : decode bytes pc = .ok (.ishl, 1))  (pc' : Nat) (hp : pc + 1 = pc') (K : OE p e EP below n0 Q T (mkF m pc' Ls (.int (x <<< (z &&& 31)) :: st))) : OE p e EP below n0 Q T (mkF m pc Ls (.int z :: .int x :: st)) := by
  obtain ⟨hx, hZ, hown, hby, hmx, hret, hnm, hlk, h0, hT, locs, S, N⟩ := X; subst hp
  exact OE.by (fun t q => XT.ishl S.here hx rfl (hb hby hd) rfl q) K
theorem o_ishr (X : OW p l e R s m args below meth c Z y bytes mx ret n0 T h k n) {x z : Int32} (hd : decode bytes pc = .ok (.ishr, 1))  (pc' : Nat) (hp : pc + 1 = pc') (K : OE p e EP below n0 Q T (mkF m pc' Ls (.int (x >>> (z &&& 31)) :: st))) : OE p e EP below n0 Q T (mkF m pc Ls (.int z :: .int x :: st)) := by
  obtain ⟨hx, hZ, hown, hby, hmx, hret, hnm, hlk, h0, hT, locs, S, N⟩ := X; subst hp
  exact OE.by (fun t q => XT.ishr S.here hx rfl (hb hby hd) rfl q) K
theorem o_iushr (X : OW p l e R s m args below meth c Z y bytes mx ret n0 T h k n) {x z : Int32} (hd : decode bytes pc = .ok (.iushr, 1))  (pc' : Nat) (hp : pc + 1 = pc') (K : OE p e EP below n0 Q T (mkF m pc' Ls (.int (XT.ushr x z) :: st))) : OE p e EP below n0 Q T (mkF m pc Ls (.int z :: .int x :: st)) := by
  obtain ⟨hx, hZ, hown, hby, hmx, hret, hnm, hlk, h0, hT, locs, S, N⟩ := X; subst hp
  exact OE.by (fun t q => XT.iushr S.here hx rfl (hb hby hd) rfl q) K
theorem o_idiv (X : OW p l e R s m args below meth c Z y bytes mx ret n0 T h k n) {x z : Int32} (hd : decode bytes pc = .ok (.idiv, 1)) (hz : z ≠ 0) (pc' : Nat) (hp : pc + 1 = pc') (K : OE p e EP below n0 Q T (mkF m pc' Ls (.int (x / z) :: st))) : OE p e EP below n0 Q T (mkF m pc Ls (.int z :: .int x :: st)) := by
  obtain ⟨hx, hZ, hown, hby, hmx, hret, hnm, hlk, h0, hT, locs, S, N⟩ := X; subst hp
  exact OE.by (fun t q => XS.idiv S.here hx rfl (hb hby hd) rfl hz q) K
theorem o_irem (X : OW p l e R s m args below meth c Z y bytes mx ret n0 T h k n) {x z : Int32} (hd : decode bytes pc = .ok (.irem, 1)) (hz : z ≠ 0) (pc' : Nat) (hp : pc + 1 = pc') (K : OE p e EP below n0 Q T (mkF m pc' Ls (.int (x % z) :: st))) : OE p e EP below n0 Q T (mkF m pc Ls (.int z :: .int x :: st)) := by
  obtain ⟨hx, hZ, hown, hby, hmx, hret, hnm, hlk, h0, hT, locs, S, N⟩ := X; subst hp
  exact OE.by (fun t q => iremM S hx rfl (hb hby hd) rfl hz q) K
theorem o_ladd (X : OW p l e R s m args below meth c Z y bytes mx ret n0 T h k n) {x z : Int64} (hd : decode bytes pc = .ok (.ladd, 1))  (pc' : Nat) (hp : pc + 1 = pc') (K : OE p e EP below n0 Q T (mkF m pc' Ls (.long (x + z) :: st))) : OE p e EP below n0 Q T (mkF m pc Ls (.long z :: .long x :: st)) := by
  obtain ⟨hx, hZ, hown, hby, hmx, hret, hnm, hlk, h0, hT, locs, S, N⟩ := X; subst hp
  exact OE.by (fun t q => XT.ladd S.here hx rfl (hb hby hd) rfl q) K
theorem o_lsub (X : OW p l e R s m args below meth c Z y bytes mx ret n0 T h k n) {x z : Int64} (hd : decode bytes pc = .ok (.lsub, 1))  (pc' : Nat) (hp : pc + 1 = pc') (K : OE p e EP below n0 Q T (mkF m pc' Ls (.long (x - z) :: st))) : OE p e EP below n0 Q T (mkF m pc Ls (.long z :: .long x :: st)) := by
  obtain ⟨hx, hZ, hown, hby, hmx, hret, hnm, hlk, h0, hT, locs, S, N⟩ := X; subst hp
  exact OE.by (fun t q => XT.lsub S.here hx rfl (hb hby hd) rfl q) K
theorem o_lor (X : OW p l e R s m args below meth c Z y bytes mx ret n0 T h k n) {x z : Int64} (hd : decode bytes pc = .ok (.lor, 1))  (pc' : Nat) (hp : pc + 1 = pc') (K : OE p e EP below n0 Q T (mkF m pc' Ls (.long (x ||| z) :: st))) : OE p e EP below n0 Q T (mkF m pc Ls (.long z :: .long x :: st)) := by
  obtain ⟨hx, hZ, hown, hby, hmx, hret, hnm, hlk, h0, hT, locs, S, N⟩ := X; subst hp
  exact OE.by (fun t q => XT.lor S.here hx rfl (hb hby hd) rfl q) K
theorem o_land (X : OW p l e R s m args below meth c Z y bytes mx ret n0 T h k n) {x z : Int64} (hd : decode bytes pc = .ok (.land, 1))  (pc' : Nat) (hp : pc + 1 = pc') (K : OE p e EP below n0 Q T (mkF m pc' Ls (.long (x &&& z) :: st))) : OE p e EP below n0 Q T (mkF m pc Ls (.long z :: .long x :: st)) := by
  obtain ⟨hx, hZ, hown, hby, hmx, hret, hnm, hlk, h0, hT, locs, S, N⟩ := X; subst hp
  exact OE.by (fun t q => XT.land S.here hx rfl (hb hby hd) rfl q) K
theorem o_lmul (X : OW p l e R s m args below meth c Z y bytes mx ret n0 T h k n) {x z : Int64} (hd : decode bytes pc = .ok (.lmul, 1))  (pc' : Nat) (hp : pc + 1 = pc') (K : OE p e EP below n0 Q T (mkF m pc' Ls (.long (x * z) :: st))) : OE p e EP below n0 Q T (mkF m pc Ls (.long z :: .long x :: st)) := by
  obtain ⟨hx, hZ, hown, hby, hmx, hret, hnm, hlk, h0, hT, locs, S, N⟩ := X; subst hp
  exact OE.by (fun t q => XT.lmul S.here hx rfl (hb hby hd) rfl q) K
theorem o_lshl (X : OW p l e R s m args below meth c Z y bytes mx ret n0 T h k n) {x : Int64} {z : Int32} (hd : decode bytes pc = .ok (.lshl, 1))  (pc' : Nat) (hp : pc + 1 = pc') (K : OE p e EP below n0 Q T (mkF m pc' Ls (.long (x <<< (z.toInt64 &&& 63)) :: st))) : OE p e EP below n0 Q T (mkF m pc Ls (.int z :: .long x :: st)) := by
  obtain ⟨hx, hZ, hown, hby, hmx, hret, hnm, hlk, h0, hT, locs, S, N⟩ := X; subst hp
  exact OE.by (fun t q => XT.lshl S.here hx rfl (hb hby hd) rfl q) K
theorem o_lushr (X : OW p l e R s m args below meth c Z y bytes mx ret n0 T h k n) {x : Int64} {z : Int32} (hd : decode bytes pc = .ok (.lushr, 1))  (pc' : Nat) (hp : pc + 1 = pc') (K : OE p e EP below n0 Q T (mkF m pc' Ls (.long (XT.ushrL x z) :: st))) : OE p e EP below n0 Q T (mkF m pc Ls (.int z :: .long x :: st)) := by
  obtain ⟨hx, hZ, hown, hby, hmx, hret, hnm, hlk, h0, hT, locs, S, N⟩ := X; subst hp
  exact OE.by (fun t q => XT.lushr S.here hx rfl (hb hby hd) rfl q) K
theorem o_lcmp (X : OW p l e R s m args below meth c Z y bytes mx ret n0 T h k n) {x z : Int64} (hd : decode bytes pc = .ok (.lcmp, 1))  (pc' : Nat) (hp : pc + 1 = pc') (K : OE p e EP below n0 Q T (mkF m pc' Ls (.int (XT.cmpL x z) :: st))) : OE p e EP below n0 Q T (mkF m pc Ls (.long z :: .long x :: st)) := by
  obtain ⟨hx, hZ, hown, hby, hmx, hret, hnm, hlk, h0, hT, locs, S, N⟩ := X; subst hp
  exact OE.by (fun t q => XT.lcmp S.here hx rfl (hb hby hd) rfl q) K
theorem o_i2l (X : OW p l e R s m args below meth c Z y bytes mx ret n0 T h k n) {x : Int32} (hd : decode bytes pc = .ok (.i2l, 1))  (pc' : Nat) (hp : pc + 1 = pc') (K : OE p e EP below n0 Q T (mkF m pc' Ls (.long x.toInt64 :: st))) : OE p e EP below n0 Q T (mkF m pc Ls (.int x :: st)) := by
  obtain ⟨hx, hZ, hown, hby, hmx, hret, hnm, hlk, h0, hT, locs, S, N⟩ := X; subst hp
  exact OE.by (fun t q => XT.i2l S.here hx rfl (hb hby hd) rfl q) K
theorem o_l2i (X : OW p l e R s m args below meth c Z y bytes mx ret n0 T h k n) {x : Int64} (hd : decode bytes pc = .ok (.l2i, 1))  (pc' : Nat) (hp : pc + 1 = pc') (K : OE p e EP below n0 Q T (mkF m pc' Ls (.int x.toInt32 :: st))) : OE p e EP below n0 Q T (mkF m pc Ls (.long x :: st)) := by
  obtain ⟨hx, hZ, hown, hby, hmx, hret, hnm, hlk, h0, hT, locs, S, N⟩ := X; subst hp
  exact OE.by (fun t q => XT.l2i S.here hx rfl (hb hby hd) rfl q) K
theorem o_i2b (X : OW p l e R s m args below meth c Z y bytes mx ret n0 T h k n) {x : Int32} (hd : decode bytes pc = .ok (.i2b, 1))  (pc' : Nat) (hp : pc + 1 = pc') (K : OE p e EP below n0 Q T (mkF m pc' Ls (.int x.toInt8.toInt32 :: st))) : OE p e EP below n0 Q T (mkF m pc Ls (.int x :: st)) := by
  obtain ⟨hx, hZ, hown, hby, hmx, hret, hnm, hlk, h0, hT, locs, S, N⟩ := X; subst hp
  exact OE.by (fun t q => XT.i2b S.here hx rfl (hb hby hd) rfl q) K
theorem o_i2c (X : OW p l e R s m args below meth c Z y bytes mx ret n0 T h k n) {x : Int32} (hd : decode bytes pc = .ok (.i2c, 1))  (pc' : Nat) (hp : pc + 1 = pc') (K : OE p e EP below n0 Q T (mkF m pc' Ls (.int x.toUInt32.toUInt16.toUInt32.toInt32 :: st))) : OE p e EP below n0 Q T (mkF m pc Ls (.int x :: st)) := by
  obtain ⟨hx, hZ, hown, hby, hmx, hret, hnm, hlk, h0, hT, locs, S, N⟩ := X; subst hp
  exact OE.by (fun t q => XT.i2c S.here hx rfl (hb hby hd) rfl q) K
theorem o_dup (X : OW p l e R s m args below meth c Z y bytes mx ret n0 T h k n) {v : Value} (hd : decode bytes pc = .ok (.dup, 1)) (hc : v.category = 1) (pc' : Nat) (hp : pc + 1 = pc') (K : OE p e EP below n0 Q T (mkF m pc' Ls (v :: v :: st))) : OE p e EP below n0 Q T (mkF m pc Ls (v :: st)) := by
  obtain ⟨hx, hZ, hown, hby, hmx, hret, hnm, hlk, h0, hT, locs, S, N⟩ := X; subst hp
  exact OE.by (fun t q => XS.dup S.here hx rfl (hb hby hd) rfl hc q) K
theorem o_pop (X : OW p l e R s m args below meth c Z y bytes mx ret n0 T h k n) {v : Value} (hd : decode bytes pc = .ok (.pop, 1)) (hc : v.category = 1) (pc' : Nat) (hp : pc + 1 = pc') (K : OE p e EP below n0 Q T (mkF m pc' Ls st)) : OE p e EP below n0 Q T (mkF m pc Ls (v :: st)) := by
  obtain ⟨hx, hZ, hown, hby, hmx, hret, hnm, hlk, h0, hT, locs, S, N⟩ := X; subst hp
  exact OE.by (fun t q => XT.pop S.here hx rfl (hb hby hd) rfl hc q) K
theorem o_dupX1 (X : OW p l e R s m args below meth c Z y bytes mx ret n0 T h k n) {v w : Value} (hd : decode bytes pc = .ok (.dup_x1, 1)) (hc : v.category = 1) (hc' : w.category = 1) (pc' : Nat) (hp : pc + 1 = pc') (K : OE p e EP below n0 Q T (mkF m pc' Ls (v :: w :: v :: st))) : OE p e EP below n0 Q T (mkF m pc Ls (v :: w :: st)) := by
  obtain ⟨hx, hZ, hown, hby, hmx, hret, hnm, hlk, h0, hT, locs, S, N⟩ := X; subst hp
  exact OE.by (fun t q => XT.dupX1 S.here hx rfl (hb hby hd) rfl hc hc' q) K
theorem o_dup2 (X : OW p l e R s m args below meth c Z y bytes mx ret n0 T h k n) {v w : Value} (hd : decode bytes pc = .ok (.dup2, 1)) (hc : v.category = 1) (hc' : w.category = 1) (pc' : Nat) (hp : pc + 1 = pc') (K : OE p e EP below n0 Q T (mkF m pc' Ls (v :: w :: v :: w :: st))) : OE p e EP below n0 Q T (mkF m pc Ls (v :: w :: st)) := by
  obtain ⟨hx, hZ, hown, hby, hmx, hret, hnm, hlk, h0, hT, locs, S, N⟩ := X; subst hp
  exact OE.by (fun t q => XT.dup2 S.here hx rfl (hb hby hd) rfl hc hc' q) K
theorem o_istoreN (X : OW p l e R s m args below meth c Z y bytes mx ret n0 T h k n) {j : Fin 4} {v : Int32} (hd : decode bytes pc = .ok (.istore_n j, 1)) (Ls' : Array Slot) (hl : storeLocals Ls j.val (.int v) = some Ls') (pc' : Nat) (hp : pc + 1 = pc') (K : OE p e EP below n0 Q T (mkF m pc' Ls' st)) : OE p e EP below n0 Q T (mkF m pc Ls (.int v :: st)) := by
  obtain ⟨hx, hZ, hown, hby, hmx, hret, hnm, hlk, h0, hT, locs, S, N⟩ := X; subst hp
  exact OE.by (fun t q => XS.istoreN S.here hx rfl (hb hby hd) rfl hl q) K
theorem o_istore (X : OW p l e R s m args below meth c Z y bytes mx ret n0 T h k n) {j : Nat} {v : Int32} (hd : decode bytes pc = .ok (.istore j, 2)) (Ls' : Array Slot) (hl : storeLocals Ls j (.int v) = some Ls') (pc' : Nat) (hp : pc + 2 = pc') (K : OE p e EP below n0 Q T (mkF m pc' Ls' st)) : OE p e EP below n0 Q T (mkF m pc Ls (.int v :: st)) := by
  obtain ⟨hx, hZ, hown, hby, hmx, hret, hnm, hlk, h0, hT, locs, S, N⟩ := X; subst hp
  exact OE.by (fun t q => XS.istore S.here hx rfl (hb hby hd) rfl hl q) K
theorem o_lstoreN (X : OW p l e R s m args below meth c Z y bytes mx ret n0 T h k n) {j : Fin 4} {v : Int64} (hd : decode bytes pc = .ok (.lstore_n j, 1)) (Ls' : Array Slot) (hl : storeLocals Ls j.val (.long v) = some Ls') (pc' : Nat) (hp : pc + 1 = pc') (K : OE p e EP below n0 Q T (mkF m pc' Ls' st)) : OE p e EP below n0 Q T (mkF m pc Ls (.long v :: st)) := by
  obtain ⟨hx, hZ, hown, hby, hmx, hret, hnm, hlk, h0, hT, locs, S, N⟩ := X; subst hp
  exact OE.by (fun t q => XT.lstoreN S.here hx rfl (hb hby hd) rfl hl q) K
theorem o_lstore (X : OW p l e R s m args below meth c Z y bytes mx ret n0 T h k n) {j : Nat} {v : Int64} (hd : decode bytes pc = .ok (.lstore j, 2)) (Ls' : Array Slot) (hl : storeLocals Ls j (.long v) = some Ls') (pc' : Nat) (hp : pc + 2 = pc') (K : OE p e EP below n0 Q T (mkF m pc' Ls' st)) : OE p e EP below n0 Q T (mkF m pc Ls (.long v :: st)) := by
  obtain ⟨hx, hZ, hown, hby, hmx, hret, hnm, hlk, h0, hT, locs, S, N⟩ := X; subst hp
  exact OE.by (fun t q => XT.lstore S.here hx rfl (hb hby hd) rfl hl q) K
theorem o_astoreN (X : OW p l e R s m args below meth c Z y bytes mx ret n0 T h k n) {j : Fin 4} {v : Value} (hd : decode bytes pc = .ok (.astore_n j, 1)) (hv : v.isRef = true) (Ls' : Array Slot) (hl : storeLocals Ls j.val v = some Ls') (pc' : Nat) (hp : pc + 1 = pc') (K : OE p e EP below n0 Q T (mkF m pc' Ls' st)) : OE p e EP below n0 Q T (mkF m pc Ls (v :: st)) := by
  obtain ⟨hx, hZ, hown, hby, hmx, hret, hnm, hlk, h0, hT, locs, S, N⟩ := X; subst hp
  exact OE.by (fun t q => XS.astoreN S.here hx rfl (hb hby hd) rfl hv hl q) K
theorem o_astore (X : OW p l e R s m args below meth c Z y bytes mx ret n0 T h k n) {j : Nat} {v : Value} (hd : decode bytes pc = .ok (.astore j, 2)) (hv : v.isRef = true) (Ls' : Array Slot) (hl : storeLocals Ls j v = some Ls') (pc' : Nat) (hp : pc + 2 = pc') (K : OE p e EP below n0 Q T (mkF m pc' Ls' st)) : OE p e EP below n0 Q T (mkF m pc Ls (v :: st)) := by
  obtain ⟨hx, hZ, hown, hby, hmx, hret, hnm, hlk, h0, hT, locs, S, N⟩ := X; subst hp
  exact OE.by (fun t q => XS.astore S.here hx rfl (hb hby hd) rfl hv hl q) K
theorem o_iinc (X : OW p l e R s m args below meth c Z y bytes mx ret n0 T h k n) {j : Nat} {i : Int} {v w : Int32} (hd : decode bytes pc = .ok (.iinc j i, 3)) (hg : Ls[j]? = some (.val (.int v))) (hw : v + Int32.ofInt i = w) (Ls' : Array Slot) (hl : storeLocals Ls j (.int w) = some Ls') (pc' : Nat) (hp : pc + 3 = pc') (K : OE p e EP below n0 Q T (mkF m pc' Ls' st)) : OE p e EP below n0 Q T (mkF m pc Ls st) := by
  obtain ⟨hx, hZ, hown, hby, hmx, hret, hnm, hlk, h0, hT, locs, S, N⟩ := X; subst hp hw
  exact OE.by (fun t q => XS.iinc S.here hx rfl (hb hby hd) hg hl q) K
theorem o_goto (X : OW p l e R s m args below meth c Z y bytes mx ret n0 T h k n) {o : Int} (hd : decode bytes pc = .ok (.goto o, 3)) (pc' : Nat) (ho : 0 ≤ (pc : Int) + o) (hp : ((pc : Int) + o).toNat = pc') (K : OE p e EP below n0 Q T (mkF m pc' Ls st)) : OE p e EP below n0 Q T (mkF m pc Ls st) := by
  obtain ⟨hx, hZ, hown, hby, hmx, hret, hnm, hlk, h0, hT, locs, S, N⟩ := X
  exact OE.by (fun t q => XS.goto S.here hx rfl rfl (hb hby hd) ho hp q) K
theorem o_icmpEq (X : OW p l e R s m args below meth c Z y bytes mx ret n0 T h k n) {o : Int} {x z : Int32} (hd : decode bytes pc = .ok (.if_icmp .eq o, 3)) (pcT pcF : Nat) (ho : 0 ≤ (pc : Int) + o) (hT : ((pc : Int) + o).toNat = pcT) (hF : pc + 3 = pcF) (KT : x = z → OE p e EP below n0 Q T (mkF m pcT Ls st)) (KF : ¬ x = z → OE p e EP below n0 Q T (mkF m pcF Ls st)) : OE p e EP below n0 Q T (mkF m pc Ls (.int z :: .int x :: st)) := by
  obtain ⟨hx, hZ, hown, hby, hmx, hret, hnm, hlk, h0, hT', locs, S, N⟩ := X; subst hF
  by_cases q : x = z
  · exact OE.by (fun t r => XS.icmpYes S.here hx rfl rfl (hb hby hd) rfl ((teq q).1) ho hT r) (KT q)
  · exact OE.by (fun t r => XS.icmpNo S.here hx rfl (hb hby hd) rfl ((feq q).1) r) (KF q)
theorem o_ifEq (X : OW p l e R s m args below meth c Z y bytes mx ret n0 T h k n) {o : Int} {x : Int32} (hd : decode bytes pc = .ok (.ifCond .eq o, 3)) (pcT pcF : Nat) (ho : 0 ≤ (pc : Int) + o) (hT : ((pc : Int) + o).toNat = pcT) (hF : pc + 3 = pcF) (KT : x = 0 → OE p e EP below n0 Q T (mkF m pcT Ls st)) (KF : ¬ x = 0 → OE p e EP below n0 Q T (mkF m pcF Ls st)) : OE p e EP below n0 Q T (mkF m pc Ls (.int x :: st)) := by
  obtain ⟨hx, hZ, hown, hby, hmx, hret, hnm, hlk, h0, hT', locs, S, N⟩ := X; subst hF
  by_cases q : x = 0
  · exact OE.by (fun t r => XS.ifYes S.here hx rfl rfl (hb hby hd) rfl ((if0 _ _).trans (teq q).1) ho hT r) (KT q)
  · exact OE.by (fun t r => XS.ifNo S.here hx rfl (hb hby hd) rfl ((if0 _ _).trans (feq q).1) r) (KF q)
theorem o_icmpNe (X : OW p l e R s m args below meth c Z y bytes mx ret n0 T h k n) {o : Int} {x z : Int32} (hd : decode bytes pc = .ok (.if_icmp .ne o, 3)) (pcT pcF : Nat) (ho : 0 ≤ (pc : Int) + o) (hT : ((pc : Int) + o).toNat = pcT) (hF : pc + 3 = pcF) (KT : ¬ x = z → OE p e EP below n0 Q T (mkF m pcT Ls st)) (KF : x = z → OE p e EP below n0 Q T (mkF m pcF Ls st)) : OE p e EP below n0 Q T (mkF m pc Ls (.int z :: .int x :: st)) := by
  obtain ⟨hx, hZ, hown, hby, hmx, hret, hnm, hlk, h0, hT', locs, S, N⟩ := X; subst hF
  by_cases q : x = z
  · exact OE.by (fun t r => XS.icmpNo S.here hx rfl (hb hby hd) rfl ((teq q).2) r) (KF q)
  · exact OE.by (fun t r => XS.icmpYes S.here hx rfl rfl (hb hby hd) rfl ((feq q).2) ho hT r) (KT q)
theorem o_ifNe (X : OW p l e R s m args below meth c Z y bytes mx ret n0 T h k n) {o : Int} {x : Int32} (hd : decode bytes pc = .ok (.ifCond .ne o, 3)) (pcT pcF : Nat) (ho : 0 ≤ (pc : Int) + o) (hT : ((pc : Int) + o).toNat = pcT) (hF : pc + 3 = pcF) (KT : ¬ x = 0 → OE p e EP below n0 Q T (mkF m pcT Ls st)) (KF : x = 0 → OE p e EP below n0 Q T (mkF m pcF Ls st)) : OE p e EP below n0 Q T (mkF m pc Ls (.int x :: st)) := by
  obtain ⟨hx, hZ, hown, hby, hmx, hret, hnm, hlk, h0, hT', locs, S, N⟩ := X; subst hF
  by_cases q : x = 0
  · exact OE.by (fun t r => XS.ifNo S.here hx rfl (hb hby hd) rfl ((if0 _ _).trans (teq q).2) r) (KF q)
  · exact OE.by (fun t r => XS.ifYes S.here hx rfl rfl (hb hby hd) rfl ((if0 _ _).trans (feq q).2) ho hT r) (KT q)
theorem o_icmpLt (X : OW p l e R s m args below meth c Z y bytes mx ret n0 T h k n) {o : Int} {x z : Int32} (hd : decode bytes pc = .ok (.if_icmp .lt o, 3)) (pcT pcF : Nat) (ho : 0 ≤ (pc : Int) + o) (hT : ((pc : Int) + o).toNat = pcT) (hF : pc + 3 = pcF) (KT : x < z → OE p e EP below n0 Q T (mkF m pcT Ls st)) (KF : ¬ x < z → OE p e EP below n0 Q T (mkF m pcF Ls st)) : OE p e EP below n0 Q T (mkF m pc Ls (.int z :: .int x :: st)) := by
  obtain ⟨hx, hZ, hown, hby, hmx, hret, hnm, hlk, h0, hT', locs, S, N⟩ := X; subst hF
  by_cases q : x < z
  · exact OE.by (fun t r => XS.icmpYes S.here hx rfl rfl (hb hby hd) rfl ((tlt q).1) ho hT r) (KT q)
  · exact OE.by (fun t r => XS.icmpNo S.here hx rfl (hb hby hd) rfl ((flt q).1) r) (KF q)
theorem o_ifLt (X : OW p l e R s m args below meth c Z y bytes mx ret n0 T h k n) {o : Int} {x : Int32} (hd : decode bytes pc = .ok (.ifCond .lt o, 3)) (pcT pcF : Nat) (ho : 0 ≤ (pc : Int) + o) (hT : ((pc : Int) + o).toNat = pcT) (hF : pc + 3 = pcF) (KT : x < 0 → OE p e EP below n0 Q T (mkF m pcT Ls st)) (KF : ¬ x < 0 → OE p e EP below n0 Q T (mkF m pcF Ls st)) : OE p e EP below n0 Q T (mkF m pc Ls (.int x :: st)) := by
  obtain ⟨hx, hZ, hown, hby, hmx, hret, hnm, hlk, h0, hT', locs, S, N⟩ := X; subst hF
  by_cases q : x < 0
  · exact OE.by (fun t r => XS.ifYes S.here hx rfl rfl (hb hby hd) rfl ((if0 _ _).trans (tlt q).1) ho hT r) (KT q)
  · exact OE.by (fun t r => XS.ifNo S.here hx rfl (hb hby hd) rfl ((if0 _ _).trans (flt q).1) r) (KF q)
theorem o_icmpGe (X : OW p l e R s m args below meth c Z y bytes mx ret n0 T h k n) {o : Int} {x z : Int32} (hd : decode bytes pc = .ok (.if_icmp .ge o, 3)) (pcT pcF : Nat) (ho : 0 ≤ (pc : Int) + o) (hT : ((pc : Int) + o).toNat = pcT) (hF : pc + 3 = pcF) (KT : ¬ x < z → OE p e EP below n0 Q T (mkF m pcT Ls st)) (KF : x < z → OE p e EP below n0 Q T (mkF m pcF Ls st)) : OE p e EP below n0 Q T (mkF m pc Ls (.int z :: .int x :: st)) := by
  obtain ⟨hx, hZ, hown, hby, hmx, hret, hnm, hlk, h0, hT', locs, S, N⟩ := X; subst hF
  by_cases q : x < z
  · exact OE.by (fun t r => XS.icmpNo S.here hx rfl (hb hby hd) rfl ((tlt q).2.1) r) (KF q)
  · exact OE.by (fun t r => XS.icmpYes S.here hx rfl rfl (hb hby hd) rfl ((flt q).2.1) ho hT r) (KT q)
theorem o_ifGe (X : OW p l e R s m args below meth c Z y bytes mx ret n0 T h k n) {o : Int} {x : Int32} (hd : decode bytes pc = .ok (.ifCond .ge o, 3)) (pcT pcF : Nat) (ho : 0 ≤ (pc : Int) + o) (hT : ((pc : Int) + o).toNat = pcT) (hF : pc + 3 = pcF) (KT : ¬ x < 0 → OE p e EP below n0 Q T (mkF m pcT Ls st)) (KF : x < 0 → OE p e EP below n0 Q T (mkF m pcF Ls st)) : OE p e EP below n0 Q T (mkF m pc Ls (.int x :: st)) := by
  obtain ⟨hx, hZ, hown, hby, hmx, hret, hnm, hlk, h0, hT', locs, S, N⟩ := X; subst hF
  by_cases q : x < 0
  · exact OE.by (fun t r => XS.ifNo S.here hx rfl (hb hby hd) rfl ((if0 _ _).trans (tlt q).2.1) r) (KF q)
  · exact OE.by (fun t r => XS.ifYes S.here hx rfl rfl (hb hby hd) rfl ((if0 _ _).trans (flt q).2.1) ho hT r) (KT q)
theorem o_icmpGt (X : OW p l e R s m args below meth c Z y bytes mx ret n0 T h k n) {o : Int} {x z : Int32} (hd : decode bytes pc = .ok (.if_icmp .gt o, 3)) (pcT pcF : Nat) (ho : 0 ≤ (pc : Int) + o) (hT : ((pc : Int) + o).toNat = pcT) (hF : pc + 3 = pcF) (KT : z < x → OE p e EP below n0 Q T (mkF m pcT Ls st)) (KF : ¬ z < x → OE p e EP below n0 Q T (mkF m pcF Ls st)) : OE p e EP below n0 Q T (mkF m pc Ls (.int z :: .int x :: st)) := by
  obtain ⟨hx, hZ, hown, hby, hmx, hret, hnm, hlk, h0, hT', locs, S, N⟩ := X; subst hF
  by_cases q : z < x
  · exact OE.by (fun t r => XS.icmpYes S.here hx rfl rfl (hb hby hd) rfl ((tlt q).2.2.1) ho hT r) (KT q)
  · exact OE.by (fun t r => XS.icmpNo S.here hx rfl (hb hby hd) rfl ((flt q).2.2.1) r) (KF q)
theorem o_ifGt (X : OW p l e R s m args below meth c Z y bytes mx ret n0 T h k n) {o : Int} {x : Int32} (hd : decode bytes pc = .ok (.ifCond .gt o, 3)) (pcT pcF : Nat) (ho : 0 ≤ (pc : Int) + o) (hT : ((pc : Int) + o).toNat = pcT) (hF : pc + 3 = pcF) (KT : 0 < x → OE p e EP below n0 Q T (mkF m pcT Ls st)) (KF : ¬ 0 < x → OE p e EP below n0 Q T (mkF m pcF Ls st)) : OE p e EP below n0 Q T (mkF m pc Ls (.int x :: st)) := by
  obtain ⟨hx, hZ, hown, hby, hmx, hret, hnm, hlk, h0, hT', locs, S, N⟩ := X; subst hF
  by_cases q : 0 < x
  · exact OE.by (fun t r => XS.ifYes S.here hx rfl rfl (hb hby hd) rfl ((if0 _ _).trans (tlt q).2.2.1) ho hT r) (KT q)
  · exact OE.by (fun t r => XS.ifNo S.here hx rfl (hb hby hd) rfl ((if0 _ _).trans (flt q).2.2.1) r) (KF q)
theorem o_icmpLe (X : OW p l e R s m args below meth c Z y bytes mx ret n0 T h k n) {o : Int} {x z : Int32} (hd : decode bytes pc = .ok (.if_icmp .le o, 3)) (pcT pcF : Nat) (ho : 0 ≤ (pc : Int) + o) (hT : ((pc : Int) + o).toNat = pcT) (hF : pc + 3 = pcF) (KT : ¬ z < x → OE p e EP below n0 Q T (mkF m pcT Ls st)) (KF : z < x → OE p e EP below n0 Q T (mkF m pcF Ls st)) : OE p e EP below n0 Q T (mkF m pc Ls (.int z :: .int x :: st)) := by
  obtain ⟨hx, hZ, hown, hby, hmx, hret, hnm, hlk, h0, hT', locs, S, N⟩ := X; subst hF
  by_cases q : z < x
  · exact OE.by (fun t r => XS.icmpNo S.here hx rfl (hb hby hd) rfl ((tlt q).2.2.2) r) (KF q)
  · exact OE.by (fun t r => XS.icmpYes S.here hx rfl rfl (hb hby hd) rfl ((flt q).2.2.2) ho hT r) (KT q)
theorem o_ifLe (X : OW p l e R s m args below meth c Z y bytes mx ret n0 T h k n) {o : Int} {x : Int32} (hd : decode bytes pc = .ok (.ifCond .le o, 3)) (pcT pcF : Nat) (ho : 0 ≤ (pc : Int) + o) (hT : ((pc : Int) + o).toNat = pcT) (hF : pc + 3 = pcF) (KT : ¬ 0 < x → OE p e EP below n0 Q T (mkF m pcT Ls st)) (KF : 0 < x → OE p e EP below n0 Q T (mkF m pcF Ls st)) : OE p e EP below n0 Q T (mkF m pc Ls (.int x :: st)) := by
  obtain ⟨hx, hZ, hown, hby, hmx, hret, hnm, hlk, h0, hT', locs, S, N⟩ := X; subst hF
  by_cases q : 0 < x
  · exact OE.by (fun t r => XS.ifNo S.here hx rfl (hb hby hd) rfl ((if0 _ _).trans (tlt q).2.2.2) r) (KF q)
  · exact OE.by (fun t r => XS.ifYes S.here hx rfl rfl (hb hby hd) rfl ((if0 _ _).trans (flt q).2.2.2) ho hT r) (KT q)
theorem o_ifnullR (X : OW p l e R s m args below meth c Z y bytes mx ret n0 T h k n) {o : Int} {a : Addr} (hd : decode bytes pc = .ok (.ifnull o, 3)) (pc' : Nat) (hp : pc + 3 = pc') (K : OE p e EP below n0 Q T (mkF m pc' Ls st)) : OE p e EP below n0 Q T (mkF m pc Ls (.ref a :: st)) := by
  obtain ⟨hx, hZ, hown, hby, hmx, hret, hnm, hlk, h0, hT, locs, S, N⟩ := X; subst hp
  exact OE.by (fun t q => XS.ifnullNo S.here hx rfl (hb hby hd) rfl q) K
theorem o_ifnonnullR (X : OW p l e R s m args below meth c Z y bytes mx ret n0 T h k n) {o : Int} {a : Addr} (hd : decode bytes pc = .ok (.ifnonnull o, 3)) (pc' : Nat) (ho : 0 ≤ (pc : Int) + o) (hp : ((pc : Int) + o).toNat = pc') (K : OE p e EP below n0 Q T (mkF m pc' Ls st)) : OE p e EP below n0 Q T (mkF m pc Ls (.ref a :: st)) := by
  obtain ⟨hx, hZ, hown, hby, hmx, hret, hnm, hlk, h0, hT, locs, S, N⟩ := X
  exact OE.by (fun t q => XT.ifnonnullYes S.here hx rfl rfl (hb hby hd) rfl ho hp q) K
theorem o_acmpEqN (X : OW p l e R s m args below meth c Z y bytes mx ret n0 T h k n) {o : Int} {a b : Addr} (hd : decode bytes pc = .ok (.if_acmp .eq o, 3)) (hab : a ≠ b) (pc' : Nat) (hp : pc + 3 = pc') (K : OE p e EP below n0 Q T (mkF m pc' Ls st)) : OE p e EP below n0 Q T (mkF m pc Ls (.ref b :: .ref a :: st)) := by
  obtain ⟨hx, hZ, hown, hby, hmx, hret, hnm, hlk, h0, hT, locs, S, N⟩ := X; subst hp
  exact OE.by (fun t q => XT.acmpNo S.here hx rfl (hb hby hd) rfl rfl rfl (decide_eq_false fun r => hab (Value.ref.inj r)) q) K
theorem o_acmpNeY (X : OW p l e R s m args below meth c Z y bytes mx ret n0 T h k n) {o : Int} {a b : Addr} (hd : decode bytes pc = .ok (.if_acmp .ne o, 3)) (hab : a ≠ b) (pc' : Nat) (ho : 0 ≤ (pc : Int) + o) (hp : ((pc : Int) + o).toNat = pc') (K : OE p e EP below n0 Q T (mkF m pc' Ls st)) : OE p e EP below n0 Q T (mkF m pc Ls (.ref b :: .ref a :: st)) := by
  obtain ⟨hx, hZ, hown, hby, hmx, hret, hnm, hlk, h0, hT, locs, S, N⟩ := X
  exact OE.by (fun t q => XT.acmpYes S.here hx rfl rfl (hb hby hd) rfl rfl rfl (decide_eq_true fun r => hab (Value.ref.inj r)) ho hp q) K
theorem o_ldc (X : OW p l e R s m args below meth c Z y bytes mx ret n0 T h k n) {i : Nat} {v : Int32} (hd : decode bytes pc = .ok (.ldc i, 2)) (w : (Cond.constant y.cls i v).before a0 Z = true) (pc' : Nat) (hp : pc + 2 = pc') (K : OE p e EP below n0 Q T (mkF m pc' Ls (.int v :: st))) : OE p e EP below n0 Q T (mkF m pc Ls st) := by
  obtain ⟨hx, hZ, hown, hby, hmx, hret, hnm, hlk, h0, hT, locs, S, N⟩ := X; subst hp
  exact OE.by (fun t q => S.ldcInt hx hown (mvT hZ w) (g := mkF m pc Ls st) rfl (hb hby hd) t q) K
theorem o_ldc2L (X : OW p l e R s m args below meth c Z y bytes mx ret n0 T h k n) {i : Nat} {v : Int64} (hd : decode bytes pc = .ok (.ldc2_w i, 3)) (w : (Cond.constantLong y.cls i v).before a0 Z = true) (pc' : Nat) (hp : pc + 3 = pc') (K : OE p e EP below n0 Q T (mkF m pc' Ls (.long v :: st))) : OE p e EP below n0 Q T (mkF m pc Ls st) := by
  obtain ⟨hx, hZ, hown, hby, hmx, hret, hnm, hlk, h0, hT, locs, S, N⟩ := X; subst hp
  exact OE.by (fun t q => S.ldc2Long hx hown (mvT hZ w) (g := mkF m pc Ls st) rfl (hb hby hd) t q) K
theorem o_retZ (X : OW p l e R s m args below meth c Z y bytes mx (some .boolean) n0 T h k n) {z : Int32} (hd : decode bytes pc = .ok (.ireturn, 1)) (hk : k ≤ R.cells) (hn : n ≤ R.slots) (hq : Q (some (.int (nar .boolean z))) h) : OE p e (FE s R) below n0 Q T (mkF m pc Ls (.int z :: st)) := by
  obtain ⟨hx, hZ, hown, hby, hmx, hret, hnm, hlk, h0, hT, locs, S, N⟩ := X
  obtain ⟨fs, hr, hrun, hended, hW, hsame⟩ := S.leave (v := some (.int (nar .boolean z))) (fun q => by rw [hret] at q; cases q) hlk
  exact ⟨_, _, retN S hx (t := .boolean) hret (by simp) (hb hby hd) hr, hrun, hended, _, _, rfl, ⟨by show Q _ T.heap; rw [hT]; exact hq, N⟩, ⟨_, rfl⟩, hW, hsame.mono hk hn⟩
theorem o_retB (X : OW p l e R s m args below meth c Z y bytes mx (some .byte) n0 T h k n) {z : Int32} (hd : decode bytes pc = .ok (.ireturn, 1)) (hk : k ≤ R.cells) (hn : n ≤ R.slots) (hq : Q (some (.int (nar .byte z))) h) : OE p e (FE s R) below n0 Q T (mkF m pc Ls (.int z :: st)) := by
  obtain ⟨hx, hZ, hown, hby, hmx, hret, hnm, hlk, h0, hT, locs, S, N⟩ := X
  obtain ⟨fs, hr, hrun, hended, hW, hsame⟩ := S.leave (v := some (.int (nar .byte z))) (fun q => by rw [hret] at q; cases q) hlk
  exact ⟨_, _, retN S hx (t := .byte) hret (by simp) (hb hby hd) hr, hrun, hended, _, _, rfl, ⟨by show Q _ T.heap; rw [hT]; exact hq, N⟩, ⟨_, rfl⟩, hW, hsame.mono hk hn⟩
theorem o_retC (X : OW p l e R s m args below meth c Z y bytes mx (some .char) n0 T h k n) {z : Int32} (hd : decode bytes pc = .ok (.ireturn, 1)) (hk : k ≤ R.cells) (hn : n ≤ R.slots) (hq : Q (some (.int (nar .char z))) h) : OE p e (FE s R) below n0 Q T (mkF m pc Ls (.int z :: st)) := by
  obtain ⟨hx, hZ, hown, hby, hmx, hret, hnm, hlk, h0, hT, locs, S, N⟩ := X
  obtain ⟨fs, hr, hrun, hended, hW, hsame⟩ := S.leave (v := some (.int (nar .char z))) (fun q => by rw [hret] at q; cases q) hlk
  exact ⟨_, _, retN S hx (t := .char) hret (by simp) (hb hby hd) hr, hrun, hended, _, _, rfl, ⟨by show Q _ T.heap; rw [hT]; exact hq, N⟩, ⟨_, rfl⟩, hW, hsame.mono hk hn⟩
theorem o_retI (X : OW p l e R s m args below meth c Z y bytes mx (some .int) n0 T h k n) {z : Int32} (hd : decode bytes pc = .ok (.ireturn, 1)) (hk : k ≤ R.cells) (hn : n ≤ R.slots) (hq : Q (some (.int z)) h) : OE p e (FE s R) below n0 Q T (mkF m pc Ls (.int z :: st)) := by
  obtain ⟨hx, hZ, hown, hby, hmx, hret, hnm, hlk, h0, hT, locs, S, N⟩ := X
  obtain ⟨fs, hr, hrun, hended, hW, hsame⟩ := S.leave (v := some (.int z)) (fun q => by rw [hret] at q; cases q) hlk
  exact ⟨_, _, retOut S hx hret rfl (Or.inl ⟨rfl, Or.inl rfl, z, rfl⟩) (hb hby hd) hr, hrun, hended, _, _, rfl, ⟨by show Q _ T.heap; rw [hT]; exact hq, N⟩, ⟨_, rfl⟩, hW, hsame.mono hk hn⟩
theorem o_retJ (X : OW p l e R s m args below meth c Z y bytes mx (some .long) n0 T h k n) {z : Int64} (hd : decode bytes pc = .ok (.lreturn, 1)) (hk : k ≤ R.cells) (hn : n ≤ R.slots) (hq : Q (some (.long z)) h) : OE p e (FE s R) below n0 Q T (mkF m pc Ls (.long z :: st)) := by
  obtain ⟨hx, hZ, hown, hby, hmx, hret, hnm, hlk, h0, hT, locs, S, N⟩ := X
  obtain ⟨fs, hr, hrun, hended, hW, hsame⟩ := S.leave (v := some (.long z)) (fun q => by rw [hret] at q; cases q) hlk
  exact ⟨_, _, retOut S hx hret rfl (Or.inr (Or.inl ⟨rfl, rfl, z, rfl⟩)) (hb hby hd) hr, hrun, hended, _, _, rfl, ⟨by show Q _ T.heap; rw [hT]; exact hq, N⟩, ⟨_, rfl⟩, hW, hsame.mono hk hn⟩
theorem o_retA {ty : FieldType} (X : OW p l e R s m args below meth c Z y bytes mx (some ty) n0 T h k n) (hty : ty.isReference = true) {a : Addr} (hnar : narrow ty (.ref a) = .ref a) (hd : decode bytes pc = .ok (.areturn, 1)) (hk : k ≤ R.cells) (hn : n ≤ R.slots) (hq : Q (some (.ref a)) h) : OE p e (FE s R) below n0 Q T (mkF m pc Ls (.ref a :: st)) := by
  obtain ⟨hx, hZ, hown, hby, hmx, hret, hnm, hlk, h0, hT, locs, S, N⟩ := X
  obtain ⟨fs, hr, hrun, hended, hW, hsame⟩ := S.leave (v := some (.ref a)) (fun q => by rw [hret] at q; cases q) hlk
  exact ⟨_, _, retOut S hx hret hnar (Or.inr (Or.inr (Or.inr (Or.inr ⟨rfl, hty, rfl⟩)))) (hb hby hd) hr, hrun, hended, _, _, rfl, ⟨by show Q _ T.heap; rw [hT]; exact hq, N⟩, ⟨_, rfl⟩, hW, hsame.mono hk hn⟩
theorem o_ret (X : OW p l e R s m args below meth c Z y bytes mx none n0 T h k n) (hd : decode bytes pc = .ok (.return_, 1)) (hk : k ≤ R.cells) (hn : n ≤ R.slots) (hq : Q none h) : OE p e (FE s R) below n0 Q T (mkF m pc Ls []) := by
  obtain ⟨hx, hZ, hown, hby, hmx, hret, hnm, hlk, h0, hT, locs, S, N⟩ := X
  obtain ⟨fs, hr, hrun, hended, hW, hsame⟩ := S.leave (v := none) (fun _ => rfl) hlk
  exact ⟨_, _, S.returnOut hx hret (hb hby hd) hr, hrun, hended, _, _, rfl, ⟨by show Q _ T.heap; rw [hT]; exact hq, N⟩, ⟨_, rfl⟩, hW, hsame.mono hk hn⟩
/-! the heap: a list of places, each with what its cell says -/
def OA (Z : State) (ty : FieldType) (vs : List Int32) (c : Cell) : Prop := Z.isArrayOf c ty ∧ c.vm ≠ .unknown ∧ c.slots = (vs.map Value.int).toArray ∧ (∀ x ∈ vs, fits ty (.int x) = true)
def OL (n0 : Nat) (h : Heap) (L : List (Addr × (Cell → Prop))) : Prop := (L.map (·.1)).Nodup ∧ ∀ q ∈ L, n0 ≤ q.1 ∧ ∃ c : Cell, h[q.1]? = some c ∧ q.2 c
variable {L : List (Addr × (Cell → Prop))} {h' : Heap} {a : Addr} {ty : FieldType} {vs : List Int32} {PP : Cell → Prop}
theorem OL.nil : OL n0 h [] := ⟨List.nodup_nil, fun _ q => nomatch q⟩
theorem OL.ext (H : OL n0 h L) (E : Ext h h') : OL n0 h' L := ⟨H.1, fun q hq => by obtain ⟨h1, c, h2, h3⟩ := H.2 q hq; exact ⟨h1, c, E.2 _ _ h2, h3⟩⟩
theorem OL.lt (H : OL n0 h L) {q : Addr × (Cell → Prop)} (hq : q ∈ L) : q.1 < h.size := by obtain ⟨-, c, h2, -⟩ := H.2 q hq; exact (Array.getElem?_eq_some_iff.mp h2).1
theorem OL.push (H : OL n0 h L) (E : Ext h h') (h0 : n0 ≤ h.size) {c : Cell} (hc : h'[h.size]? = some c) (hp : PP c) : OL n0 h' ((h.size, PP) :: L) := by
  refine ⟨?_, fun q hq => ?_⟩
  · rw [List.map_cons, List.nodup_cons]
    refine ⟨fun hx => ?_, H.1⟩
    obtain ⟨q, hq, e⟩ := List.mem_map.mp hx
    have e' : q.1 = h.size := e
    exact absurd (H.lt hq) (by rw [e']; exact Nat.lt_irrefl _)
  · rcases List.mem_cons.mp hq with hq | hq
    · cases hq; exact ⟨h0, c, hc, hp⟩
    · exact (H.ext E).2 q hq
theorem OL.perm {L' : List (Addr × (Cell → Prop))} (H : OL n0 h L) (q : L.Perm L') : OL n0 h L' := ⟨(q.map (·.1)).nodup_iff.mp H.1, fun z hz => H.2 z (q.mem_iff.mpr hz)⟩
/-- the i-th place comes to the front -/
theorem OL.front (H : OL n0 h L) (i : Nat) {q : Addr × (Cell → Prop)} (hi : L[i]? = some q) : OL n0 h (q :: L.eraseIdx i) := by
  obtain ⟨hl, e⟩ := List.getElem?_eq_some_iff.mp hi
  refine H.perm ?_
  have e1 : L = L.take i ++ q :: L.drop (i + 1) := by rw [← e, List.getElem_cons_drop]; exact (List.take_append_drop i L).symm
  have e2 : L.eraseIdx i = L.take i ++ L.drop (i + 1) := List.eraseIdx_eq_take_drop_succ L i
  rw [e2]
  exact (List.Perm.of_eq e1).trans List.perm_middle
theorem OL.get (H : OL n0 h L) {i : Nat} (hi : L[i]? = some (a, PP)) : n0 ≤ a ∧ ∃ c : Cell, h[a]? = some c ∧ PP c := H.2 (a, PP) (List.mem_of_getElem? hi)
theorem OL.ne (H : OL n0 h L) {i j : Nat} {b : Addr} {PB : Cell → Prop} (hi : L[i]? = some (a, PP)) (hj : L[j]? = some (b, PB)) (hij : i ≠ j) : a ≠ b := by
  intro e; subst e
  have h1 : (L.map (·.1))[i]? = some a := by simp [hi]
  have h2 : (L.map (·.1))[j]? = some a := by simp [hj]
  obtain ⟨l1, -⟩ := List.getElem?_eq_some_iff.mp h1
  exact hij ((List.getElem?_inj l1 H.1).mp (h1.trans h2.symm))
theorem OL.wr (H : OL n0 h L) {i sl : Nat} {v : Value} {P' : Cell → Prop} (hi : L[i]? = some (a, PP)) (W : Wr h h' a sl v) (hP : ∀ c : Cell, h[a]? = some c → PP c → P' (c.setSlot sl v)) : OL n0 h' (L.set i (a, P')) := by
  have hmap : (L.set i (a, P')).map (·.1) = L.map (·.1) := by
    apply List.ext_getElem?
    intro j
    simp only [List.getElem?_map, List.getElem?_set]
    split
    · rename_i e; subst e; rw [if_pos (List.getElem?_eq_some_iff.mp hi).1, hi]; rfl
    · rfl
  refine ⟨by rw [hmap]; exact H.1, fun q hq => ?_⟩
  obtain ⟨j, hj⟩ := List.getElem?_of_mem hq
  rw [List.getElem?_set] at hj
  split at hj
  · rename_i e; subst e
    split at hj
    · cases hj
      obtain ⟨h1, c, h2, h3⟩ := H.get hi
      obtain ⟨c', e1, -, -, -, -, -, e7⟩ := wr_at W h2
      exact ⟨h1, c', e1, by rw [(e7 rfl).1]; exact hP c h2 h3⟩
    · cases hj
  · rename_i e
    obtain ⟨b, PB⟩ := q
    obtain ⟨h1, c, h2, h3⟩ := H.get hj
    obtain ⟨c', e1, -, -, -, e5, -⟩ := wr_at W h2
    have := e5 (H.ne hj hi (fun r => e r.symm))
    subst this
    exact ⟨h1, c', e1, h3⟩


theorem o_idx {j : Int32} {i N : Nat} (hj : j.toInt = i) (hi : i < N) : ¬ (j < 0 ∨ N ≤ j.toNatClampNeg) ∧ j.toNatClampNeg = i := by
  have e : j.toNatClampNeg = i := by simp only [Int32.toNatClampNeg, hj]; rfl
  refine ⟨?_, e⟩
  rw [e, Int32.lt_iff_toInt_lt, hj, show (0 : Int32).toInt = 0 from rfl]; omega
theorem OA.size {c : Cell} (A : OA Z ty vs c) : c.slots.size = vs.length := by rw [A.2.2.1]; simp

theorem o_arraylength (X : OW p l e R s m args below meth c Z y bytes mx ret n0 T h k n) (H : OL n1 h L) (i : Nat) (hi : L[i]? = some (a, OA Z ty vs)) (hd : decode bytes pc = .ok (.arraylength, 1)) (z : Int32) (hz : Int32.ofNat vs.length = z) (pc' : Nat) (hp : pc + 1 = pc')
    (K : OE p e EP below n0 Q T (mkF m pc' Ls (.int z :: st))) : OE p e EP below n0 Q T (mkF m pc Ls (.ref a :: st)) := by
  obtain ⟨hx, hZ, hown, hby, hmx, hret, hnm, hlk, hn0, hT, locs, S, N0⟩ := X; subst hp
  obtain ⟨h1, c', h2, A⟩ := H.get hi
  refine OE.by (fun t q => S.arraylength hx (by rw [hT]; exact h2) (State.isArrayOf_alike hZ.alike A.1) (g := mkF m pc Ls (.ref a :: st)) rfl rfl (hb hby hd) t ?_) K
  have e1 : c'.slots.size.toInt32 = z := by rw [A.size]; exact hz
  rw [e1]; exact q
theorem o_iaload (X : OW p l e R s m args below meth c Z y bytes mx ret n0 T h k n) (H : OL n1 h L) (i : Nat) (hi : L[i]? = some (a, OA Z .int vs)) (hd : decode bytes pc = .ok (.iaload, 1)) {j : Int32} (jn : Nat) (hj : j.toInt = jn) (v : Int32) (hv : vs[jn]? = some v) (pc' : Nat) (hp : pc + 1 = pc')
    (K : OE p e EP below n0 Q T (mkF m pc' Ls (.int v :: st))) : OE p e EP below n0 Q T (mkF m pc Ls (.int j :: .ref a :: st)) := by
  obtain ⟨hx, hZ, hown, hby, hmx, hret, hnm, hlk, hn0, hT, locs, S, N0⟩ := X; subst hp
  obtain ⟨h1, c', h2, A⟩ := H.get hi
  have hlt := (List.getElem?_eq_some_iff.mp hv).1
  obtain ⟨q1, q2⟩ := o_idx hj (N := c'.slots.size) (by rw [A.size]; exact hlt)
  exact OE.by (fun t q => S.iaload hx (by rw [hT]; exact h2) (State.isArrayOf_alike hZ.alike A.1) A.2.1 q1 (v := .int v) (by rw [q2, A.2.2.1]; simp [hv]) (g := mkF m pc Ls (.int j :: .ref a :: st)) rfl rfl (hb hby hd) t q) K
theorem o_baloadB (X : OW p l e R s m args below meth c Z y bytes mx ret n0 T h k n) (H : OL n1 h L) (i : Nat) (hi : L[i]? = some (a, OA Z .byte vs)) (hd : decode bytes pc = .ok (.baload, 1)) {j : Int32} (jn : Nat) (hj : j.toInt = jn) (v : Int32) (hv : vs[jn]? = some v) (pc' : Nat) (hp : pc + 1 = pc')
    (K : OE p e EP below n0 Q T (mkF m pc' Ls (.int v :: st))) : OE p e EP below n0 Q T (mkF m pc Ls (.int j :: .ref a :: st)) := by
  obtain ⟨hx, hZ, hown, hby, hmx, hret, hnm, hlk, hn0, hT, locs, S, N0⟩ := X; subst hp
  obtain ⟨h1, c', h2, A⟩ := H.get hi
  have hlt := (List.getElem?_eq_some_iff.mp hv).1
  obtain ⟨q1, q2⟩ := o_idx hj (N := c'.slots.size) (by rw [A.size]; exact hlt)
  exact OE.by (fun t q => S.baloadBytes hx (by rw [hT]; exact h2) (State.isArrayOf_alike hZ.alike A.1) A.2.1 q1 (v := .int v) (by rw [q2, A.2.2.1]; simp [hv]) (g := mkF m pc Ls (.int j :: .ref a :: st)) rfl rfl (hb hby hd) t q) K
theorem o_baloadZ (X : OW p l e R s m args below meth c Z y bytes mx ret n0 T h k n) (H : OL n1 h L) (i : Nat) (hi : L[i]? = some (a, OA Z .boolean vs)) (hd : decode bytes pc = .ok (.baload, 1)) {j : Int32} (jn : Nat) (hj : j.toInt = jn) (v : Int32) (hv : vs[jn]? = some v) (pc' : Nat) (hp : pc + 1 = pc')
    (K : OE p e EP below n0 Q T (mkF m pc' Ls (.int v :: st))) : OE p e EP below n0 Q T (mkF m pc Ls (.int j :: .ref a :: st)) := by
  obtain ⟨hx, hZ, hown, hby, hmx, hret, hnm, hlk, hn0, hT, locs, S, N0⟩ := X; subst hp
  obtain ⟨h1, c', h2, A⟩ := H.get hi
  have hlt := (List.getElem?_eq_some_iff.mp hv).1
  obtain ⟨q1, q2⟩ := o_idx hj (N := c'.slots.size) (by rw [A.size]; exact hlt)
  exact OE.by (fun t q => S.baloadBooleans hx (by rw [hT]; exact h2) (State.isArrayOf_alike hZ.alike A.1) A.2.1 q1 (v := .int v) (by rw [q2, A.2.2.1]; simp [hv]) (g := mkF m pc Ls (.int j :: .ref a :: st)) rfl rfl (hb hby hd) t q) K



theorem o_b8 (x : Int32) : x.toInt8.toInt32.toInt8.toInt32 = x.toInt8.toInt32 := by simp
/-! contracts and calls -/
def OC (l : Launch) (Z : State) (y : MethodName) (bytes : ByteArray) (mx : Nat) (ret : Option FieldType) (ws : List Jvm.Cond) (rm : Room) (n0 : Nat) (as' : Array Value) (h0 : Heap) (Q : Option Value → Heap → Prop) : Prop :=
  MetFree l y (head1 (Jvm.Cond.code y bytes mx ret :: ws) rm) (fun a U => a = as' ∧ Z.Warmed39 U.vm ∧ U.heap = h0) (fun _ _ _ _ _ => True) (fun _ U o U' => ∃ v L, o = .returned v ∧ (Q v U'.heap ∧ Fr n0 L) ∧ FrameEnd U o U' L rm.cells rm.slots)
theorem OC.of {ws : List Jvm.Cond} {rm : Room} {as' : Array Value} {h0 : Heap} (hp : plainFor y = true) (hn : n0 ≤ h0.size) (Ls : Array Slot) (hef : ∀ m : MethodId, entryFrame m as' mx = mkF m 0 Ls [])
    (B : ∀ p e s m below meth c T, OW p l e rm s m as' below meth c Z y bytes mx ret n0 T h0 0 0 → ∀ Q' : Option Value → Heap → Prop, (∀ r h, Q r h → Q' r h) → OE p e (FE s rm) below n0 Q' T (mkF m 0 Ls [])) : OC l Z y bytes mx ret ws rm n0 as' h0 Q := by
  refine MetFree.of_bodySF hp hisR ?_
  intro p e s m args below meth c s₁ Bd hml0 hP hK
  obtain ⟨rfl, hZ, hh⟩ := hP
  have hnm := (name_of_methodNamed Bd.named Bd.method).1
  have X0 : Stand p l e rm s m args below meth c s₁ [] 0 0 := Stand.of_body Bd
  have e0 : s₁.heap = h0 := by rw [← hh, Bd.state]; rfl
  rw [hef m]
  exact B p e s m below meth c s₁ ⟨Bd.exec, hZ, findClass_of_methodNamed Bd.named, Bd.bytes, hml0, Bd.returns, hnm, Bd.notSynchronized, by rw [hh]; exact hn, e0, [], X0, Fr.nil n0⟩ Q (fun _ _ q => q)
theorem o_callS (X : OW p l e R s m args below meth c Z y bytes mx ret n0 T h k n) {i : Nat} (hd : decode bytes pc = .ok (.invokestatic i, 3)) {y' : MethodName} {bytes' : ByteArray} {mx' : Nat} {ret' : Option FieldType} {rm : Room} {as' : Array Value} {Q' : Option Value → Heap → Prop} (C : OC l Z y' bytes' mx' ret' [] rm n0 as' h Q')
    (w1 : (Cond.methodLink y.cls i y').before a0 Z = true) (w2 : (Cond.static y').before a0 Z = true) (w3 : (Cond.initialized y'.cls).before a0 Z = true) (w4 : (Cond.code y' bytes' mx' ret').before a0 Z = true) (hy : y'.cls ≠ "java/lang/invoke/MethodHandle" ∧ y'.cls ≠ "java/lang/invoke/VarHandle")
    (Wd : Nat) (hf : rm.frames + 1 ≤ R.frames) (hlo : Wd + (mx' + 11) + rm.locals ≤ R.locals) (hls : Ls.size = mx) (argsL : List Value) (has : as' = argsL.toArray) {ps : List FieldType} {r' : Option FieldType} (hpd : parseMethodDescriptor y'.desc = some ⟨ps, r'⟩) (hlen : argsL.length = ps.length) (hst : st = argsL.reverse ++ rest) (hW : (rest.map fun v => v.category).sum ≤ Wd) (k2 n2 : Nat) (hk2 : k + rm.cells = k2) (hn2 : n + rm.slots = n2) (hk : k2 ≤ R.cells) (hn : n2 ≤ R.slots) (pc' : Nat) (hp : pc + 3 = pc')
    (K : ∀ v T' h', OW p l e R s m args below meth c Z y bytes mx ret n0 T' h' k2 n2 → Q' v h' → OE p e EP below n0 Q T' (mkF m pc' Ls (v.toList ++ rest))) : OE p e EP below n0 Q T (mkF m pc Ls st) := by
  obtain ⟨hx, hZ, hown, hby, hmx, hret, hnm, hlk, hn0, hT, locs, S, N0⟩ := X; subst hp has hk2 hn2
  obtain ⟨v, _, ⟨T2, L2, k2, n2⟩, -, X2, ⟨Lc, hQ, l2, y2, z2⟩, stp⟩ := Jvm.LawKit.callS S hx (y := y') hown (mvT hZ w1) (mvT hZ w2) (mvT hZ w3) (mvT hZ w4) hy (backOf (W := Wd) (Q := fun v hh LL => Q' v hh ∧ Fr n0 LL) C hZ w4 w3 hf hlo) (g := mkF m pc Ls st) rfl (by rw [hmx]; exact hls) (argsL := argsL) (rest := rest) (lenOf hpd hlen) hst (by show 2 * 0 + _ ≤ _; omega) (hb hby hd) (fun _ _ => ⟨rfl, hT, hk, hn⟩)
  dsimp only [Pt.U, Pt.locs, Pt.cells, Pt.slots] at X2 l2 y2 z2 stp hQ
  subst l2 y2 z2
  exact OE.by stp (K v T2 T2.heap ⟨hx, hZ, hown, hby, hmx, hret, hnm, hlk, hn0, rfl, _, X2, N0.app hQ.2⟩ hQ.1)
/-! objects -/
def OFc (Z : State) (cell : Cell) (O nm d : String) (v : Value) : Prop := ∃ (cf : ClassId) (k : Class) (i : Nat) (f : Field), Z.fieldFound? O nm d = some (cf, k, i, f) ∧ f.isStatic = false ∧ cell.vm ≠ .unknown ∧ cell.vm.isStatics = false ∧ Z.vm.assignable cell.cls cf = true ∧ cell.slots[f.slot]? = some v
def OO (Z : State) (C : String) (fs : List (String × String × String × Value)) (cell : Cell) : Prop := (∃ k : Class, Z.vm.findClass C = some cell.cls ∧ Z.vm.classes[cell.cls]? = some k ∧ cell.vm.isStatics = false ∧ (k.kind = .ordinary → cell.slots.size = k.instanceTypes.size)) ∧ ∀ f ∈ fs, OFc Z cell f.1 f.2.1 f.2.2.1 f.2.2.2
variable {fs : List (String × String × String × Value)} {C O nm d : String} {v : Value}
theorem oq0 {α : Type} {P : α → Prop} : ∀ q ∈ ([] : List α), P q := fun _ q => nomatch q
theorem oqS {α : Type} {P : α → Prop} {z : α} {M : List α} (q : P z) (r : ∀ x ∈ M, P x) : ∀ x ∈ z :: M, P x := List.forall_mem_cons.mpr ⟨q, r⟩
theorem o_new (X : OW p l e R s m args below meth c Z y bytes mx ret n0 T h k n) (H : OL n0 h L) {i nn : Nat} (hd : decode bytes pc = .ok (.new i, 3)) (w : (Cond.classLink y.cls i C).before a0 Z = true) (wi : (Cond.instantiable C nn).before a0 Z = true) (wz : (Cond.initialized C).before a0 Z = true) (fs : List (String × String × String × Value)) (hfs : ∀ f ∈ fs, ∃ ty, Laid Z a0 C f.1 f.2.1 f.2.2.1 ∧ parseFieldDescriptor f.2.2.1 = some ty ∧ f.2.2.2 = defaultValue ty) (k2 n2 : Nat) (hk2 : k + 1 = k2) (hn2 : n + nn = n2) (hc : k2 ≤ R.cells) (hl : n2 ≤ R.slots) (pc' : Nat) (hp : pc + 3 = pc')
    (K : ∀ T' h' a, OW p l e R s m args below meth c Z y bytes mx ret n0 T' h' k2 n2 → OL n0 h' ((a, OO Z C fs) :: L) → OE p e EP below n0 Q T' (mkF m pc' Ls (.ref a :: st))) : OE p e EP below n0 Q T (mkF m pc Ls st) := by
  have h0 := X.size
  obtain ⟨hx, hZ, hown, hby, hmx, hret, hnm, hlk, hn0, hT, locs, S, N0⟩ := X; subst hp hk2 hn2
  obtain ⟨T', h', S', hT', E, A, D, -, stp⟩ := newO S hx hZ hown w wi wz hT (g := mkF m pc Ls st) rfl (hb hby hd) hc hl
  obtain ⟨cell, kk, g1, g2, g3, g4, g5⟩ := A
  refine OE.by stp (K T' h' h.size ⟨hx, hZ, hown, hby, hmx, hret, hnm, hlk, hn0, hT', locs, S', N0⟩ (H.push E h0 g1 ⟨⟨kk, g2, g3, g4, g5⟩, fun f hf => ?_⟩))
  obtain ⟨ty, q1, q2, q3⟩ := hfs f hf
  obtain ⟨cell', cf, kf, ii, ff, r1, r2, r3, r4, r5, r6, r7⟩ := D q1 q2
  cases g1.symm.trans r1
  exact ⟨cf, kf, ii, ff, r2, r3, r4, r5, r6, by rw [q3]; exact r7⟩
theorem OO.fld {cell : Cell} (A : OO Z C fs cell) (hc : h[a]? = some cell) {j : Nat} (hj : fs[j]? = some (O, nm, d, v)) : Fld Z h a O nm d v := by
  obtain ⟨cf, kf, ii, ff, r2, r3, r4, r5, r6, r7⟩ := A.2 _ (List.mem_of_getElem? hj)
  exact ⟨cell, cf, kf, ii, ff, hc, r2, r3, r4, r5, r6, r7⟩
theorem OO.exa {cell : Cell} (A : OO Z C fs cell) (hc : h[a]? = some cell) : Exa Z h a C := by
  obtain ⟨⟨kk, g2, g3, g4, g5⟩, -⟩ := A; exact ⟨cell, kk, hc, g2, g3, g4, g5⟩
theorem o_getF (X : OW p l e R s m args below meth c Z y bytes mx ret n0 T h k n) (H : OL n1 h L) (i : Nat) (hi : L[i]? = some (a, OO Z C fs)) {ix : Nat} (hd : decode bytes pc = .ok (.getfield ix, 3)) (j : Nat) (hj : fs[j]? = some (O, nm, d, v)) (w : (Cond.fieldLink y.cls ix O nm d).before a0 Z = true) (pc' : Nat) (hp : pc + 3 = pc')
    (K : ∀ T', OW p l e R s m args below meth c Z y bytes mx ret n0 T' h k n → OE p e EP below n0 Q T' (mkF m pc' Ls (v :: st))) : OE p e EP below n0 Q T (mkF m pc Ls (.ref a :: st)) := by
  obtain ⟨hx, hZ, hown, hby, hmx, hret, hnm, hlk, hn0, hT, locs, S, N0⟩ := X; subst hp
  obtain ⟨h1, cell, h2, A⟩ := H.get hi
  obtain ⟨T', S', hT', stp⟩ := getF S hx hZ hown (host := "") (Or.inl w) Via.refl hT (A.fld h2 hj) (g := mkF m pc Ls (.ref a :: st)) rfl rfl (hb hby hd)
  exact OE.by stp (K T' ⟨hx, hZ, hown, hby, hmx, hret, hnm, hlk, hn0, hT', locs, S', N0⟩)
theorem o_putF (X : OW p l e R s m args below meth c Z y bytes mx ret n0 T h k n) (H : OL n0 h L) (i : Nat) (hi : L[i]? = some (a, OO Z C fs)) {ix kk : Nat} (hd : decode bytes pc = .ok (.putfield ix, 3)) (j : Nat) {old : Value} (hj : fs[j]? = some (O, nm, d, old)) (w : (Cond.fieldLink y.cls ix O nm d).before a0 Z = true)
    (Lw : (Cond.lays C O nm d).before a0 Z = true ∨ ((Cond.laysFinal C O nm d).before a0 Z = true ∧ y.cls = O ∧ y.name = "<init>")) (wi : (Cond.instantiable C kk).before a0 Z = true) {ty : FieldType} (hty : parseFieldDescriptor d = some ty) (hnr : narrow ty v = v) (hft : fits ty v = true) (hsl : ∀ q ∈ fs.eraseIdx j, RoadKit.slotOf Z q.1 q.2.1 q.2.2.1 ≠ RoadKit.slotOf Z O nm d) (pc' : Nat) (hp : pc + 3 = pc')
    (K : ∀ T' h', OW p l e R s m args below meth c Z y bytes mx ret n0 T' h' k n → OL n0 h' (L.set i (a, OO Z C (fs.set j (O, nm, d, v)))) → OE p e EP below n0 Q T' (mkF m pc' Ls st)) : OE p e EP below n0 Q T (mkF m pc Ls (v :: .ref a :: st)) := by
  obtain ⟨hx, hZ, hown, hby, hmx, hret, hnm, hlk, hn0, hT, locs, S, N0⟩ := X; subst hp
  obtain ⟨h1, cell, h2, A⟩ := H.get hi
  obtain ⟨T', h', S', hT', W, stp⟩ := putF S hx hZ hown (host := "") (Or.inl w) Via.refl hT (A.fld h2 hj) (A.exa h2) (Lw.imp id fun q => ⟨q.1, q.2.1, hnm.trans q.2.2⟩) wi hty hnr hft (g := mkF m pc Ls (v :: .ref a :: st)) rfl rfl (hb hby hd)
  refine OE.by stp (K T' h' ⟨hx, hZ, hown, hby, hmx, hret, hnm, hlk, hn0, hT', _, S', N0.app fun z hz => by cases List.mem_singleton.mp hz; exact h1⟩ (H.wr hi W fun c' hc' B => ?_))
  obtain ⟨⟨kq, g2, g3, g4, g5⟩, F⟩ := B
  refine ⟨⟨kq, g2, g3, g4, fun q => by rw [sz_set]; exact g5 q⟩, fun q hq => ?_⟩
  obtain ⟨j', hj'⟩ := List.getElem?_of_mem hq
  rw [List.getElem?_set] at hj'
  split at hj'
  · split at hj'
    · cases hj'
      obtain ⟨cf, kf, ii, ff, r2, r3, r4, r5, r6, r7⟩ := F _ (List.mem_of_getElem? hj)
      have hlt := (Array.getElem?_eq_some_iff.mp r7).1
      refine ⟨cf, kf, ii, ff, r2, r3, r4, r5, r6, ?_⟩
      have es : RoadKit.slotOf Z O nm d = ff.slot := by simp only [RoadKit.slotOf]; simp only at r2; rw [r2]; rfl
      show (c'.slots.setIfInBounds (RoadKit.slotOf Z O nm d) v)[ff.slot]? = some v
      rw [es, Array.getElem?_setIfInBounds_self_of_lt hlt]
    · cases hj'
  · rename_i hne
    obtain ⟨cf, kf, ii, ff, r2, r3, r4, r5, r6, r7⟩ := F _ (List.mem_of_getElem? hj')
    refine ⟨cf, kf, ii, ff, r2, r3, r4, r5, r6, ?_⟩
    have ne := hsl q (List.mem_eraseIdx_iff_getElem?.mpr ⟨j', fun z => hne z.symm, hj'⟩)
    have es : RoadKit.slotOf Z q.1 q.2.1 q.2.2.1 = ff.slot := by simp only [RoadKit.slotOf]; rw [r2]; rfl
    show (c'.slots.setIfInBounds (RoadKit.slotOf Z O nm d) v)[ff.slot]? = some q.2.2.2
    rw [← es, Array.getElem?_setIfInBounds_ne (fun z => ne z.symm), es]; exact r7
theorem o_initO (X : OW p l e R s m args below meth c Z y bytes mx ret n0 T h k n) {i : Nat} (hd : decode bytes pc = .ok (.invokespecial i, 3)) (w1 : (Cond.methodLink y.cls i Lib.objectInit).before a0 Z = true) (w2 : (Cond.instanceMethod Lib.objectInit).before a0 Z = true) (w3 : (Cond.code Lib.objectInit ⟨#[0xb1]⟩ 1 none).before a0 Z = true) (hls : Ls.size = mx) (hf : 1 ≤ R.frames) (Wd : Nat) (hW : (st.map fun v => v.category).sum ≤ Wd) (hlo : Wd + 12 ≤ R.locals) (pc' : Nat) (hp : pc + 3 = pc')
    (K : ∀ T', OW p l e R s m args below meth c Z y bytes mx ret n0 T' h k n → OE p e EP below n0 Q T' (mkF m pc' Ls st)) : OE p e EP below n0 Q T (mkF m pc Ls (.ref a :: st)) := by
  obtain ⟨hx, hZ, hown, hby, hmx, hret, hnm, hlk, hn0, hT, locs, S, N0⟩ := X; subst hp
  obtain ⟨T', S', hT', stp⟩ := initO S hx hZ hown w1 w2 w3 hT (g := mkF m pc Ls (.ref a :: st)) rfl (by rw [hmx]; exact hls) rfl (hb hby hd) hf (W := Wd) (by show 2 * 0 + _ ≤ _; omega) hlo
  exact OE.by stp (K T' ⟨hx, hZ, hown, hby, hmx, hret, hnm, hlk, hn0, hT', locs, S', N0⟩)
theorem o_callI (X : OW p l e R s m args below meth c Z y bytes mx ret n0 T h k n) {i : Nat} (hd : decode bytes pc = .ok (.invokespecial i, 3)) {y' : MethodName} {bytes' : ByteArray} {mx' : Nat} {rm : Room} {as' : Array Value} {Q' : Option Value → Heap → Prop} (C : OC l Z y' bytes' mx' none [] rm n0 as' h Q') (hini : y'.name = "<init>")
    (w1 : (Cond.methodLink y.cls i y').before a0 Z = true) (w2 : (Cond.instanceMethod y').before a0 Z = true) (w3 : (Cond.initialized y'.cls).before a0 Z = true) (w4 : (Cond.code y' bytes' mx' none).before a0 Z = true) (hy : y'.cls ≠ "java/lang/invoke/MethodHandle" ∧ y'.cls ≠ "java/lang/invoke/VarHandle")
    (Wd : Nat) (hf : rm.frames + 1 ≤ R.frames) (hlo : Wd + (mx' + 11) + rm.locals ≤ R.locals) (hls : Ls.size = mx) (argsL : List Value) (has : as' = (.ref a :: argsL).toArray) {ps : List FieldType} {r' : Option FieldType} (hpd : parseMethodDescriptor y'.desc = some ⟨ps, r'⟩) (hlen : argsL.length = ps.length) (hst : st = argsL.reverse ++ .ref a :: rest) (hW : (rest.map fun v => v.category).sum ≤ Wd) (k2 n2 : Nat) (hk2 : k + rm.cells = k2) (hn2 : n + rm.slots = n2) (hk : k2 ≤ R.cells) (hn : n2 ≤ R.slots) (pc' : Nat) (hp : pc + 3 = pc')
    (K : ∀ v T' h', OW p l e R s m args below meth c Z y bytes mx ret n0 T' h' k2 n2 → Q' v h' → OE p e EP below n0 Q T' (mkF m pc' Ls (v.toList ++ rest))) : OE p e EP below n0 Q T (mkF m pc Ls st) := by
  obtain ⟨hx, hZ, hown, hby, hmx, hret, hnm, hlk, hn0, hT, locs, S, N0⟩ := X; subst hp has hk2 hn2
  obtain ⟨v, _, ⟨T2, L2, k2, n2⟩, -, X2, ⟨Lc, hQ, l2, y2, z2⟩, stp⟩ := S.specialBack hx (y := y') hini hown (mvT hZ w1) (mvT hZ w2) (mvT hZ w4) hy (backOf (W := Wd) (Q := fun v hh LL => Q' v hh ∧ Fr n0 LL) C hZ w4 w3 hf hlo) (g := mkF m pc Ls st) rfl (by rw [hmx]; exact hls) (Steps.refl _) (a := a) (argsL := argsL) (rest := rest) (lenOf hpd hlen) hst (by show 2 * 0 + _ ≤ _; omega) (hb hby hd) (fun _ _ => ⟨rfl, hT, hk, hn⟩)
  dsimp only [Pt.U, Pt.locs, Pt.cells, Pt.slots] at X2 l2 y2 z2 stp hQ
  subst l2 y2 z2
  exact OE.by (fun t q => stp.trans q) (K v T2 T2.heap ⟨hx, hZ, hown, hby, hmx, hret, hnm, hlk, hn0, rfl, _, X2, N0.app hQ.2⟩ hQ.1)
theorem o_callV (X : OW p l e R s m args below meth c Z y bytes mx ret n0 T h k n) (H : OL n1 h L) (io : Nat) {Cc : String} (hi : L[io]? = some (a, OO Z Cc fs)) {i : Nat} (hd : decode bytes pc = .ok (.invokevirtual i, 3)) {y' : MethodName} {bytes' : ByteArray} {mx' : Nat} {ret' : Option FieldType} {rm : Room} {as' : Array Value} {Q' : Option Value → Heap → Prop} (C : OC l Z y' bytes' mx' ret' [] rm n0 as' h Q')
    (w1 : (Cond.methodLink y.cls i y').before a0 Z = true) (w2 : (Cond.declares y').before a0 Z = true) (w5 : (Cond.selects Cc y' y').before a0 Z = true) (w6 : (Cond.instanceMethod y').before a0 Z = true) (w3 : (Cond.initialized y'.cls).before a0 Z = true) (w4 : (Cond.code y' bytes' mx' ret').before a0 Z = true) (hy : y'.cls ≠ "java/lang/invoke/MethodHandle" ∧ y'.cls ≠ "java/lang/invoke/VarHandle")
    (Wd : Nat) (hf : rm.frames + 1 ≤ R.frames) (hlo : Wd + (mx' + 11) + rm.locals ≤ R.locals) (hls : Ls.size = mx) (argsL : List Value) (has : as' = (.ref a :: argsL).toArray) {ps : List FieldType} {r' : Option FieldType} (hpd : parseMethodDescriptor y'.desc = some ⟨ps, r'⟩) (hlen : argsL.length = ps.length) (hst : st = argsL.reverse ++ .ref a :: rest) (hW : (rest.map fun v => v.category).sum ≤ Wd) (k2 n2 : Nat) (hk2 : k + rm.cells = k2) (hn2 : n + rm.slots = n2) (hk : k2 ≤ R.cells) (hn : n2 ≤ R.slots) (pc' : Nat) (hp : pc + 3 = pc')
    (K : ∀ v T' h', OW p l e R s m args below meth c Z y bytes mx ret n0 T' h' k2 n2 → Q' v h' → OE p e EP below n0 Q T' (mkF m pc' Ls (v.toList ++ rest))) : OE p e EP below n0 Q T (mkF m pc Ls st) := by
  obtain ⟨hx, hZ, hown, hby, hmx, hret, hnm, hlk, hn0, hT, locs, S, N0⟩ := X; subst hp has hk2 hn2
  obtain ⟨h1, cell, h2, A⟩ := H.get hi
  obtain ⟨cq, kq, q1, q2, q3⟩ := isOf hZ hT (A.exa h2)
  obtain ⟨v, _, ⟨T2, L2, k2, n2⟩, -, X2, ⟨Lc, hQ, l2, y2, z2⟩, stp⟩ := S.virtualBack hx (y := y') (z := y') hown (mvT hZ w1) (mvT hZ w2) (notFace_of_selects (args := #[]) (mvT hZ w5)) (mvT hZ w5) (mvT hZ w6) hy (backOf (W := Wd) (Q := fun v hh LL => Q' v hh ∧ Fr n0 LL) C hZ w4 w3 hf hlo) q1 q3 (g := mkF m pc Ls st) rfl (by rw [hmx]; exact hls) (Steps.refl _) (argsL := argsL) (rest := rest) (lenOf hpd hlen) hst (by show 2 * 0 + _ ≤ _; omega) (hb hby hd) (fun _ _ => ⟨rfl, hT, hk, hn⟩)
  dsimp only [Pt.U, Pt.locs, Pt.cells, Pt.slots] at X2 l2 y2 z2 stp hQ
  subst l2 y2 z2
  exact OE.by (fun t q => stp.trans q) (K v T2 T2.heap ⟨hx, hZ, hown, hby, hmx, hret, hnm, hlk, hn0, rfl, _, X2, N0.app hQ.2⟩ hQ.1)
/-! a String constant: the wide end, a constant loaded, a callee that may load -/
variable {EL : List (String × Nat)} {vm0 : Vm} {k0 : Nat} {text : String}
def WE (Z : State) (EL : List (String × Nat)) (s : State) (R : Room) : Outcome → State → List Loc → Prop := fun o t L => CHr Z EL s.vm s.heap t.vm t.heap ∧ ReturnedEndW s o t L R.cells R.slots
def OCW (l : Launch) (Z : State) (EL : List (String × Nat)) (y : MethodName) (bytes : ByteArray) (mx : Nat) (ret : Option FieldType) (ws : List Jvm.Cond) (rm : Room) (n0 : Nat) (as' : Array Value) (h0 : Heap) (Q : Option Value → Heap → Prop) : Prop :=
  MetFree l y (head1 (Jvm.Cond.code y bytes mx ret :: ws) rm) (fun a U => a = as' ∧ Z.Warmed39 U.vm ∧ U.heap = h0 ∧ CHv Z EL U.vm h0) (fun _ _ _ _ _ => True) (fun _ U o U' => ∃ v L, o = .returned v ∧ (Q v U'.heap ∧ Fr n0 L) ∧ CHr Z EL U.vm U.heap U'.vm U'.heap ∧ ReturnedEndW U o U' L rm.cells rm.slots)
theorem OCW.of {ws : List Jvm.Cond} {rm : Room} {as' : Array Value} {h0 : Heap} (hp : plainFor y = true) (hn : n0 ≤ h0.size) (Ls : Array Slot) (hef : ∀ m : MethodId, entryFrame m as' mx = mkF m 0 Ls [])
    (B : ∀ p e s m below meth c T, OW p l e rm (s.setVm s.vm) m as' below meth c Z y bytes mx ret n0 T h0 0 0 → s.Since s.vm 0 → CHr Z EL s.vm s.heap s.vm h0 → ∀ Q' : Option Value → Heap → Prop, (∀ r h, Q r h → Q' r h) → OE p e (WE Z EL s rm) below n0 Q' T (mkF m 0 Ls [])) : OCW l Z EL y bytes mx ret ws rm n0 as' h0 Q := by
  refine MetFree.of_bodySF hp hisR ?_
  intro p e s m args below meth c s₁ Bd hml0 hP hK
  obtain ⟨rfl, hZ, hh, hC⟩ := hP
  have hnm := (name_of_methodNamed Bd.named Bd.method).1
  have X0 : Stand p l e rm s m args below meth c s₁ [] 0 0 := Stand.of_body Bd
  have e0 : s₁.heap = h0 := by rw [← hh, Bd.state]; rfl
  rw [hef m]
  obtain ⟨t, o, q1, q2, q3, v, L, q4, q5, q6⟩ := B p e s m below meth c s₁ ⟨Bd.exec, hZ, findClass_of_methodNamed Bd.named, Bd.bytes, hml0, Bd.returns, hnm, Bd.notSynchronized, by show n0 ≤ s.heap.size; rw [hh]; exact hn, e0, [], X0, Fr.nil n0⟩ ((State.WarmedH.refl s).since 0) (by subst hh; exact CHr.refl hC) Q (fun _ _ q => q)
  exact ⟨t, o, q1, q2, q3, v, L, q4, q5, q6.1, q6.2⟩
theorem o_retZW (X : OW p l e R (s.setVm vm0) m args below meth c Z y bytes mx (some .boolean) n0 T h k n) (hS : s.Since vm0 k0) (hk0 : k0 ≤ h.size) (hEL : EW Z a0 EL) (HC : CHr Z EL s.vm s.heap vm0 h) {z : Int32} (hd : decode bytes pc = .ok (.ireturn, 1)) (hk : k ≤ R.cells) (hn : n ≤ R.slots) (hq : Q (some (.int (nar .boolean z))) h) : OE p e (WE Z EL s R) below n0 Q T (mkF m pc Ls (.int z :: st)) := by
  obtain ⟨hx, hZ, hown, hby, hmx, hret, hnm, hlk, h0, hT, locs, S, N⟩ := X
  obtain ⟨fs, hr, hrun, hended, hW⟩ := S.leaveW hS (by rw [hT]; exact hk0) (v := some (.int (nar .boolean z))) (fun q => by rw [hret] at q; cases q) hlk
  refine ⟨_, _, retN S hx (t := .boolean) hret (by simp) (hb hby hd) hr, hrun, hended, _, _, rfl, ⟨by show Q _ T.heap; rw [hT]; exact hq, N⟩, ?_, hW.1, hW.2.1, hW.2.2.1, hW.2.2.2.mono hk hn⟩
  show CHr Z EL s.vm s.heap T.vm T.heap
  rw [hT]; exact HC.trans (CHv.at S hZ hEL HC.1)
theorem o_callSW (X : OW p l e R (s.setVm vm0) m args below meth c Z y bytes mx ret n0 T h k n) (hS : s.Since vm0 k0) (hk0 : k0 ≤ h.size) (hEL : EW Z a0 EL) (HC : CHv Z EL vm0 h) {i : Nat} (hd : decode bytes pc = .ok (.invokestatic i, 3)) {y' : MethodName} {bytes' : ByteArray} {mx' : Nat} {ret' : Option FieldType} {rm : Room} {as' : Array Value} {Q' : Option Value → Heap → Prop} (C : OCW l Z EL y' bytes' mx' ret' [] rm n0 as' h Q')
    (w1 : (Cond.methodLink y.cls i y').before a0 Z = true) (w2 : (Cond.static y').before a0 Z = true) (w3 : (Cond.initialized y'.cls).before a0 Z = true) (w4 : (Cond.code y' bytes' mx' ret').before a0 Z = true) (hy : y'.cls ≠ "java/lang/invoke/MethodHandle" ∧ y'.cls ≠ "java/lang/invoke/VarHandle")
    (Wd : Nat) (hf : rm.frames + 1 ≤ R.frames) (hlo : Wd + (mx' + 11) + rm.locals ≤ R.locals) (hls : Ls.size = mx) (argsL : List Value) (has : as' = argsL.toArray) {ps : List FieldType} {r' : Option FieldType} (hpd : parseMethodDescriptor y'.desc = some ⟨ps, r'⟩) (hlen : argsL.length = ps.length) (hst : st = argsL.reverse ++ rest) (hW : (rest.map fun v => v.category).sum ≤ Wd) (k2 n2 : Nat) (hk2 : k + rm.cells = k2) (hn2 : n + rm.slots = n2) (hk : k2 ≤ R.cells) (hn : n2 ≤ R.slots) (pc' : Nat) (hp : pc + 3 = pc')
    (K : ∀ v vm1 T' h', OW p l e R (s.setVm vm1) m args below meth c Z y bytes mx ret n0 T' h' k2 n2 → s.Since vm1 h'.size → CHr Z EL vm0 h vm1 h' → Q' v h' → OE p e EP below n0 Q T' (mkF m pc' Ls (v.toList ++ rest))) : OE p e EP below n0 Q T (mkF m pc Ls st) := by
  obtain ⟨hx, hZ, hown, hby, hmx, hret, hnm, hlk, hn0, hT, locs, S, N0⟩ := X; subst hp has hk2 hn2
  obtain ⟨v, _, ⟨T2, L2, k2, n2⟩, -, X2, hS2, hge, ⟨Lc, hQ, l2, y2, z2, hC2⟩, stp⟩ := callSS S hx (y := y') hown (mvT hZ w1) (mvT hZ w2) (mvT hZ w3) (mvT hZ w4) hy (backOfSH (W := Wd) (Q := fun v hh LL => Q' v hh ∧ Fr n0 LL) C hZ w4 w3 hf hlo hEL HC) (g := mkF m pc Ls st) rfl (by rw [hmx]; exact hls) (argsL := argsL) (rest := rest) (lenOf hpd hlen) hst (by show 2 * 0 + _ ≤ _; omega) (hb hby hd) (fun _ _ => ⟨rfl, hT, hk, hn⟩)
  dsimp only [Pt.U, Pt.locs, Pt.cells, Pt.slots] at X2 l2 y2 z2 stp hQ hS2 hge hC2
  subst l2 y2 z2
  obtain ⟨X3, hS3, hZ3, hown3⟩ := rebS hS (by rw [hT]; exact hk0 : k0 ≤ T.heap.size) X2 hS2 hge hZ hown
  exact OE.by (fun t q => stp.trans q) (K v T2.vm T2 T2.heap ⟨hx, hZ3, hown3, hby, hmx, hret, hnm, hlk, hn0, rfl, _, X3, N0.app hQ.2⟩ hS3 hC2 hQ.1)
theorem o_getS (X : OW p l e R s m args below meth c Z y bytes mx ret n0 T h k n) {ix : Nat} (hd : decode bytes pc = .ok (.getstatic ix, 3)) {O nm d : String} {v : Value} (F : Sta Z h O nm d v) (w : (Cond.fieldLink y.cls ix O nm d).before a0 Z = true) (pc' : Nat) (hp : pc + 3 = pc')
    (K : ∀ T', OW p l e R s m args below meth c Z y bytes mx ret n0 T' h k n → OE p e EP below n0 Q T' (mkF m pc' Ls (v :: st))) : OE p e EP below n0 Q T (mkF m pc Ls st) := by
  obtain ⟨hx, hZ, hown, hby, hmx, hret, hnm, hlk, hn0, hT, locs, S, N0⟩ := X; subst hp
  obtain ⟨T', S', hT', stp⟩ := getS (host := "") S hx hZ hown w Via.refl hT F (g := mkF m pc Ls st) rfl (hb hby hd)
  exact OE.by stp (K T' ⟨hx, hZ, hown, hby, hmx, hret, hnm, hlk, hn0, hT', locs, S', N0⟩)
abbrev StrN : String := "java/lang/String"
/-- a String of known bytes, as a layout of two places -/
theorem o_str {a b : Addr} {kk : ClassId} {z : Int32} {vs : List Int32} {ni : Nat} (wi : (Cond.instantiable StrN ni).before a0 Z = true) (E : Exa Z h a StrN) (V : Fld Z h a StrN "value" "[B" (.ref b)) (Cd : Fld Z h a StrN "coder" "B" (.int 0)) (A : Arv Z h b kk .byte z (vs.map Value.int) (.int 0)) (hz : z.toNatClampNeg = vs.length) : OL 0 h ((a, OO Z StrN [(StrN, "value", "[B", .ref b), (StrN, "coder", "B", .int 0)]) :: (b, OA Z .byte vs) :: []) := by
  have ne : a ≠ b := Exa.neArv E A wi
  obtain ⟨cell, kc, e1, e2, e3, e4, e5⟩ := E
  obtain ⟨c2, cf, k, i, f, v1, v2, v3, v4, v5, v6, v7⟩ := V
  cases e1.symm.trans v1
  obtain ⟨c3, cf', k', i', f', d1, d2, d3, d4, d5, d6, d7⟩ := Cd
  cases e1.symm.trans d1
  obtain ⟨ca, AA, q1, q2, q3, H, G⟩ := A
  rw [hz] at q2
  have gd : ∀ i, (hi : i < vs.length) → (vs.map Value.int).getD i (.int 0) = .int vs[i] := fun i hi => by rw [List.getD_eq_getElem?_getD, List.getElem?_map, List.getElem?_eq_getElem hi]; rfl
  refine ⟨by simp [ne], fun q hq => ⟨Nat.zero_le _, ?_⟩⟩
  simp only [List.mem_cons, List.not_mem_nil, or_false] at hq
  rcases hq with rfl | rfl
  · refine ⟨cell, e1, ⟨kc, e2, e3, e4, e5⟩, oqS ⟨cf, k, i, f, v2, v3, v4, v5, v6, v7⟩ (oqS ⟨cf', k', i', f', d2, d3, d4, d5, d6, d7⟩ oq0)⟩
  · refine ⟨ca, AA.1, AA.2.1, AA.2.2, ?_, fun x hx => ?_⟩
    · apply Array.ext_getElem?
      intro i
      by_cases hi : i < vs.length
      · rw [H i (by rw [q2]; exact hi), gd i hi]; simp [List.getElem?_eq_getElem hi]
      · rw [Array.getElem?_eq_none (by rw [q2]; omega)]; simp [List.getElem?_eq_none (Nat.le_of_not_lt hi)]
    · obtain ⟨i, hi, rfl⟩ := List.getElem_of_mem hx
      rw [← gd i hi]; exact G i (by rw [q2]; exact hi)
theorem o_ldcStr (X : OW p l e R (s.setVm vm0) m args below meth c Z y bytes mx ret n0 T h k n) (hS : s.Since vm0 k0) (hk0 : k0 ≤ h.size) (hEL : EW Z a0 EL) (HC : CHv Z EL vm0 h) {i : Nat} (hd : decode bytes pc = .ok (.ldc i, 2)) (hmem : (y.cls, i) ∈ EL) (w : (Cond.stringLink y.cls i text).before a0 Z = true) (wS : ∀ a ∈ Bundle.stringAtoms, a.before a0 Z = true) (vs : List Int32) (ht : (∀ c ∈ text.toList, c.toNat < 256) ∧ text.toList.map (fun c => Value.int (Jvm.Lit.byteI c.toNat.toUInt16)) = vs.map Value.int) (z : Int32) (hz : ¬ z < 0) (hl : z.toNatClampNeg = vs.length) (nn : Nat) (hnn : 4 * text.toList.length ≤ nn) (hbig : nn ≤ 536870912) (k2 n2 : Nat) (hk2 : k + 2 = k2) (hn2 : n + (nn + 4) = n2) (hc : k2 ≤ R.cells) (hsl : n2 ≤ R.slots) (pc' : Nat) (hp : pc + 2 = pc')
    (K : ∀ a b vm1 k1 T' h', OW p l e R (s.setVm vm1) m args below meth c Z y bytes mx ret n0 T' h' k2 n2 → s.Since vm1 k1 → k1 ≤ h'.size → CHr Z EL vm0 h vm1 h' → Ext h h' → OL 0 h' ((a, OO Z StrN [(StrN, "value", "[B", .ref b), (StrN, "coder", "B", .int 0)]) :: (b, OA Z .byte vs) :: []) → OE p e EP below n0 Q T' (mkF m pc' Ls (.ref a :: st))) : OE p e EP below n0 Q T (mkF m pc Ls st) := by
  obtain ⟨hx, hZ, hown, hby, hmx, hret, hnm, hlk, hn0, hT, locs, S, N0⟩ := X; subst hp hk2 hn2
  have wi : (Cond.instantiable StrN 4).before a0 Z = true := wS _ (by simp [Bundle.stringAtoms, Bundle.sN])
  obtain ⟨a, T', h', k1, b, kk, S', hT', E, hS', hk', hZ', hown', EX, Cd, V, A, -, -, hC, -, -, stp⟩ := ldcCH S hx hZ hown w wS hT hS hk0 hEL hmem HC (vs := vs.map Value.int) ht (z := z) hz (by rw [List.length_map]; exact hl) (g := mkF m pc Ls st) rfl (hb hby hd) hnn hbig hc hsl
  exact OE.by stp (K a b T'.vm k1 T' h' ⟨hx, hZ', hown', hby, hmx, hret, hnm, hlk, hn0, hT', locs, S', N0⟩ hS' hk' hC E (o_str wi EX V Cd A hl))
end OwnKit
theorem d1_0 : decode method_3_code 0 = .ok (.iload_n 0, 1) := by decide +kernel
theorem d1_1 : decode method_3_code 1 = .ok (.invokestatic 13, 3) := by decide +kernel
theorem d1_4 : decode method_3_code 4 = .ok (.istore_n 1, 1) := by decide +kernel
theorem d1_5 : decode method_3_code 5 = .ok (.iload_n 0, 1) := by decide +kernel
theorem d1_6 : decode method_3_code 6 = .ok (.bipush 65, 2) := by decide +kernel
theorem d1_8 : decode method_3_code 8 = .ok (.if_icmp .lt 13, 3) := by decide +kernel
theorem d1_11 : decode method_3_code 11 = .ok (.iload_n 0, 1) := by decide +kernel
theorem d1_12 : decode method_3_code 12 = .ok (.bipush 90, 2) := by decide +kernel
theorem d1_14 : decode method_3_code 14 = .ok (.if_icmp .gt 7, 3) := by decide +kernel
theorem d1_17 : decode method_3_code 17 = .ok (.iconst 1, 1) := by decide +kernel
theorem d1_18 : decode method_3_code 18 = .ok (.goto 4, 3) := by decide +kernel
theorem d1_21 : decode method_3_code 21 = .ok (.iconst 0, 1) := by decide +kernel
theorem d1_22 : decode method_3_code 22 = .ok (.istore_n 2, 1) := by decide +kernel
theorem d1_23 : decode method_3_code 23 = .ok (.iload_n 1, 1) := by decide +kernel
theorem d1_24 : decode method_3_code 24 = .ok (.bipush 65, 2) := by decide +kernel
theorem d1_26 : decode method_3_code 26 = .ok (.if_icmp .lt 13, 3) := by decide +kernel
theorem d1_29 : decode method_3_code 29 = .ok (.iload_n 1, 1) := by decide +kernel
theorem d1_30 : decode method_3_code 30 = .ok (.bipush 90, 2) := by decide +kernel
theorem d1_32 : decode method_3_code 32 = .ok (.if_icmp .gt 7, 3) := by decide +kernel
theorem d1_35 : decode method_3_code 35 = .ok (.iconst 1, 1) := by decide +kernel
theorem d1_36 : decode method_3_code 36 = .ok (.goto 4, 3) := by decide +kernel
theorem d1_39 : decode method_3_code 39 = .ok (.iconst 0, 1) := by decide +kernel
theorem d1_40 : decode method_3_code 40 = .ok (.istore_n 3, 1) := by decide +kernel
theorem d1_41 : decode method_3_code 41 = .ok (.iload_n 3, 1) := by decide +kernel
theorem d1_42 : decode method_3_code 42 = .ok (.ifCond .eq 5, 3) := by decide +kernel
theorem d1_45 : decode method_3_code 45 = .ok (.iconst 0, 1) := by decide +kernel
theorem d1_46 : decode method_3_code 46 = .ok (.ireturn, 1) := by decide +kernel
theorem d1_47 : decode method_3_code 47 = .ok (.iload_n 2, 1) := by decide +kernel
theorem d1_48 : decode method_3_code 48 = .ok (.ifCond .eq 34, 3) := by decide +kernel
theorem d1_51 : decode method_3_code 51 = .ok (.ldc 19, 2) := by decide +kernel
theorem d1_53 : decode method_3_code 53 = .ok (.astore 4, 2) := by decide +kernel
theorem d1_55 : decode method_3_code 55 = .ok (.iload_n 1, 1) := by decide +kernel
theorem d1_56 : decode method_3_code 56 = .ok (.iload_n 0, 1) := by decide +kernel
theorem d1_57 : decode method_3_code 57 = .ok (.bipush 32, 2) := by decide +kernel
theorem d1_59 : decode method_3_code 59 = .ok (.iadd, 1) := by decide +kernel
theorem d1_60 : decode method_3_code 60 = .ok (.if_icmp .ne 20, 3) := by decide +kernel
theorem d1_63 : decode method_3_code 63 = .ok (.iload_n 1, 1) := by decide +kernel
theorem d1_64 : decode method_3_code 64 = .ok (.aload 4, 2) := by decide +kernel
theorem d1_66 : decode method_3_code 66 = .ok (.iload_n 0, 1) := by decide +kernel
theorem d1_67 : decode method_3_code 67 = .ok (.bipush 65, 2) := by decide +kernel
theorem d1_69 : decode method_3_code 69 = .ok (.isub, 1) := by decide +kernel
theorem d1_70 : decode method_3_code 70 = .ok (.invokevirtual 21, 3) := by decide +kernel
theorem d1_73 : decode method_3_code 73 = .ok (.if_icmp .ne 7, 3) := by decide +kernel
theorem d1_76 : decode method_3_code 76 = .ok (.iconst 1, 1) := by decide +kernel
theorem d1_77 : decode method_3_code 77 = .ok (.goto 4, 3) := by decide +kernel
theorem d1_80 : decode method_3_code 80 = .ok (.iconst 0, 1) := by decide +kernel
theorem d1_81 : decode method_3_code 81 = .ok (.ireturn, 1) := by decide +kernel
theorem d1_82 : decode method_3_code 82 = .ok (.iload_n 1, 1) := by decide +kernel
theorem d1_83 : decode method_3_code 83 = .ok (.iload_n 0, 1) := by decide +kernel
theorem d1_84 : decode method_3_code 84 = .ok (.if_icmp .ne 7, 3) := by decide +kernel
theorem d1_87 : decode method_3_code 87 = .ok (.iconst 1, 1) := by decide +kernel
theorem d1_88 : decode method_3_code 88 = .ok (.goto 4, 3) := by decide +kernel
theorem d1_91 : decode method_3_code 91 = .ok (.iconst 0, 1) := by decide +kernel
theorem d1_92 : decode method_3_code 92 = .ok (.ireturn, 1) := by decide +kernel
theorem d2_0 : decode prog_12_method_4_code 0 = .ok (.iload_n 0, 1) := by decide +kernel
theorem d2_1 : decode prog_12_method_4_code 1 = .ok (.bipush 65, 2) := by decide +kernel
theorem d2_3 : decode prog_12_method_4_code 3 = .ok (.if_icmp .lt 16, 3) := by decide +kernel
theorem d2_6 : decode prog_12_method_4_code 6 = .ok (.iload_n 0, 1) := by decide +kernel
theorem d2_7 : decode prog_12_method_4_code 7 = .ok (.bipush 90, 2) := by decide +kernel
theorem d2_9 : decode prog_12_method_4_code 9 = .ok (.if_icmp .gt 10, 3) := by decide +kernel
theorem d2_12 : decode prog_12_method_4_code 12 = .ok (.iload_n 0, 1) := by decide +kernel
theorem d2_13 : decode prog_12_method_4_code 13 = .ok (.bipush 32, 2) := by decide +kernel
theorem d2_15 : decode prog_12_method_4_code 15 = .ok (.iadd, 1) := by decide +kernel
theorem d2_16 : decode prog_12_method_4_code 16 = .ok (.goto 4, 3) := by decide +kernel
theorem d2_19 : decode prog_12_method_4_code 19 = .ok (.iload_n 0, 1) := by decide +kernel
theorem d2_20 : decode prog_12_method_4_code 20 = .ok (.ireturn, 1) := by decide +kernel
theorem d3_0 : decode jdk_42_method_56_code 0 = .ok (.aload_n 0, 1) := by decide +kernel
theorem d3_1 : decode jdk_42_method_56_code 1 = .ok (.invokevirtual 492, 3) := by decide +kernel
theorem d3_4 : decode jdk_42_method_56_code 4 = .ok (.ifCond .eq 12, 3) := by decide +kernel
theorem d3_7 : decode jdk_42_method_56_code 7 = .ok (.aload_n 0, 1) := by decide +kernel
theorem d3_8 : decode jdk_42_method_56_code 8 = .ok (.getfield 9, 3) := by decide +kernel
theorem d3_11 : decode jdk_42_method_56_code 11 = .ok (.iload_n 1, 1) := by decide +kernel
theorem d3_12 : decode jdk_42_method_56_code 12 = .ok (.invokestatic 495, 3) := by decide +kernel
theorem d3_15 : decode jdk_42_method_56_code 15 = .ok (.ireturn, 1) := by decide +kernel
theorem d3_16 : decode jdk_42_method_56_code 16 = .ok (.aload_n 0, 1) := by decide +kernel
theorem d3_17 : decode jdk_42_method_56_code 17 = .ok (.getfield 9, 3) := by decide +kernel
theorem d3_20 : decode jdk_42_method_56_code 20 = .ok (.iload_n 1, 1) := by decide +kernel
theorem d3_21 : decode jdk_42_method_56_code 21 = .ok (.invokestatic 498, 3) := by decide +kernel
theorem d3_24 : decode jdk_42_method_56_code 24 = .ok (.ireturn, 1) := by decide +kernel
theorem d4_0 : decode jdk_42_method_154_code 0 = .ok (.getstatic 38, 3) := by decide +kernel
theorem d4_3 : decode jdk_42_method_154_code 3 = .ok (.ifCond .eq 14, 3) := by decide +kernel
theorem d4_6 : decode jdk_42_method_154_code 6 = .ok (.aload_n 0, 1) := by decide +kernel
theorem d4_7 : decode jdk_42_method_154_code 7 = .ok (.getfield 15, 3) := by decide +kernel
theorem d4_10 : decode jdk_42_method_154_code 10 = .ok (.ifCond .ne 7, 3) := by decide +kernel
theorem d4_13 : decode jdk_42_method_154_code 13 = .ok (.iconst 1, 1) := by decide +kernel
theorem d4_14 : decode jdk_42_method_154_code 14 = .ok (.goto 4, 3) := by decide +kernel
theorem d4_17 : decode jdk_42_method_154_code 17 = .ok (.iconst 0, 1) := by decide +kernel
theorem d4_18 : decode jdk_42_method_154_code 18 = .ok (.ireturn, 1) := by decide +kernel
theorem d5_0 : decode jdk_43_method_2_code 0 = .ok (.iload_n 1, 1) := by decide +kernel
theorem d5_1 : decode jdk_43_method_2_code 1 = .ok (.aload_n 0, 1) := by decide +kernel
theorem d5_2 : decode jdk_43_method_2_code 2 = .ok (.arraylength, 1) := by decide +kernel
theorem d5_3 : decode jdk_43_method_2_code 3 = .ok (.invokestatic 9, 3) := by decide +kernel
theorem d5_6 : decode jdk_43_method_2_code 6 = .ok (.aload_n 0, 1) := by decide +kernel
theorem d5_7 : decode jdk_43_method_2_code 7 = .ok (.iload_n 1, 1) := by decide +kernel
theorem d5_8 : decode jdk_43_method_2_code 8 = .ok (.baload, 1) := by decide +kernel
theorem d5_9 : decode jdk_43_method_2_code 9 = .ok (.sipush 255, 3) := by decide +kernel
theorem d5_12 : decode jdk_43_method_2_code 12 = .ok (.iand, 1) := by decide +kernel
theorem d5_13 : decode jdk_43_method_2_code 13 = .ok (.i2c, 1) := by decide +kernel
theorem d5_14 : decode jdk_43_method_2_code 14 = .ok (.ireturn, 1) := by decide +kernel
theorem d6_0 : decode jdk_42_method_155_code 0 = .ok (.iload_n 0, 1) := by decide +kernel
theorem d6_1 : decode jdk_42_method_155_code 1 = .ok (.iload_n 1, 1) := by decide +kernel
theorem d6_2 : decode jdk_42_method_155_code 2 = .ok (.getstatic 1053, 3) := by decide +kernel
theorem d6_5 : decode jdk_42_method_155_code 5 = .ok (.invokestatic 1059, 3) := by decide +kernel
theorem d6_8 : decode jdk_42_method_155_code 8 = .ok (.pop, 1) := by decide +kernel
theorem d6_9 : decode jdk_42_method_155_code 9 = .ok (.return_, 1) := by decide +kernel
theorem d7_0 : decode jdk_41_method_11_code 0 = .ok (.iload_n 0, 1) := by decide +kernel
theorem d7_1 : decode jdk_41_method_11_code 1 = .ok (.ifCond .lt 8, 3) := by decide +kernel
theorem d7_4 : decode jdk_41_method_11_code 4 = .ok (.iload_n 0, 1) := by decide +kernel
theorem d7_5 : decode jdk_41_method_11_code 5 = .ok (.iload_n 1, 1) := by decide +kernel
theorem d7_6 : decode jdk_41_method_11_code 6 = .ok (.if_icmp .lt 10, 3) := by decide +kernel
theorem d7_9 : decode jdk_41_method_11_code 9 = .ok (.aload_n 2, 1) := by decide +kernel
theorem d7_10 : decode jdk_41_method_11_code 10 = .ok (.iload_n 0, 1) := by decide +kernel
theorem d7_11 : decode jdk_41_method_11_code 11 = .ok (.iload_n 1, 1) := by decide +kernel
theorem d7_12 : decode jdk_41_method_11_code 12 = .ok (.invokestatic 95, 3) := by decide +kernel
theorem d7_15 : decode jdk_41_method_11_code 15 = .ok (.athrow, 1) := by decide +kernel
theorem d7_16 : decode jdk_41_method_11_code 16 = .ok (.iload_n 0, 1) := by decide +kernel
theorem d7_17 : decode jdk_41_method_11_code 17 = .ok (.ireturn, 1) := by decide +kernel
theorem pn_0 : plainName "com/example/ascriber/ascriber/ascription/TextToAsciiLowerCasePinLaw" = true := by first | (simp [plainName, overriddenIn]; done) | decide +kernel
theorem pn_1 : plainName "com/example/ascriber/ascriber/ascription/Text" = true := by first | (simp [plainName, overriddenIn]; done) | decide +kernel
theorem pf_3 : plainFor (⟨"java/lang/String", "charAt", "(I)C"⟩ : MethodName) = true := by decide +kernel
theorem pf_4 : plainFor (⟨"java/lang/String", "isLatin1", "()Z"⟩ : MethodName) = true := by decide +kernel
theorem pf_6 : plainFor (⟨"java/lang/String", "checkIndex", "(II)V"⟩ : MethodName) = true := by decide +kernel
theorem pf_5 : plainFor (⟨"java/lang/StringLatin1", "charAt", "([BI)C"⟩ : MethodName) = true := by decide +kernel
theorem pf_7 : plainFor (⟨"jdk/internal/util/Preconditions", "checkIndex", "(IILjava/util/function/BiFunction;)I"⟩ : MethodName) = true := by decide +kernel
theorem pd_1 : parseMethodDescriptor "(I)Z" = some ⟨[.int], (some .boolean)⟩ := by decide +kernel
theorem pd_2 : parseMethodDescriptor "(I)I" = some ⟨[.int], (some .int)⟩ := by decide +kernel
theorem pd_3 : parseMethodDescriptor "(I)C" = some ⟨[.int], (some .char)⟩ := by decide +kernel
theorem pd_4 : parseMethodDescriptor "()Z" = some ⟨[], (some .boolean)⟩ := by decide +kernel
theorem pd_5 : parseMethodDescriptor "([BI)C" = some ⟨[(.array .byte), .int], (some .char)⟩ := by decide +kernel
theorem pd_6 : parseMethodDescriptor "(II)V" = some ⟨[.int, .int], none⟩ := by decide +kernel
theorem pd_7 : parseMethodDescriptor "(IILjava/util/function/BiFunction;)I" = some ⟨[.int, .int, (.object "java/util/function/BiFunction")], (some .int)⟩ := by decide +kernel
def f_low (c : Int32) : Int32 := if c < 65 then c else if 90 < c then c else c + 32
theorem v_up (c : Int32) (h1 : ¬ c < 65) (h2 : ¬ 90 < c) : 65 ≤ c.toInt ∧ c.toInt ≤ 90 ∧ (c + 32).toInt = c.toInt + 32 ∧ (c - 65).toInt = c.toInt - 65 := by
  simp only [Int32.lt_iff_toInt_lt, Int32.reduceToInt] at h1 h2
  refine ⟨by omega, by omega, ?_, ?_⟩
  · rw [Jvm.Kit.i32_add (by rw [show (32 : Int32).toInt = 32 from rfl]; omega) (by rw [show (32 : Int32).toInt = 32 from rfl]; omega)]; rfl
  · rw [Jvm.Kit.i32_sub (by rw [show (65 : Int32).toInt = 65 from rfl]; omega) (by rw [show (65 : Int32).toInt = 65 from rfl]; omega)]; rfl
theorem v_ix (c : Int32) (h1 : ¬ c < 65) (h2 : ¬ 90 < c) : ∃ i : Nat, (c - 65).toInt = i ∧ i < 26 := by
  obtain ⟨a, b, -, d⟩ := v_up c h1 h2
  exact ⟨(c - 65).toInt.toNat, by omega, by omega⟩
theorem v_el (c : Int32) (h1 : ¬ c < 65) (h2 : ¬ 90 < c) (i : Nat) (hi : (c - 65).toInt = i) (hb : i < 26) : [(97 : Int32), (98 : Int32), (99 : Int32), (100 : Int32), (101 : Int32), (102 : Int32), (103 : Int32), (104 : Int32), (105 : Int32), (106 : Int32), (107 : Int32), (108 : Int32), (109 : Int32), (110 : Int32), (111 : Int32), (112 : Int32), (113 : Int32), (114 : Int32), (115 : Int32), (116 : Int32), (117 : Int32), (118 : Int32), (119 : Int32), (120 : Int32), (121 : Int32), (122 : Int32)][i]? = some (c + 32) := by
  obtain ⟨a, b, e, d⟩ := v_up c h1 h2
  have key : ∀ i : Fin 26, [(97 : Int32), (98 : Int32), (99 : Int32), (100 : Int32), (101 : Int32), (102 : Int32), (103 : Int32), (104 : Int32), (105 : Int32), (106 : Int32), (107 : Int32), (108 : Int32), (109 : Int32), (110 : Int32), (111 : Int32), (112 : Int32), (113 : Int32), (114 : Int32), (115 : Int32), (116 : Int32), (117 : Int32), (118 : Int32), (119 : Int32), (120 : Int32), (121 : Int32), (122 : Int32)][i.1]? = some (Int32.ofNat (97 + i.1)) := by decide
  rw [key ⟨i, hb⟩]
  congr 1
  apply Int32.toInt_inj.mp
  rw [e]
  show (Int32.ofNat (97 + i)).toInt = _
  rw [Int32.toInt_ofNat_of_lt (by omega)]; omega
theorem v_chr (v : Int32) (h : 0 ≤ v.toInt ∧ v.toInt ≤ 127) : nar .char (UInt32.toInt32 (UInt16.toUInt32 (UInt32.toUInt16 (Int32.toUInt32 (v &&& 255))))) = v := by
  have m := Jvm.Kit.i32_mask v 255 (k := 8) (by decide) (by decide)
  have e : v &&& 255 = v := Int32.toInt_inj.mp (by rw [m]; omega)
  rw [e]
  have key : ∀ i : Fin 128, nar .char (UInt32.toInt32 (UInt16.toUInt32 (UInt32.toUInt16 (Int32.toUInt32 (Int32.ofNat i.1))))) = Int32.ofNat i.1 := by decide
  have ev : v = Int32.ofNat v.toInt.toNat := by
    apply Int32.toInt_inj.mp; rw [Int32.toInt_ofNat_of_lt (by omega)]; omega
  rw [ev]; exact key ⟨v.toInt.toNat, by omega⟩
def EL1 : List (String × Nat) := [("com/example/ascriber/ascriber/ascription/TextToAsciiLowerCasePinLaw", 19)]
theorem hEL {Z : State} {a0 : Array Value} (hw : ∀ d ∈ tables_1, d.before a0 Z = true) : EW Z a0 EL1 := EW.cons (hw _ (List.mem_of_getElem? (i := 8) rfl)) (by decide) EW.nil
theorem hSA {Z : State} {a0 : Array Value} (hw : ∀ d ∈ tables_1, d.before a0 Z = true) : ∀ a ∈ Bundle.stringAtoms, a.before a0 Z = true := by
  intro d hd
  simp only [Bundle.stringAtoms, List.mem_cons, List.not_mem_nil, or_false] at hd
  rcases hd with rfl | rfl | rfl | rfl | rfl | rfl | rfl
  · exact (hw _ (List.mem_of_getElem? (i := 9) rfl))
  · exact (hw _ (List.mem_of_getElem? (i := 10) rfl))
  · exact (hw _ (List.mem_of_getElem? (i := 11) rfl))
  · exact (hw _ (List.mem_of_getElem? (i := 12) rfl))
  · exact (hw _ (List.mem_of_getElem? (i := 13) rfl))
  · exact (hw _ (List.mem_of_getElem? (i := 14) rfl))
  · exact (hw _ (List.mem_of_getElem? (i := 15) rfl))
set_option maxRecDepth 65536 in
set_option maxHeartbeats 40000000 in
theorem c_low (l : Launch) (Z : State) (a0 : Array Value) (hw : ∀ d ∈ tables_1, d.before a0 Z = true) (ws : List Jvm.Cond) (n0 : Nat) (h0 : Heap) (hn0 : n0 ≤ h0.size) (xc : Int32) :
    OC l Z (⟨"com/example/ascriber/ascriber/ascription/Text", "toAsciiLowerCase", "(I)I"⟩ : MethodName) prog_12_method_4_code 1 (some .int) ws ({ frames := 0, cells := 0, slots := 0, locals := 0 } : Room) n0 #[(.int xc)] h0 (fun r h => r = some (.int (f_low xc)) ∧ h0 = h) := by
  refine OC.of (plainFor_of_name pn_1) hn0 #[.val (.int xc)] (fun m => by first | (simp [entryFrame, mkF, argsToLocals, Value.category, maxLocals]; done) | rfl) ?_
  intro p e s m below meth cd0 T0 X0 Q' hQ
  refine o_iloadN X0 d2_0 rfl 1 rfl ?_
  refine o_bipush (v := (65 : Int32)) X0 d2_1 rfl 3 rfl ?_
  refine o_icmpLt X0 d2_3 19 6 (by decide) (by decide) rfl ?_ ?_
  · intro hc3
    refine o_iloadN X0 d2_19 rfl 20 rfl ?_
    exact o_retI X0 d2_20 (by decide) (by decide) (hQ _ _ ⟨by show some (Value.int xc) = some (Value.int (f_low xc)); simp [f_low, hc3], rfl⟩)
  · intro hc3
    refine o_iloadN X0 d2_6 rfl 7 rfl ?_
    refine o_bipush (v := (90 : Int32)) X0 d2_7 rfl 9 rfl ?_
    refine o_icmpGt X0 d2_9 19 12 (by decide) (by decide) rfl ?_ ?_
    · intro hc9
      refine o_iloadN X0 d2_19 rfl 20 rfl ?_
      exact o_retI X0 d2_20 (by decide) (by decide) (hQ _ _ ⟨by show some (Value.int xc) = some (Value.int (f_low xc)); simp [f_low, hc3, hc9], rfl⟩)
    · intro hc9
      refine o_iloadN X0 d2_12 rfl 13 rfl ?_
      refine o_bipush (v := (32 : Int32)) X0 d2_13 rfl 15 rfl ?_
      refine o_iadd X0 d2_15 16 rfl ?_
      refine o_goto X0 d2_16 20 (by decide) (by decide) ?_
      exact o_retI X0 d2_20 (by decide) (by decide) (hQ _ _ ⟨by show some (Value.int (xc + (32 : Int32))) = some (Value.int (f_low xc)); simp [f_low, hc3, hc9], rfl⟩)
set_option maxRecDepth 65536 in
set_option maxHeartbeats 40000000 in
theorem c_pcN (l : Launch) (Z : State) (a0 : Array Value) (hw : ∀ d ∈ tables_1, d.before a0 Z = true) (ws : List Jvm.Cond) (n0 : Nat) (h0 : Heap) (hn0 : n0 ≤ h0.size) (xi xn : Int32) (h1 : ¬ xi < 0) (h2 : xi < xn) :
    OC l Z (⟨"jdk/internal/util/Preconditions", "checkIndex", "(IILjava/util/function/BiFunction;)I"⟩ : MethodName) jdk_41_method_11_code 3 (some .int) ws ({ frames := 0, cells := 0, slots := 0, locals := 0 } : Room) n0 #[(.int xi), (.int xn), (.null)] h0 (fun r h => r = some (.int xi) ∧ h0 = h) := by
  refine OC.of pf_7 hn0 #[.val (.int xi), .val (.int xn), .val (.null)] (fun m => by first | (simp [entryFrame, mkF, argsToLocals, Value.category, maxLocals]; done) | rfl) ?_
  intro p e s m below meth cd0 T0 X0 Q' hQ
  refine o_iloadN X0 d7_0 rfl 1 rfl ?_
  refine o_ifLt X0 d7_1 9 4 (by decide) (by decide) rfl (fun q => by exfalso; exact h1 q) ?_
  intro hc1
  refine o_iloadN X0 d7_4 rfl 5 rfl ?_
  refine o_iloadN X0 d7_5 rfl 6 rfl ?_
  refine o_icmpLt X0 d7_6 16 9 (by decide) (by decide) rfl ?_ (fun q => by exfalso; exact q h2)
  intro hc6
  refine o_iloadN X0 d7_16 rfl 17 rfl ?_
  exact o_retI X0 d7_17 (by decide) (by decide) (hQ _ _ ⟨rfl, rfl⟩)
set_option maxRecDepth 65536 in
set_option maxHeartbeats 40000000 in
theorem c_pcR (l : Launch) (Z : State) (a0 : Array Value) (hw : ∀ d ∈ tables_1, d.before a0 Z = true) (ws : List Jvm.Cond) (n0 : Nat) (h0 : Heap) (hn0 : n0 ≤ h0.size) (xi xn : Int32) (xr : Addr) (h1 : ¬ xi < 0) (h2 : xi < xn) :
    OC l Z (⟨"jdk/internal/util/Preconditions", "checkIndex", "(IILjava/util/function/BiFunction;)I"⟩ : MethodName) jdk_41_method_11_code 3 (some .int) ws ({ frames := 0, cells := 0, slots := 0, locals := 0 } : Room) n0 #[(.int xi), (.int xn), (.ref xr)] h0 (fun r h => r = some (.int xi) ∧ h0 = h) := by
  refine OC.of pf_7 hn0 #[.val (.int xi), .val (.int xn), .val (.ref xr)] (fun m => by first | (simp [entryFrame, mkF, argsToLocals, Value.category, maxLocals]; done) | rfl) ?_
  intro p e s m below meth cd0 T0 X0 Q' hQ
  refine o_iloadN X0 d7_0 rfl 1 rfl ?_
  refine o_ifLt X0 d7_1 9 4 (by decide) (by decide) rfl (fun q => by exfalso; exact h1 q) ?_
  intro hc1
  refine o_iloadN X0 d7_4 rfl 5 rfl ?_
  refine o_iloadN X0 d7_5 rfl 6 rfl ?_
  refine o_icmpLt X0 d7_6 16 9 (by decide) (by decide) rfl ?_ (fun q => by exfalso; exact q h2)
  intro hc6
  refine o_iloadN X0 d7_16 rfl 17 rfl ?_
  exact o_retI X0 d7_17 (by decide) (by decide) (hQ _ _ ⟨rfl, rfl⟩)
set_option maxRecDepth 65536 in
set_option maxHeartbeats 40000000 in
theorem c_ci (l : Launch) (Z : State) (a0 : Array Value) (hw : ∀ d ∈ tables_1, d.before a0 Z = true) (ws : List Jvm.Cond) (n0 : Nat) (h0 : Heap) (hn0 : n0 ≤ h0.size) (xi xn : Int32) (vf : Value) (S2 : Sta Z h0 "jdk/internal/util/Preconditions" "SIOOBE_FORMATTER" "Ljava/util/function/BiFunction;" vf) (hvf : vf.isRef = true) (h1 : ¬ xi < 0) (h2 : xi < xn) :
    OC l Z (⟨"java/lang/String", "checkIndex", "(II)V"⟩ : MethodName) jdk_42_method_155_code 2 none ws ({ frames := 1, cells := 0, slots := 0, locals := 14 } : Room) n0 #[(.int xi), (.int xn)] h0 (fun r h => r = none ∧ h0 = h) := by
  refine OC.of pf_6 hn0 #[.val (.int xi), .val (.int xn)] (fun m => by first | (simp [entryFrame, mkF, argsToLocals, Value.category, maxLocals]; done) | rfl) ?_
  intro p e s m below meth cd0 T0 X0 Q' hQ
  rcases ref_cases hvf with rfl | ⟨xr, rfl⟩
  · skip
    refine o_iloadN X0 d6_0 rfl 1 rfl ?_
    refine o_iloadN X0 d6_1 rfl 2 rfl ?_
    refine o_getS X0 d6_2 S2 (hw _ (List.mem_of_getElem? (i := 36) rfl)) 5 rfl ?_
    intro T1 X1
    refine o_callS X1 d6_5 (rest := []) (c_pcN l Z a0 hw [] n0 _ X1.size xi xn  h1 h2) (hw _ (List.mem_of_getElem? (i := 38) rfl)) (hw _ (List.mem_of_getElem? (i := 39) rfl)) (hw _ (List.mem_of_getElem? (i := 37) rfl)) (hw _ (List.mem_of_getElem? (i := 40) rfl)) (by decide) 0 (by decide) (by decide) rfl [(.int xi), (.int xn), (.null)] rfl pd_7 rfl rfl (Nat.le_of_eq rfl) 0 0 rfl rfl (by decide) (by decide) 8 rfl ?_
    rintro _ T2 _ X2 ⟨rfl, rfl⟩
    show OE p e (FE s ({ frames := 1, cells := 0, slots := 0, locals := 14 } : Room)) below n0 Q' T2 (mkF m 8 #[.val (.int xi), .val (.int xn)] [(.int xi)])
    refine o_pop X2 d6_8 rfl 9 rfl ?_
    exact o_ret X2 d6_9 (by decide) (by decide) (hQ _ _ ⟨rfl, rfl⟩)
  · skip
    refine o_iloadN X0 d6_0 rfl 1 rfl ?_
    refine o_iloadN X0 d6_1 rfl 2 rfl ?_
    refine o_getS X0 d6_2 S2 (hw _ (List.mem_of_getElem? (i := 36) rfl)) 5 rfl ?_
    intro T3 X3
    refine o_callS X3 d6_5 (rest := []) (c_pcR l Z a0 hw [] n0 _ X3.size xi xn xr h1 h2) (hw _ (List.mem_of_getElem? (i := 38) rfl)) (hw _ (List.mem_of_getElem? (i := 39) rfl)) (hw _ (List.mem_of_getElem? (i := 37) rfl)) (hw _ (List.mem_of_getElem? (i := 40) rfl)) (by decide) 0 (by decide) (by decide) rfl [(.int xi), (.int xn), (.ref xr)] rfl pd_7 rfl rfl (Nat.le_of_eq rfl) 0 0 rfl rfl (by decide) (by decide) 8 rfl ?_
    rintro _ T4 _ X4 ⟨rfl, rfl⟩
    show OE p e (FE s ({ frames := 1, cells := 0, slots := 0, locals := 14 } : Room)) below n0 Q' T4 (mkF m 8 #[.val (.int xi), .val (.int xn)] [(.int xi)])
    refine o_pop X4 d6_8 rfl 9 rfl ?_
    exact o_ret X4 d6_9 (by decide) (by decide) (hQ _ _ ⟨rfl, rfl⟩)
set_option maxRecDepth 65536 in
set_option maxHeartbeats 40000000 in
theorem c_lc (l : Launch) (Z : State) (a0 : Array Value) (hw : ∀ d ∈ tables_1, d.before a0 Z = true) (ws : List Jvm.Cond) (n0 : Nat) (h0 : Heap) (hn0 : n0 ≤ h0.size) (xa : Addr) (xi : Int32) (vs : List Int32) (L' : List (Addr × (Cell → Prop))) (H0 : OL 0 h0 ((xa, OA Z .byte vs) :: L')) (vf : Value) (S2 : Sta Z h0 "jdk/internal/util/Preconditions" "SIOOBE_FORMATTER" "Ljava/util/function/BiFunction;" vf) (hvf : vf.isRef = true) (i : Nat) (hi : xi.toInt = i) (v : Int32) (hv : vs[i]? = some v) (hv7 : 0 ≤ v.toInt ∧ v.toInt ≤ 127) (h1 : ¬ xi < 0) (h2 : xi < Int32.ofNat vs.length) :
    OC l Z (⟨"java/lang/StringLatin1", "charAt", "([BI)C"⟩ : MethodName) jdk_43_method_2_code 2 (some .char) ws ({ frames := 2, cells := 0, slots := 0, locals := 27 } : Room) n0 #[(.ref xa), (.int xi)] h0 (fun r h => r = some (.int v) ∧ h0 = h) := by
  refine OC.of pf_5 hn0 #[.val (.ref xa), .val (.int xi)] (fun m => by first | (simp [entryFrame, mkF, argsToLocals, Value.category, maxLocals]; done) | rfl) ?_
  intro p e s m below meth cd0 T0 X0 Q' hQ
  refine o_iloadN X0 d5_0 rfl 1 rfl ?_
  refine o_aloadN X0 d5_1 rfl rfl 2 rfl ?_
  refine o_arraylength X0 H0 0 rfl d5_2 (Int32.ofNat vs.length) rfl 3 rfl ?_
  refine o_callS X0 d5_3 (rest := []) (c_ci l Z a0 hw [] n0 _ X0.size xi (Int32.ofNat vs.length) vf S2 hvf h1 h2) (hw _ (List.mem_of_getElem? (i := 33) rfl)) (hw _ (List.mem_of_getElem? (i := 34) rfl)) (hw _ (List.mem_of_getElem? (i := 9) rfl)) (hw _ (List.mem_of_getElem? (i := 35) rfl)) (by decide) 0 (by decide) (by decide) rfl [(.int xi), (.int (Int32.ofNat vs.length))] rfl pd_6 rfl rfl (Nat.le_of_eq rfl) 0 0 rfl rfl (by decide) (by decide) 6 rfl ?_
  rintro _ T1 _ X1 ⟨rfl, rfl⟩
  show OE p e (FE s ({ frames := 2, cells := 0, slots := 0, locals := 27 } : Room)) below n0 Q' T1 (mkF m 6 #[.val (.ref xa), .val (.int xi)] [])
  refine o_aloadN X1 d5_6 rfl rfl 7 rfl ?_
  refine o_iloadN X1 d5_7 rfl 8 rfl ?_
  refine o_baloadB X1 H0 0 rfl d5_8 i hi v hv 9 rfl ?_
  refine o_sipush (v := (255 : Int32)) X1 d5_9 rfl 12 rfl ?_
  refine o_iand X1 d5_12 13 rfl ?_
  refine o_i2c X1 d5_13 14 rfl ?_
  exact o_retC X1 d5_14 (by decide) (by decide) (hQ _ _ ⟨by rw [v_chr v hv7], rfl⟩)
set_option maxRecDepth 65536 in
set_option maxHeartbeats 40000000 in
theorem c_is (l : Launch) (Z : State) (a0 : Array Value) (hw : ∀ d ∈ tables_1, d.before a0 Z = true) (ws : List Jvm.Cond) (n0 : Nat) (h0 : Heap) (hn0 : n0 ≤ h0.size) (xo xb : Addr) (vs : List Int32) (L' : List (Addr × (Cell → Prop))) (H0 : OL 0 h0 ((xo, OO Z "java/lang/String" [("java/lang/String", "value", "[B", .ref xb), ("java/lang/String", "coder", "B", .int 0)]) :: (xb, OA Z .byte vs) :: L')) (xcs : Int32) (S1 : Sta Z h0 "java/lang/String" "COMPACT_STRINGS" "Z" (.int xcs)) (hcs : ¬ xcs = 0) :
    OC l Z (⟨"java/lang/String", "isLatin1", "()Z"⟩ : MethodName) jdk_42_method_154_code 1 (some .boolean) ws ({ frames := 0, cells := 0, slots := 0, locals := 0 } : Room) n0 #[(.ref xo)] h0 (fun r h => r = some (.int 1) ∧ h0 = h) := by
  refine OC.of pf_4 hn0 #[.val (.ref xo)] (fun m => by first | (simp [entryFrame, mkF, argsToLocals, Value.category, maxLocals]; done) | rfl) ?_
  intro p e s m below meth cd0 T0 X0 Q' hQ
  refine o_getS X0 d4_0 S1 (hw _ (List.mem_of_getElem? (i := 26) rfl)) 3 rfl ?_
  intro T1 X1
  refine o_ifEq X1 d4_3 17 6 (by decide) (by decide) rfl (fun q => by exfalso; exact hcs q) ?_
  intro hc3
  refine o_aloadN X1 d4_6 rfl rfl 7 rfl ?_
  refine o_getF X1 H0 0 rfl d4_7 1 rfl (hw _ (List.mem_of_getElem? (i := 27) rfl)) 10 rfl ?_
  intro T2 X2
  refine o_ifNe X2 d4_10 17 13 (by decide) (by decide) rfl (fun q => by exfalso; exact q rfl) ?_
  intro hc10
  refine o_iconst (v := (1 : Int32)) X2 d4_13 rfl 14 rfl ?_
  refine o_goto X2 d4_14 18 (by decide) (by decide) ?_
  exact o_retZ X2 d4_18 (by decide) (by decide) (hQ _ _ ⟨rfl, rfl⟩)
theorem v_nc (v : Int32) (h : 0 ≤ v.toInt ∧ v.toInt ≤ 127) : nar .char v = v := by
  have key : ∀ i : Fin 128, nar .char (Int32.ofNat i.1) = Int32.ofNat i.1 := by decide
  have ev : v = Int32.ofNat v.toInt.toNat := by
    apply Int32.toInt_inj.mp; rw [Int32.toInt_ofNat_of_lt (by omega)]; omega
  rw [ev]; exact key ⟨v.toInt.toNat, by omega⟩
set_option maxRecDepth 65536 in
set_option maxHeartbeats 40000000 in
theorem c_ch (l : Launch) (Z : State) (a0 : Array Value) (hw : ∀ d ∈ tables_1, d.before a0 Z = true) (ws : List Jvm.Cond) (n0 : Nat) (h0 : Heap) (hn0 : n0 ≤ h0.size) (xo xb : Addr) (vs : List Int32) (L' : List (Addr × (Cell → Prop))) (H0 : OL 0 h0 ((xo, OO Z "java/lang/String" [("java/lang/String", "value", "[B", .ref xb), ("java/lang/String", "coder", "B", .int 0)]) :: (xb, OA Z .byte vs) :: L')) (xcs : Int32) (S1 : Sta Z h0 "java/lang/String" "COMPACT_STRINGS" "Z" (.int xcs)) (hcs : ¬ xcs = 0) (vf : Value) (S2 : Sta Z h0 "jdk/internal/util/Preconditions" "SIOOBE_FORMATTER" "Ljava/util/function/BiFunction;" vf) (hvf : vf.isRef = true) (xi : Int32) (i : Nat) (hi : xi.toInt = i) (v : Int32) (hv : vs[i]? = some v) (hv7 : 0 ≤ v.toInt ∧ v.toInt ≤ 127) (h1 : ¬ xi < 0) (h2 : xi < Int32.ofNat vs.length) :
    OC l Z (⟨"java/lang/String", "charAt", "(I)C"⟩ : MethodName) jdk_42_method_56_code 2 (some .char) ws ({ frames := 3, cells := 0, slots := 0, locals := 40 } : Room) n0 #[(.ref xo), (.int xi)] h0 (fun r h => r = some (.int v) ∧ h0 = h) := by
  refine OC.of pf_3 hn0 #[.val (.ref xo), .val (.int xi)] (fun m => by first | (simp [entryFrame, mkF, argsToLocals, Value.category, maxLocals]; done) | rfl) ?_
  intro p e s m below meth cd0 T0 X0 Q' hQ
  refine o_aloadN X0 d3_0 rfl rfl 1 rfl ?_
  refine o_callV X0 H0 0 rfl d3_1 (rest := []) (c_is l Z a0 hw [] n0 _ X0.size xo xb vs L' H0 xcs S1 hcs) (hw _ (List.mem_of_getElem? (i := 21) rfl)) (hw _ (List.mem_of_getElem? (i := 22) rfl)) (hw _ (List.mem_of_getElem? (i := 24) rfl)) (hw _ (List.mem_of_getElem? (i := 23) rfl)) (hw _ (List.mem_of_getElem? (i := 9) rfl)) (hw _ (List.mem_of_getElem? (i := 25) rfl)) (by decide) 0 (by decide) (by decide) rfl [] rfl pd_4 rfl rfl (Nat.le_of_eq rfl) 0 0 rfl rfl (by decide) (by decide) 4 rfl ?_
  rintro _ T1 _ X1 ⟨rfl, rfl⟩
  show OE p e (FE s ({ frames := 3, cells := 0, slots := 0, locals := 40 } : Room)) below n0 Q' T1 (mkF m 4 #[.val (.ref xo), .val (.int xi)] [(.int (1 : Int32))])
  refine o_ifEq X1 d3_4 16 7 (by decide) (by decide) rfl (fun q => by exfalso; exact absurd q (by decide)) ?_
  intro hc4
  refine o_aloadN X1 d3_7 rfl rfl 8 rfl ?_
  refine o_getF X1 H0 0 rfl d3_8 0 rfl (hw _ (List.mem_of_getElem? (i := 28) rfl)) 11 rfl ?_
  intro T2 X2
  refine o_iloadN X2 d3_11 rfl 12 rfl ?_
  have H4 : OL 0 h0 ((xb, OA Z .byte vs) :: (xo, OO Z "java/lang/String" [("java/lang/String", "value", "[B", .ref xb), ("java/lang/String", "coder", "B", .int 0)]) :: L') := H0.front 1 rfl
  refine o_callS X2 d3_12 (rest := []) (c_lc l Z a0 hw [] n0 _ X2.size xb xi vs ((xo, OO Z "java/lang/String" [("java/lang/String", "value", "[B", .ref xb), ("java/lang/String", "coder", "B", .int 0)]) :: L') H4 vf S2 hvf i hi v hv hv7 h1 h2) (hw _ (List.mem_of_getElem? (i := 29) rfl)) (hw _ (List.mem_of_getElem? (i := 30) rfl)) (hw _ (List.mem_of_getElem? (i := 31) rfl)) (hw _ (List.mem_of_getElem? (i := 32) rfl)) (by decide) 0 (by decide) (by decide) rfl [(.ref xb), (.int xi)] rfl pd_5 rfl rfl (Nat.le_of_eq rfl) 0 0 rfl rfl (by decide) (by decide) 15 rfl ?_
  rintro _ T3 _ X3 ⟨rfl, rfl⟩
  show OE p e (FE s ({ frames := 3, cells := 0, slots := 0, locals := 40 } : Room)) below n0 Q' T3 (mkF m 15 #[.val (.ref xo), .val (.int xi)] [(.int v)])
  exact o_retC X3 d3_15 (by decide) (by decide) (hQ _ _ ⟨by rw [show nar .char v = v from v_nc v hv7], rfl⟩)
set_option maxRecDepth 65536 in
set_option maxHeartbeats 40000000 in
theorem c_ok (l : Launch) (Z : State) (a0 : Array Value) (hw : ∀ d ∈ tables_1, d.before a0 Z = true) (ws : List Jvm.Cond) (n0 : Nat) (h0 : Heap) (hn0 : n0 ≤ h0.size) (xcs : Int32) (S1 : Sta Z h0 "java/lang/String" "COMPACT_STRINGS" "Z" (.int xcs)) (hcs : ¬ xcs = 0) (vf : Value) (S2 : Sta Z h0 "jdk/internal/util/Preconditions" "SIOOBE_FORMATTER" "Ljava/util/function/BiFunction;" vf) (hvf : vf.isRef = true) (xc : Int32) :
    OCW l Z EL1 (⟨"com/example/ascriber/ascriber/ascription/TextToAsciiLowerCasePinLaw", "ok", "(I)Z"⟩ : MethodName) method_3_code 5 (some .boolean) ws ({ frames := 4, cells := 2, slots := 108, locals := 54 } : Room) n0 #[(.int xc)] h0 (fun r h => r = some (.int 1) ∧ Sta Z h "java/lang/String" "COMPACT_STRINGS" "Z" (.int xcs) ∧ Sta Z h "jdk/internal/util/Preconditions" "SIOOBE_FORMATTER" "Ljava/util/function/BiFunction;" vf) := by
  refine OCW.of (EL := EL1) (plainFor_of_name pn_0) hn0 #[.val (.int xc), .unset, .unset, .unset, .unset] (fun m => by first | (simp [entryFrame, mkF, argsToLocals, Value.category, maxLocals]; done) | rfl) ?_
  have hEL := hEL hw
  intro p e s m below meth cd0 T0 X0 hS HC Q' hQ
  rcases Decidable.em (xc < 65) with hu1 | hu1
  · skip
    refine o_iloadN X0 d1_0 rfl 1 rfl ?_
    refine o_callS X0 d1_1 (rest := []) (c_low l Z a0 hw [] n0 _ X0.size xc ) (hw _ (List.mem_of_getElem? (i := 4) rfl)) (hw _ (List.mem_of_getElem? (i := 5) rfl)) (hw _ (List.mem_of_getElem? (i := 6) rfl)) (hw _ (List.mem_of_getElem? (i := 7) rfl)) (by decide) 0 (by decide) (by decide) rfl [(.int xc)] rfl pd_2 rfl rfl (Nat.le_of_eq rfl) 0 0 rfl rfl (by decide) (by decide) 4 rfl ?_
    rintro _ T1 _ X1 ⟨rfl, rfl⟩
    rw [show (f_low xc) = xc from by simp [f_low, hu1]]
    show OE p e (WE Z EL1 s ({ frames := 4, cells := 2, slots := 108, locals := 54 } : Room)) below n0 Q' T1 (mkF m 4 #[.val (.int xc), .unset, .unset, .unset, .unset] [(.int xc)])
    refine o_istoreN X1 d1_4 #[.val (.int xc), .val (.int xc), .unset, .unset, .unset] rfl 5 rfl ?_
    refine o_iloadN X1 d1_5 rfl 6 rfl ?_
    refine o_bipush (v := (65 : Int32)) X1 d1_6 rfl 8 rfl ?_
    refine o_icmpLt X1 d1_8 21 11 (by decide) (by decide) rfl ?_ (fun q => by exfalso; exact q hu1)
    intro hc8
    refine o_iconst (v := (0 : Int32)) X1 d1_21 rfl 22 rfl ?_
    refine o_istoreN X1 d1_22 #[.val (.int xc), .val (.int xc), .val (.int (0 : Int32)), .unset, .unset] rfl 23 rfl ?_
    refine o_iloadN X1 d1_23 rfl 24 rfl ?_
    refine o_bipush (v := (65 : Int32)) X1 d1_24 rfl 26 rfl ?_
    refine o_icmpLt X1 d1_26 39 29 (by decide) (by decide) rfl ?_ (fun q => by exfalso; exact q hu1)
    intro hc26
    refine o_iconst (v := (0 : Int32)) X1 d1_39 rfl 40 rfl ?_
    refine o_istoreN X1 d1_40 #[.val (.int xc), .val (.int xc), .val (.int (0 : Int32)), .val (.int (0 : Int32)), .unset] rfl 41 rfl ?_
    refine o_iloadN X1 d1_41 rfl 42 rfl ?_
    refine o_ifEq X1 d1_42 47 45 (by decide) (by decide) rfl ?_ (fun q => by exfalso; exact absurd q (by decide))
    intro hc42
    refine o_iloadN X1 d1_47 rfl 48 rfl ?_
    refine o_ifEq X1 d1_48 82 51 (by decide) (by decide) rfl ?_ (fun q => by exfalso; exact absurd q (by decide))
    intro hc48
    refine o_iloadN X1 d1_82 rfl 83 rfl ?_
    refine o_iloadN X1 d1_83 rfl 84 rfl ?_
    refine o_icmpNe X1 d1_84 91 87 (by decide) (by decide) rfl (fun q => by exfalso; exact q rfl) ?_
    intro hc84
    refine o_iconst (v := (1 : Int32)) X1 d1_87 rfl 88 rfl ?_
    refine o_goto X1 d1_88 92 (by decide) (by decide) ?_
    exact o_retZW X1 hS (Nat.zero_le _) hEL HC d1_92 (by decide) (by decide) (hQ _ _ ⟨rfl, S1, S2⟩)
  · rcases Decidable.em (90 < xc) with hu2 | hu2
    · skip
      refine o_iloadN X0 d1_0 rfl 1 rfl ?_
      refine o_callS X0 d1_1 (rest := []) (c_low l Z a0 hw [] n0 _ X0.size xc ) (hw _ (List.mem_of_getElem? (i := 4) rfl)) (hw _ (List.mem_of_getElem? (i := 5) rfl)) (hw _ (List.mem_of_getElem? (i := 6) rfl)) (hw _ (List.mem_of_getElem? (i := 7) rfl)) (by decide) 0 (by decide) (by decide) rfl [(.int xc)] rfl pd_2 rfl rfl (Nat.le_of_eq rfl) 0 0 rfl rfl (by decide) (by decide) 4 rfl ?_
      rintro _ T2 _ X2 ⟨rfl, rfl⟩
      rw [show (f_low xc) = xc from by simp [f_low, hu1, hu2]]
      show OE p e (WE Z EL1 s ({ frames := 4, cells := 2, slots := 108, locals := 54 } : Room)) below n0 Q' T2 (mkF m 4 #[.val (.int xc), .unset, .unset, .unset, .unset] [(.int xc)])
      refine o_istoreN X2 d1_4 #[.val (.int xc), .val (.int xc), .unset, .unset, .unset] rfl 5 rfl ?_
      refine o_iloadN X2 d1_5 rfl 6 rfl ?_
      refine o_bipush (v := (65 : Int32)) X2 d1_6 rfl 8 rfl ?_
      refine o_icmpLt X2 d1_8 21 11 (by decide) (by decide) rfl (fun q => by exfalso; exact hu1 q) ?_
      intro hc8
      refine o_iloadN X2 d1_11 rfl 12 rfl ?_
      refine o_bipush (v := (90 : Int32)) X2 d1_12 rfl 14 rfl ?_
      refine o_icmpGt X2 d1_14 21 17 (by decide) (by decide) rfl ?_ (fun q => by exfalso; exact q hu2)
      intro hc14
      refine o_iconst (v := (0 : Int32)) X2 d1_21 rfl 22 rfl ?_
      refine o_istoreN X2 d1_22 #[.val (.int xc), .val (.int xc), .val (.int (0 : Int32)), .unset, .unset] rfl 23 rfl ?_
      refine o_iloadN X2 d1_23 rfl 24 rfl ?_
      refine o_bipush (v := (65 : Int32)) X2 d1_24 rfl 26 rfl ?_
      refine o_icmpLt X2 d1_26 39 29 (by decide) (by decide) rfl (fun q => by exfalso; exact hu1 q) ?_
      intro hc26
      refine o_iloadN X2 d1_29 rfl 30 rfl ?_
      refine o_bipush (v := (90 : Int32)) X2 d1_30 rfl 32 rfl ?_
      refine o_icmpGt X2 d1_32 39 35 (by decide) (by decide) rfl ?_ (fun q => by exfalso; exact q hu2)
      intro hc32
      refine o_iconst (v := (0 : Int32)) X2 d1_39 rfl 40 rfl ?_
      refine o_istoreN X2 d1_40 #[.val (.int xc), .val (.int xc), .val (.int (0 : Int32)), .val (.int (0 : Int32)), .unset] rfl 41 rfl ?_
      refine o_iloadN X2 d1_41 rfl 42 rfl ?_
      refine o_ifEq X2 d1_42 47 45 (by decide) (by decide) rfl ?_ (fun q => by exfalso; exact absurd q (by decide))
      intro hc42
      refine o_iloadN X2 d1_47 rfl 48 rfl ?_
      refine o_ifEq X2 d1_48 82 51 (by decide) (by decide) rfl ?_ (fun q => by exfalso; exact absurd q (by decide))
      intro hc48
      refine o_iloadN X2 d1_82 rfl 83 rfl ?_
      refine o_iloadN X2 d1_83 rfl 84 rfl ?_
      refine o_icmpNe X2 d1_84 91 87 (by decide) (by decide) rfl (fun q => by exfalso; exact q rfl) ?_
      intro hc84
      refine o_iconst (v := (1 : Int32)) X2 d1_87 rfl 88 rfl ?_
      refine o_goto X2 d1_88 92 (by decide) (by decide) ?_
      exact o_retZW X2 hS (Nat.zero_le _) hEL HC d1_92 (by decide) (by decide) (hQ _ _ ⟨rfl, S1, S2⟩)
    · skip
      refine o_iloadN X0 d1_0 rfl 1 rfl ?_
      refine o_callS X0 d1_1 (rest := []) (c_low l Z a0 hw [] n0 _ X0.size xc ) (hw _ (List.mem_of_getElem? (i := 4) rfl)) (hw _ (List.mem_of_getElem? (i := 5) rfl)) (hw _ (List.mem_of_getElem? (i := 6) rfl)) (hw _ (List.mem_of_getElem? (i := 7) rfl)) (by decide) 0 (by decide) (by decide) rfl [(.int xc)] rfl pd_2 rfl rfl (Nat.le_of_eq rfl) 0 0 rfl rfl (by decide) (by decide) 4 rfl ?_
      rintro _ T3 _ X3 ⟨rfl, rfl⟩
      rw [show (f_low xc) = (xc + (32 : Int32)) from by simp [f_low, hu1, hu2]]
      show OE p e (WE Z EL1 s ({ frames := 4, cells := 2, slots := 108, locals := 54 } : Room)) below n0 Q' T3 (mkF m 4 #[.val (.int xc), .unset, .unset, .unset, .unset] [(.int (xc + (32 : Int32)))])
      refine o_istoreN X3 d1_4 #[.val (.int xc), .val (.int (xc + (32 : Int32))), .unset, .unset, .unset] rfl 5 rfl ?_
      refine o_iloadN X3 d1_5 rfl 6 rfl ?_
      refine o_bipush (v := (65 : Int32)) X3 d1_6 rfl 8 rfl ?_
      refine o_icmpLt X3 d1_8 21 11 (by decide) (by decide) rfl (fun q => by exfalso; exact hu1 q) ?_
      intro hc8
      refine o_iloadN X3 d1_11 rfl 12 rfl ?_
      refine o_bipush (v := (90 : Int32)) X3 d1_12 rfl 14 rfl ?_
      refine o_icmpGt X3 d1_14 21 17 (by decide) (by decide) rfl (fun q => by exfalso; exact hu2 q) ?_
      intro hc14
      refine o_iconst (v := (1 : Int32)) X3 d1_17 rfl 18 rfl ?_
      refine o_goto X3 d1_18 22 (by decide) (by decide) ?_
      refine o_istoreN X3 d1_22 #[.val (.int xc), .val (.int (xc + (32 : Int32))), .val (.int (1 : Int32)), .unset, .unset] rfl 23 rfl ?_
      refine o_iloadN X3 d1_23 rfl 24 rfl ?_
      refine o_bipush (v := (65 : Int32)) X3 d1_24 rfl 26 rfl ?_
      refine o_icmpLt X3 d1_26 39 29 (by decide) (by decide) rfl (fun q => by exfalso; simp only [Int32.lt_iff_toInt_lt, Int32.reduceToInt] at q; have := v_up xc hu1 hu2; omega) ?_
      intro hc26
      refine o_iloadN X3 d1_29 rfl 30 rfl ?_
      refine o_bipush (v := (90 : Int32)) X3 d1_30 rfl 32 rfl ?_
      refine o_icmpGt X3 d1_32 39 35 (by decide) (by decide) rfl ?_ (fun q => by exfalso; apply q; simp only [Int32.lt_iff_toInt_lt, Int32.reduceToInt]; have := v_up xc hu1 hu2; omega)
      intro hc32
      refine o_iconst (v := (0 : Int32)) X3 d1_39 rfl 40 rfl ?_
      refine o_istoreN X3 d1_40 #[.val (.int xc), .val (.int (xc + (32 : Int32))), .val (.int (1 : Int32)), .val (.int (0 : Int32)), .unset] rfl 41 rfl ?_
      refine o_iloadN X3 d1_41 rfl 42 rfl ?_
      refine o_ifEq X3 d1_42 47 45 (by decide) (by decide) rfl ?_ (fun q => by exfalso; exact absurd q (by decide))
      intro hc42
      refine o_iloadN X3 d1_47 rfl 48 rfl ?_
      refine o_ifEq X3 d1_48 82 51 (by decide) (by decide) rfl (fun q => by exfalso; exact absurd q (by decide)) ?_
      intro hc48
      refine o_ldcStr X3 hS (Nat.zero_le _) hEL HC.1 d1_51 (List.mem_cons_self ..) (hw _ (List.mem_of_getElem? (i := 8) rfl)) (hSA hw) [(97 : Int32), (98 : Int32), (99 : Int32), (100 : Int32), (101 : Int32), (102 : Int32), (103 : Int32), (104 : Int32), (105 : Int32), (106 : Int32), (107 : Int32), (108 : Int32), (109 : Int32), (110 : Int32), (111 : Int32), (112 : Int32), (113 : Int32), (114 : Int32), (115 : Int32), (116 : Int32), (117 : Int32), (118 : Int32), (119 : Int32), (120 : Int32), (121 : Int32), (122 : Int32)] ⟨by decide, rfl⟩ (26 : Int32) (by decide) rfl 104 (by decide) (by decide) 2 108 rfl rfl (by decide) (by decide) 53 rfl ?_
      intro a4 b4 vm4 k4 T4 h4 X4 hS4 hk4 HC4 E4 H4
      refine o_astore X4 d1_53 rfl #[.val (.int xc), .val (.int (xc + (32 : Int32))), .val (.int (1 : Int32)), .val (.int (0 : Int32)), .val (.ref a4)] rfl 55 rfl ?_
      refine o_iloadN X4 d1_55 rfl 56 rfl ?_
      refine o_iloadN X4 d1_56 rfl 57 rfl ?_
      refine o_bipush (v := (32 : Int32)) X4 d1_57 rfl 59 rfl ?_
      refine o_iadd X4 d1_59 60 rfl ?_
      refine o_icmpNe X4 d1_60 80 63 (by decide) (by decide) rfl (fun q => by exfalso; exact q rfl) ?_
      intro hc60
      refine o_iloadN X4 d1_63 rfl 64 rfl ?_
      refine o_aload X4 d1_64 rfl rfl 66 rfl ?_
      refine o_iloadN X4 d1_66 rfl 67 rfl ?_
      refine o_bipush (v := (65 : Int32)) X4 d1_67 rfl 69 rfl ?_
      refine o_isub X4 d1_69 70 rfl ?_
      obtain ⟨i, hi, hib⟩ := v_ix xc hu1 hu2
      have hv7 : 0 ≤ (xc + 32).toInt ∧ (xc + 32).toInt ≤ 127 := by have := v_up xc hu1 hu2; omega
      have hn1 : ¬ xc - 65 < 0 := by rw [Int32.lt_iff_toInt_lt, hi, show (0 : Int32).toInt = 0 from rfl]; omega
      have hn2 : xc - 65 < Int32.ofNat [(97 : Int32), (98 : Int32), (99 : Int32), (100 : Int32), (101 : Int32), (102 : Int32), (103 : Int32), (104 : Int32), (105 : Int32), (106 : Int32), (107 : Int32), (108 : Int32), (109 : Int32), (110 : Int32), (111 : Int32), (112 : Int32), (113 : Int32), (114 : Int32), (115 : Int32), (116 : Int32), (117 : Int32), (118 : Int32), (119 : Int32), (120 : Int32), (121 : Int32), (122 : Int32)].length := by
        show xc - 65 < 26
        rw [Int32.lt_iff_toInt_lt, hi, show (26 : Int32).toInt = 26 from rfl]; omega
      refine o_callV X4 H4 0 rfl d1_70 (rest := [(.int (xc + (32 : Int32)))]) (c_ch l Z a0 hw [] n0 _ X4.size a4 b4 [(97 : Int32), (98 : Int32), (99 : Int32), (100 : Int32), (101 : Int32), (102 : Int32), (103 : Int32), (104 : Int32), (105 : Int32), (106 : Int32), (107 : Int32), (108 : Int32), (109 : Int32), (110 : Int32), (111 : Int32), (112 : Int32), (113 : Int32), (114 : Int32), (115 : Int32), (116 : Int32), (117 : Int32), (118 : Int32), (119 : Int32), (120 : Int32), (121 : Int32), (122 : Int32)] [] H4 xcs (S1.ext E4) hcs vf (S2.ext E4) hvf (xc - (65 : Int32)) i hi (xc + 32) (v_el xc hu1 hu2 i hi hib) hv7 hn1 hn2) (hw _ (List.mem_of_getElem? (i := 16) rfl)) (hw _ (List.mem_of_getElem? (i := 17) rfl)) (hw _ (List.mem_of_getElem? (i := 19) rfl)) (hw _ (List.mem_of_getElem? (i := 18) rfl)) (hw _ (List.mem_of_getElem? (i := 9) rfl)) (hw _ (List.mem_of_getElem? (i := 20) rfl)) (by decide) 1 (by decide) (by decide) rfl [(.int (xc - (65 : Int32)))] rfl pd_3 rfl rfl (Nat.le_of_eq rfl) 2 108 rfl rfl (by decide) (by decide) 73 rfl ?_
      rintro _ T5 _ X5 ⟨rfl, rfl⟩
      show OE p e (WE Z EL1 s ({ frames := 4, cells := 2, slots := 108, locals := 54 } : Room)) below n0 Q' T5 (mkF m 73 #[.val (.int xc), .val (.int (xc + (32 : Int32))), .val (.int (1 : Int32)), .val (.int (0 : Int32)), .val (.ref a4)] [(.int (xc + (32 : Int32))), (.int (xc + (32 : Int32)))])
      refine o_icmpNe X5 d1_73 80 76 (by decide) (by decide) rfl (fun q => by exfalso; exact q rfl) ?_
      intro hc73
      refine o_iconst (v := (1 : Int32)) X5 d1_76 rfl 77 rfl ?_
      refine o_goto X5 d1_77 81 (by decide) (by decide) ?_
      exact o_retZW X5 hS4 hk4 hEL (HC.trans HC4) d1_81 (by decide) (by decide) (hQ _ _ ⟨rfl, S1.ext E4, S2.ext E4⟩)
set_option maxRecDepth 65536 in
set_option maxHeartbeats 40000000 in
theorem c_law (l : Launch) (Z : State) (a0 : Array Value) (hw : ∀ d ∈ tables_1, d.before a0 Z = true) (ws : List Jvm.Cond) (n0 : Nat) (h0 : Heap) (hn0 : n0 ≤ h0.size) (xcs : Int32) (S1 : Sta Z h0 "java/lang/String" "COMPACT_STRINGS" "Z" (.int xcs)) (hcs : ¬ xcs = 0) (vf : Value) (S2 : Sta Z h0 "jdk/internal/util/Preconditions" "SIOOBE_FORMATTER" "Ljava/util/function/BiFunction;" vf) (hvf : vf.isRef = true) (xc xd : Int32) :
    OCW l Z EL1 x code maxLocals ret ws room_1 n0 #[(.int xc), (.int xd)] h0 (fun r h => r = some (.int 1)) := by
  refine OCW.of (EL := EL1) (plainFor_of_name pn_0) hn0 #[.val (.int xc), .val (.int xd), .unset] (fun m => by first | (simp [entryFrame, mkF, argsToLocals, Value.category, maxLocals]; done) | rfl) ?_
  have hEL := hEL hw
  intro p e s m below meth cd0 T0 X0 hS HC Q' hQ
  refine o_bipush (v := (63 : Int32)) X0 at_0 rfl 2 rfl ?_
  refine o_iloadN X0 at_2 rfl 3 rfl ?_
  refine o_bipush (v := (31 : Int32)) X0 at_3 rfl 5 rfl ?_
  refine o_iand X0 at_5 6 rfl ?_
  refine o_iadd X0 at_6 7 rfl ?_
  refine o_istoreN X0 at_7 #[.val (.int xc), .val (.int xd), .val (.int ((63 : Int32) + (xd &&& (31 : Int32))))] rfl 8 rfl ?_
  refine o_iloadN X0 at_8 rfl 9 rfl ?_
  refine o_callSW X0 hS (Nat.zero_le _) hEL HC.1 at_9 (rest := []) (c_ok l Z a0 hw [] n0 _ X0.size xcs S1 hcs vf S2 hvf xc) (hw _ (List.mem_of_getElem? (i := 0) rfl)) (hw _ (List.mem_of_getElem? (i := 1) rfl)) (hw _ (List.mem_of_getElem? (i := 2) rfl)) (hw _ (List.mem_of_getElem? (i := 3) rfl)) (by decide) 0 (by decide) (by decide) rfl [(.int xc)] rfl pd_1 rfl rfl (Nat.le_of_eq rfl) 2 108 rfl rfl (by decide) (by decide) 12 rfl ?_
  rintro _ vm1 T1 h1 X1 hS1 HC1 ⟨rfl, S1_1, S2_1⟩
  show OE p e (WE Z EL1 s room_1) below n0 Q' T1 (mkF m 12 #[.val (.int xc), .val (.int xd), .val (.int ((63 : Int32) + (xd &&& (31 : Int32))))] [(.int (1 : Int32))])
  refine o_ifEq X1 at_12 26 15 (by decide) (by decide) rfl (fun q => by exfalso; exact absurd q (by decide)) ?_
  intro hc12
  refine o_iloadN X1 at_15 rfl 16 rfl ?_
  refine o_callSW X1 hS1 (Nat.le_refl _) hEL (HC.trans HC1).1 at_16 (rest := []) (c_ok l Z a0 hw [] n0 _ X1.size xcs S1_1 hcs vf S2_1 hvf ((63 : Int32) + (xd &&& (31 : Int32)))) (hw _ (List.mem_of_getElem? (i := 0) rfl)) (hw _ (List.mem_of_getElem? (i := 1) rfl)) (hw _ (List.mem_of_getElem? (i := 2) rfl)) (hw _ (List.mem_of_getElem? (i := 3) rfl)) (by decide) 0 (by decide) (by decide) rfl [(.int ((63 : Int32) + (xd &&& (31 : Int32))))] rfl pd_1 rfl rfl (Nat.le_of_eq rfl) 4 216 rfl rfl (by decide) (by decide) 19 rfl ?_
  rintro _ vm2 T2 h2 X2 hS2 HC2 ⟨rfl, S1_2, S2_2⟩
  show OE p e (WE Z EL1 s room_1) below n0 Q' T2 (mkF m 19 #[.val (.int xc), .val (.int xd), .val (.int ((63 : Int32) + (xd &&& (31 : Int32))))] [(.int (1 : Int32))])
  refine o_ifEq X2 at_19 26 22 (by decide) (by decide) rfl (fun q => by exfalso; exact absurd q (by decide)) ?_
  intro hc19
  refine o_iconst (v := (1 : Int32)) X2 at_22 rfl 23 rfl ?_
  refine o_goto X2 at_23 27 (by decide) (by decide) ?_
  exact o_retZW X2 hS2 (Nat.le_refl _) hEL ((HC.trans HC1).trans HC2) at_27 (by decide) (by decide) (hQ _ _ rfl)
set_option maxRecDepth 65536 in
set_option maxHeartbeats 40000000 in
theorem comes_1 {Post : Tables → Env → Array Value → State → Outcome → State → Prop} (hpost : ∀ tb e args s v u, (limb_1_1.after args s (.returned v) u = true ∧ limb_1_2.after args s (.returned v) u = true ∧ True) → Jvm.D.FramedW s (.returned v) u (Jvm.fieldLocs frame_1_writes args s ++ Jvm.arrayLocs frame_1_arrays args s ++ Jvm.staticLocs frame_1_statics s) 8 1088 → Post tb e args s (.returned v) u) :
    ArmFor flags0 classFile x code maxLocals ret World_1 tables_1 room_1 Calls_1 rest_1 Pre_1 Post := by
  intro l hfl _ _ p e ha hc hk s m args below hf hA hF happ hP
  obtain ⟨hcalls, hrest, hpre⟩ := hP
  obtain ⟨-, -, -, hnamed, -, -, -, hat⟩ := (Spec.applies_iff hf).mp happ
  obtain ⟨hg, hn⟩ := and_e (Cond.before_iff.mp (show (Jvm.Cond.and given_1 narrow_1).before args s = true from hpre))
  obtain ⟨hcnt, hg0⟩ := and_e hg
  obtain ⟨ha0, hg1⟩ := and_e hg0
  have ha1 := hg1
  obtain ⟨w0, w1, rfl⟩ : ∃ w0 w1 : Value, args = #[w0, w1] := by
    have hs : args.size = 2 := by simpa [Cond.value, given_1] using hcnt
    obtain ⟨L⟩ := args
    match L, hs with
    | [w0, w1], _ => exact ⟨w0, w1, rfl⟩
  have hw := fun d (hd : d ∈ tables_1) => atoms_spec (ws := Jvm.Cond.code x code maxLocals ret :: tables_1) hat d (List.mem_cons_of_mem _ hd)
  obtain ⟨i0, ei0⟩ := is_v ha0
  obtain rfl : w0 = (.int i0) := Option.some.inj ei0
  obtain ⟨i1, ei1⟩ := is_v ha1
  obtain rfl : w1 = (.int i1) := Option.some.inj ei1
  obtain ⟨hsets, hown0⟩ := atoms_of _ (rest_1_c_eq ▸ (show rest_1_c.before _ s = true from hrest))
  have n5 := not_v (Cond.before_iff.mp (hsets _ (List.mem_of_getElem? (i := 2) rfl)))
  obtain ⟨i11, e10⟩ := is_v (Cond.before_iff.mp (hsets _ (List.mem_of_getElem? (i := 1) rfl)))
  have S12 : Sta s s.heap "java/lang/String" "COMPACT_STRINGS" "Z" (.int i11) := Sta.start e10 (Or.inl (hsets _ (List.mem_of_getElem? (i := 0) rfl)))
  obtain ⟨v13, e14, r15⟩ := isR_v (Cond.before_iff.mp (hsets _ (List.mem_of_getElem? (i := 8) rfl)))
  have S16 : Sta s s.heap "jdk/internal/util/Preconditions" "SIOOBE_FORMATTER" "Ljava/util/function/BiFunction;" v13 := Sta.start e14 (Or.inl (hsets _ (List.mem_of_getElem? (i := 7) rfl)))
  have c17 : ¬ (i11 = (0 : Int32)) := gotF (Cond.eq_ints e10 (Term.int_eval (0))) n5
  have hch : CHv s EL1 s.vm s.heap := CHv.start (hEL hw) hcalls.1 (hsets _ (List.mem_of_getElem? (i := 2) rfl)) (hSA hw _ (by simp [Bundle.stringAtoms])) (hSA hw _ (by simp [Bundle.stringAtoms, Bundle.sN]))
  obtain ⟨n, o, h1, h2, h3, _, L, rfl, ⟨rfl, N⟩, hC, hq⟩ := c_law l s _ hw tables_1 s.heap.size s.heap (Nat.le_refl _) i11 S12 c17 v13 S16 r15 i0 i1 p e ha hc hk s m _ below hf ((Spec.applies_iff_loose hf).mp happ).1 ⟨rfl, State.Warmed39.refl s, rfl, hch⟩ trivial
  refine ⟨n, _, h1, h2, h3, hpost _ _ _ _ _ _ ⟨Cond.after_iff.mpr rfl, Cond.after_iff.mpr (eq_i res_at (Term.int_eval (1)) rfl), trivial⟩ ⟨hq.1, hq.2.1, hq.2.2.1, (hq.2.2.2.sift fun y hy => Or.inr (N y hy)).mono (by decide) (by decide)⟩⟩
theorem main_1_1 : Claimed_1_1 := comes_1 fun _ _ _ _ _ _ h hF => ⟨h.1, hF⟩
theorem main_1_2 : Claimed_1_2 := comes_1 fun _ _ _ _ _ _ h hF => ⟨h.2.1, hF⟩
end Jvm.Pilot.@@N@@
namespace Jvm.Pilot.@@N@@
open Jvm Jvm.ClassFile Sem Op Lib Jvm.Free Jvm.Stand Jvm.Pilot.@@N@@.Jvm.D
/-! MADE BY PROGRAM (witnessworld.py) out of the Statement's table words and the real class files: 17 classes; the members and pool entries that the words name. The judged class is class 1, her method 1. -/
namespace start1
open Jvm.ClassFile
def u (s : String) : CpInfo := .utf8 (stringToUtf16 s)
/-- a pool by its gaps: so many unusable entries, then the entry; so many at the end -/
def gap : Nat → List CpInfo → List CpInfo
  | 0, r => r
  | n + 1, r => .unusable :: gap n r
def poolList (es : List (Nat × CpInfo)) (last : Nat) : List CpInfo := es.foldr (fun e r => gap e.1 (e.2 :: r)) (gap last [])
def pool (es : List (Nat × CpInfo)) (last : Nat) : Array CpInfo := ⟨poolList es last⟩
def fileOf (pool : Array CpInfo) (this : Nat) (attrs : Array Attribute := #[]) (ms : Array MethodInfo := #[]) (fl : Nat := 33) (sup : Nat := 0) (ifs : Array Nat := #[]) (fds : Array FieldInfo := #[]) : ClassFile where
  minorVersion := 0
  majorVersion := 65
  constantPool := pool
  accessFlags := fl
  thisClass := this
  superClass := sup
  interfaces := ifs
  fields := fds
  methods := ms
  attributes := attrs
def plain (name : String) (sup : Option ClassId) : Class where
  name := name
  kind := .ordinary
  loader := none
  accessFlags := 33
  super := sup
  interfaces := #[]
  cf := none
  fields := #[]
  methods := #[]
  instanceTypes := #[]
  staticTypes := #[]
  resolved := #[]
  callSites := []
  init := .initialized
  statics := none
  mirror := none

def pool0 : Array CpInfo := pool [(5, u "<init>"), (0, u "()V"), (1, .class_ 10), (1, u "java/lang/Object")] 113

def k0m0 : Method := { name := "<init>", desc := "()V", sig := { parameters := [], returnType := none }, accessFlags := 1, code := none }
/-- java/lang/Object -/
def k0 : Class := { plain "java/lang/Object" none with
  accessFlags := 33
  interfaces := #[]
  cf := some (fileOf pool0 8 #[] #[{ accessFlags := 1, nameIndex := 5, descriptorIndex := 6, attributes := #[] }] 33 0 #[] #[])
  fields := #[]
  methods := #[k0m0]
  instanceTypes := #[]
  staticTypes := #[]
  resolved := Array.replicate 124 none
  statics := none }

def pool1 : Array CpInfo := pool [(2, .class_ 4), (1, u "java/lang/Object"), (0, u "<init>"), (0, u "()V"), (0, .methodref 8 9), (0, .class_ 10), (0, .nameAndType 11 12), (0, u "com/example/ascriber/ascriber/ascription/TextToAsciiLowerCasePinLaw"), (0, u "ok"), (0, u "(I)Z"), (0, .methodref 14 15), (0, .class_ 16), (0, .nameAndType 17 18), (0, u "com/example/ascriber/ascriber/ascription/Text"), (0, u "toAsciiLowerCase"), (0, u "(I)I"), (0, .string 20), (0, u "abcdefghijklmnopqrstuvwxyz"), (0, .methodref 22 23), (0, .class_ 24), (0, .nameAndType 25 26), (0, u "java/lang/String"), (0, u "charAt"), (0, u "(I)C"), (2, u "law"), (0, u "(II)Z")] 3

def k1m0 : Method := { name := "<init>", desc := "()V", sig := { parameters := [], returnType := none }, accessFlags := 2, code := none }
def k1c1 : Code := { maxStack := 3, maxLocals := 3, code := code, exceptionTable := #[], attributes := #[] }
def k1m1 : Method := { name := "law", desc := "(II)Z", sig := { parameters := [.int, .int], returnType := some .boolean }, accessFlags := 9, code := some k1c1 }
def k1c2 : Code := { maxStack := 4, maxLocals := 5, code := method_3_code, exceptionTable := #[], attributes := #[] }
def k1m2 : Method := { name := "ok", desc := "(I)Z", sig := { parameters := [.int], returnType := some .boolean }, accessFlags := 10, code := some k1c2 }
/-- com/example/ascriber/ascriber/ascription/TextToAsciiLowerCasePinLaw -/
def k1 : Class := { plain "com/example/ascriber/ascriber/ascription/TextToAsciiLowerCasePinLaw" (some 0) with
  accessFlags := 49
  interfaces := #[]
  cf := some (fileOf pool1 8 #[] #[{ accessFlags := 2, nameIndex := 5, descriptorIndex := 6, attributes := #[] }, { accessFlags := 9, nameIndex := 29, descriptorIndex := 30, attributes := #[] }, { accessFlags := 10, nameIndex := 11, descriptorIndex := 12, attributes := #[] }] 49 2 #[] #[])
  fields := #[]
  methods := #[k1m0, k1m1, k1m2]
  instanceTypes := #[]
  staticTypes := #[]
  resolved := Array.replicate 34 none
  statics := none }

def pool2 : Array CpInfo := pool [(2, .class_ 4), (1, u "java/lang/Object"), (0, u "<init>"), (0, u "()V"), (11, .class_ 20), (1, u "com/example/ascriber/ascriber/ascription/Text"), (0, u "toAsciiLowerCase"), (0, u "(I)I")] 28

def k2m0 : Method := { name := "<init>", desc := "()V", sig := { parameters := [], returnType := none }, accessFlags := 2, code := none }
def k2c1 : Code := { maxStack := 2, maxLocals := 1, code := prog_12_method_4_code, exceptionTable := #[], attributes := #[] }
def k2m1 : Method := { name := "toAsciiLowerCase", desc := "(I)I", sig := { parameters := [.int], returnType := some .int }, accessFlags := 8, code := some k2c1 }
/-- com/example/ascriber/ascriber/ascription/Text -/
def k2 : Class := { plain "com/example/ascriber/ascriber/ascription/Text" (some 0) with
  accessFlags := 48
  interfaces := #[]
  cf := some (fileOf pool2 18 #[] #[{ accessFlags := 2, nameIndex := 5, descriptorIndex := 6, attributes := #[] }, { accessFlags := 8, nameIndex := 21, descriptorIndex := 22, attributes := #[] }] 48 2 #[] #[])
  fields := #[]
  methods := #[k2m0, k2m1]
  instanceTypes := #[]
  staticTypes := #[]
  resolved := Array.replicate 51 none
  statics := none }

def pool3 : Array CpInfo := pool [(1, .class_ 2), (0, u "java/io/Serializable"), (0, .class_ 4), (0, u "java/lang/Object")] 2

/-- java/io/Serializable -/
def k3 : Class := { plain "java/io/Serializable" (some 0) with
  accessFlags := 1537
  interfaces := #[]
  cf := some (fileOf pool3 1 #[] #[] 1537 3 #[] #[])
  fields := #[]
  methods := #[]
  instanceTypes := #[]
  staticTypes := #[]
  resolved := Array.replicate 7 none
  statics := none }

def pool4 : Array CpInfo := pool [(1, .class_ 2), (0, u "java/lang/Comparable"), (0, .class_ 4), (0, u "java/lang/Object")] 7

/-- java/lang/Comparable -/
def k4 : Class := { plain "java/lang/Comparable" (some 0) with
  accessFlags := 1537
  interfaces := #[]
  cf := some (fileOf pool4 1 #[] #[] 1537 3 #[] #[])
  fields := #[]
  methods := #[]
  instanceTypes := #[]
  staticTypes := #[]
  resolved := Array.replicate 12 none
  statics := none }

def pool5 : Array CpInfo := pool [(2, .class_ 4), (1, u "java/lang/CharSequence"), (42, .class_ 48), (0, u "java/lang/CharSequence$1CodePointIterator"), (10, .class_ 60), (0, u "java/lang/CharSequence$1CharIterator"), (5, .class_ 67), (0, u "java/lang/Object")] 63

/-- java/lang/CharSequence -/
def k5 : Class := { plain "java/lang/CharSequence" (some 0) with
  accessFlags := 1537
  interfaces := #[]
  cf := some (fileOf pool5 2 #[.nestMembers #[47, 59]] #[] 1537 66 #[] #[])
  fields := #[]
  methods := #[]
  instanceTypes := #[]
  staticTypes := #[]
  resolved := Array.replicate 131 none
  statics := none }

def pool6 : Array CpInfo := pool [(1, .class_ 2), (0, u "java/lang/constant/Constable"), (0, .class_ 4), (0, u "java/lang/Object")] 6

/-- java/lang/constant/Constable -/
def k6 : Class := { plain "java/lang/constant/Constable" (some 0) with
  accessFlags := 1537
  interfaces := #[]
  cf := some (fileOf pool6 1 #[] #[] 1537 3 #[] #[])
  fields := #[]
  methods := #[]
  instanceTypes := #[]
  staticTypes := #[]
  resolved := Array.replicate 11 none
  statics := none }

def pool7 : Array CpInfo := pool [(1, .class_ 2), (0, u "java/lang/constant/ConstantDesc"), (0, .class_ 4), (0, u "java/lang/Object")] 32

/-- java/lang/constant/ConstantDesc -/
def k7 : Class := { plain "java/lang/constant/ConstantDesc" (some 0) with
  accessFlags := 1537
  interfaces := #[]
  cf := some (fileOf pool7 1 #[] #[] 1537 3 #[] #[])
  fields := #[]
  methods := #[]
  instanceTypes := #[]
  staticTypes := #[]
  resolved := Array.replicate 37 none
  statics := none }

def pool8 : Array CpInfo := pool [(2, .class_ 4), (1, u "java/lang/Object"), (0, u "<init>"), (0, u "()V"), (2, .fieldref 10 11), (0, .class_ 12), (0, .nameAndType 13 14), (0, u "java/lang/String"), (0, u "value"), (0, u "[B"), (0, .fieldref 10 16), (0, .nameAndType 17 18), (0, u "coder"), (0, u "B"), (2, u "hash"), (0, u "I"), (2, u "hashIsZero"), (0, u "Z"), (11, .fieldref 10 39), (0, .nameAndType 40 26), (0, u "COMPACT_STRINGS"), (66, .class_ 109), (1, u "java/lang/StringLatin1"), (32, u "()Z"), (220, u "([BI)C"), (27, u "(II)V"), (35, u "(I)C"), (64, .methodref 10 493), (0, .nameAndType 494 142), (0, u "isLatin1"), (0, .methodref 107 496), (0, .nameAndType 497 363), (0, u "charAt"), (3, u "checkIndex"), (73, .class_ 576), (0, u "java/lang/CharSequence"), (22, u "CASE_INSENSITIVE_ORDER"), (0, u "Ljava/util/Comparator;"), (452, .fieldref 1054 1055), (0, .class_ 1056), (0, .nameAndType 1057 1058), (0, u "jdk/internal/util/Preconditions"), (0, u "SIOOBE_FORMATTER"), (0, u "Ljava/util/function/BiFunction;"), (0, .methodref 1054 1060), (0, .nameAndType 501 1061), (0, u "(IILjava/util/function/BiFunction;)I"), (39, u "serialPersistentFields"), (0, u "[Ljava/io/ObjectStreamField;"), (0, .class_ 1104), (0, u "java/lang/String$CaseInsensitiveComparator"), (1, .class_ 1107), (0, u "java/io/Serializable"), (0, .class_ 1109), (0, u "java/lang/Comparable"), (0, .class_ 1111), (0, u "java/lang/constant/Constable"), (0, .class_ 1113), (0, u "java/lang/constant/ConstantDesc"), (2, u "serialVersionUID"), (0, u "J"), (3, u "REPL"), (0, u "C"), (2, u "LATIN1"), (1, u "UTF16")] 323

def k8m0 : Method := { name := "<init>", desc := "()V", sig := { parameters := [], returnType := none }, accessFlags := 1, code := none }
def k8c1 : Code := { maxStack := 2, maxLocals := 2, code := jdk_42_method_56_code, exceptionTable := #[], attributes := #[] }
def k8m1 : Method := { name := "charAt", desc := "(I)C", sig := { parameters := [.int], returnType := some .char }, accessFlags := 1, code := some k8c1 }
def k8c2 : Code := { maxStack := 1, maxLocals := 1, code := jdk_42_method_154_code, exceptionTable := #[], attributes := #[] }
def k8m2 : Method := { name := "isLatin1", desc := "()Z", sig := { parameters := [], returnType := some .boolean }, accessFlags := 0, code := some k8c2 }
def k8c3 : Code := { maxStack := 3, maxLocals := 2, code := jdk_42_method_155_code, exceptionTable := #[], attributes := #[] }
def k8m3 : Method := { name := "checkIndex", desc := "(II)V", sig := { parameters := [.int, .int], returnType := none }, accessFlags := 8, code := some k8c3 }
/-- java/lang/String -/
def k8 : Class := { plain "java/lang/String" (some 0) with
  accessFlags := 49
  interfaces := #[3, 4, 5, 6, 7]
  cf := some (fileOf pool8 10 #[.nestMembers #[1103]] #[{ accessFlags := 1, nameIndex := 5, descriptorIndex := 6, attributes := #[] }, { accessFlags := 1, nameIndex := 497, descriptorIndex := 427, attributes := #[] }, { accessFlags := 0, nameIndex := 494, descriptorIndex := 142, attributes := #[] }, { accessFlags := 8, nameIndex := 501, descriptorIndex := 391, attributes := #[] }] 49 2 #[1106, 1108, 575, 1110, 1112] #[{ accessFlags := 18, nameIndex := 13, descriptorIndex := 14, attributes := #[] }, { accessFlags := 18, nameIndex := 17, descriptorIndex := 18, attributes := #[] }, { accessFlags := 2, nameIndex := 21, descriptorIndex := 22, attributes := #[] }, { accessFlags := 2, nameIndex := 25, descriptorIndex := 26, attributes := #[] }, { accessFlags := 26, nameIndex := 1116, descriptorIndex := 1117, attributes := #[] }, { accessFlags := 24, nameIndex := 40, descriptorIndex := 26, attributes := #[] }, { accessFlags := 26, nameIndex := 1101, descriptorIndex := 1102, attributes := #[] }, { accessFlags := 26, nameIndex := 1121, descriptorIndex := 1122, attributes := #[] }, { accessFlags := 25, nameIndex := 599, descriptorIndex := 600, attributes := #[] }, { accessFlags := 24, nameIndex := 1125, descriptorIndex := 18, attributes := #[] }, { accessFlags := 24, nameIndex := 1127, descriptorIndex := 18, attributes := #[] }])
  fields := #[{ name := "value", type := (.array .byte), accessFlags := 18, slot := 0, constantValue := 0 }, { name := "coder", type := .byte, accessFlags := 18, slot := 1, constantValue := 0 }, { name := "hash", type := .int, accessFlags := 2, slot := 2, constantValue := 0 }, { name := "hashIsZero", type := .boolean, accessFlags := 2, slot := 3, constantValue := 0 }, { name := "serialVersionUID", type := .long, accessFlags := 26, slot := 0, constantValue := 0 }, { name := "COMPACT_STRINGS", type := .boolean, accessFlags := 24, slot := 1, constantValue := 0 }, { name := "serialPersistentFields", type := (.array (.object "java/io/ObjectStreamField")), accessFlags := 26, slot := 2, constantValue := 0 }, { name := "REPL", type := .char, accessFlags := 26, slot := 3, constantValue := 0 }, { name := "CASE_INSENSITIVE_ORDER", type := (.object "java/util/Comparator"), accessFlags := 25, slot := 4, constantValue := 0 }, { name := "LATIN1", type := .byte, accessFlags := 24, slot := 5, constantValue := 0 }, { name := "UTF16", type := .byte, accessFlags := 24, slot := 6, constantValue := 0 }]
  methods := #[k8m0, k8m1, k8m2, k8m3]
  instanceTypes := #[(.array .byte), .byte, .int, .boolean]
  staticTypes := #[.long, .boolean, (.array (.object "java/io/ObjectStreamField")), .char, (.object "java/util/Comparator"), .byte, .byte]
  resolved := Array.replicate 1451 none
  statics := some 0 }

def pool9 : Array CpInfo := pool [(1, .class_ 2), (0, u "java/lang/String"), (1, .class_ 6), (1, u "java/lang/Object"), (0, u "<init>"), (0, u "()V"), (0, .methodref 1 10), (0, .nameAndType 11 12), (0, u "checkIndex"), (0, u "(II)V"), (1, .class_ 16), (1, u "java/lang/StringLatin1"), (36, u "([BI)C"), (67, u "$assertionsDisabled"), (0, u "Z"), (98, .class_ 223), (1, u "java/lang/StringLatin1$LinesSpliterator"), (28, u "charAt"), (137, .class_ 391), (0, u "java/lang/StringLatin1$CharsSpliterator")] 3

def k9m0 : Method := { name := "<init>", desc := "()V", sig := { parameters := [], returnType := none }, accessFlags := 0, code := none }
def k9c1 : Code := { maxStack := 2, maxLocals := 2, code := jdk_43_method_2_code, exceptionTable := #[], attributes := #[] }
def k9m1 : Method := { name := "charAt", desc := "([BI)C", sig := { parameters := [(.array .byte), .int], returnType := some .char }, accessFlags := 9, code := some k9c1 }
/-- java/lang/StringLatin1 -/
def k9 : Class := { plain "java/lang/StringLatin1" (some 0) with
  accessFlags := 48
  interfaces := #[]
  cf := some (fileOf pool9 14 #[.nestMembers #[390, 221]] #[{ accessFlags := 0, nameIndex := 7, descriptorIndex := 8, attributes := #[] }, { accessFlags := 9, nameIndex := 252, descriptorIndex := 53, attributes := #[] }] 48 4 #[] #[{ accessFlags := 4120, nameIndex := 121, descriptorIndex := 122, attributes := #[] }])
  fields := #[{ name := "$assertionsDisabled", type := .boolean, accessFlags := 4120, slot := 0, constantValue := 0 }]
  methods := #[k9m0, k9m1]
  instanceTypes := #[]
  staticTypes := #[.boolean]
  resolved := Array.replicate 395 none
  statics := none }

def pool10 : Array CpInfo := pool [(2, .class_ 4), (1, u "java/lang/Object"), (0, u "<init>"), (0, u "()V"), (17, .class_ 26), (1, u "jdk/internal/util/Preconditions"), (6, u "checkIndex"), (21, .class_ 56), (0, u "jdk/internal/util/Preconditions$4"), (57, .class_ 115), (0, u "jdk/internal/util/Preconditions$1"), (7, u "SIOOBE_FORMATTER"), (0, u "Ljava/util/function/BiFunction;"), (0, .class_ 126), (0, u "jdk/internal/util/Preconditions$2"), (3, u "AIOOBE_FORMATTER"), (0, .class_ 132), (0, u "jdk/internal/util/Preconditions$3"), (3, u "IOOBE_FORMATTER"), (41, u "(IILjava/util/function/BiFunction;)I")] 15

def k10m0 : Method := { name := "<init>", desc := "()V", sig := { parameters := [], returnType := none }, accessFlags := 1, code := none }
def k10c1 : Code := { maxStack := 3, maxLocals := 3, code := jdk_41_method_11_code, exceptionTable := #[], attributes := #[] }
def k10m1 : Method := { name := "checkIndex", desc := "(IILjava/util/function/BiFunction;)I", sig := { parameters := [.int, .int, (.object "java/util/function/BiFunction")], returnType := some .int }, accessFlags := 9, code := some k10c1 }
/-- jdk/internal/util/Preconditions -/
def k10 : Class := { plain "jdk/internal/util/Preconditions" (some 0) with
  accessFlags := 33
  interfaces := #[]
  cf := some (fileOf pool10 24 #[.nestMembers #[55, 131, 125, 114]] #[{ accessFlags := 1, nameIndex := 5, descriptorIndex := 6, attributes := #[] }, { accessFlags := 9, nameIndex := 33, descriptorIndex := 178, attributes := #[] }] 33 2 #[] #[{ accessFlags := 25, nameIndex := 123, descriptorIndex := 124, attributes := #[] }, { accessFlags := 25, nameIndex := 130, descriptorIndex := 124, attributes := #[] }, { accessFlags := 25, nameIndex := 136, descriptorIndex := 124, attributes := #[] }])
  fields := #[{ name := "SIOOBE_FORMATTER", type := (.object "java/util/function/BiFunction"), accessFlags := 25, slot := 0, constantValue := 0 }, { name := "AIOOBE_FORMATTER", type := (.object "java/util/function/BiFunction"), accessFlags := 25, slot := 1, constantValue := 0 }, { name := "IOOBE_FORMATTER", type := (.object "java/util/function/BiFunction"), accessFlags := 25, slot := 2, constantValue := 0 }]
  methods := #[k10m0, k10m1]
  instanceTypes := #[]
  staticTypes := #[(.object "java/util/function/BiFunction"), (.object "java/util/function/BiFunction"), (.object "java/util/function/BiFunction")]
  resolved := Array.replicate 194 none
  statics := some 1 }

def pool11 : Array CpInfo := pool [(9, u "<init>"), (6, .class_ 18), (1, u "java/lang/Object"), (0, u "()V"), (1, .class_ 23), (1, u "jdk/internal/util/ArraysSupport"), (0, u "LOG2_ARRAY_LONG_INDEX_SCALE"), (0, u "I"), (2, u "U"), (0, u "Ljdk/internal/misc/Unsafe;"), (8, u "BIG_ENDIAN"), (0, u "Z"), (8, u "LOG2_BYTE_BIT_SIZE"), (4, u "LOG2_ARRAY_INT_INDEX_SCALE"), (54, u "JLA"), (0, u "Ljdk/internal/access/JavaLangAccess;"), (11, u "LOG2_ARRAY_BOOLEAN_INDEX_SCALE"), (9, u "LOG2_ARRAY_BYTE_INDEX_SCALE"), (5, u "LOG2_ARRAY_CHAR_INDEX_SCALE"), (5, u "LOG2_ARRAY_SHORT_INDEX_SCALE"), (18, u "LOG2_ARRAY_FLOAT_INDEX_SCALE"), (24, u "LOG2_ARRAY_DOUBLE_INDEX_SCALE"), (89, u "T_BOOLEAN"), (2, u "T_CHAR"), (1, u "T_FLOAT"), (1, u "T_DOUBLE"), (1, u "T_BYTE"), (1, u "T_SHORT"), (1, u "T_INT"), (1, u "T_LONG"), (1, u "SOFT_MAX_ARRAY_LENGTH")] 83

def k11m0 : Method := { name := "<init>", desc := "()V", sig := { parameters := [], returnType := none }, accessFlags := 2, code := none }
/-- jdk/internal/util/ArraysSupport -/
def k11 : Class := { plain "jdk/internal/util/ArraysSupport" (some 0) with
  accessFlags := 33
  interfaces := #[]
  cf := some (fileOf pool11 21 #[] #[{ accessFlags := 2, nameIndex := 9, descriptorIndex := 19, attributes := #[] }] 33 16 #[] #[{ accessFlags := 24, nameIndex := 28, descriptorIndex := 29, attributes := #[] }, { accessFlags := 26, nameIndex := 38, descriptorIndex := 39, attributes := #[] }, { accessFlags := 25, nameIndex := 121, descriptorIndex := 25, attributes := #[] }, { accessFlags := 25, nameIndex := 131, descriptorIndex := 25, attributes := #[] }, { accessFlags := 25, nameIndex := 137, descriptorIndex := 25, attributes := #[] }, { accessFlags := 25, nameIndex := 143, descriptorIndex := 25, attributes := #[] }, { accessFlags := 25, nameIndex := 53, descriptorIndex := 25, attributes := #[] }, { accessFlags := 25, nameIndex := 24, descriptorIndex := 25, attributes := #[] }, { accessFlags := 25, nameIndex := 162, descriptorIndex := 25, attributes := #[] }, { accessFlags := 25, nameIndex := 187, descriptorIndex := 25, attributes := #[] }, { accessFlags := 26, nameIndex := 48, descriptorIndex := 25, attributes := #[] }, { accessFlags := 25, nameIndex := 277, descriptorIndex := 25, attributes := #[] }, { accessFlags := 25, nameIndex := 280, descriptorIndex := 25, attributes := #[] }, { accessFlags := 25, nameIndex := 282, descriptorIndex := 25, attributes := #[] }, { accessFlags := 25, nameIndex := 284, descriptorIndex := 25, attributes := #[] }, { accessFlags := 25, nameIndex := 286, descriptorIndex := 25, attributes := #[] }, { accessFlags := 25, nameIndex := 288, descriptorIndex := 25, attributes := #[] }, { accessFlags := 25, nameIndex := 290, descriptorIndex := 25, attributes := #[] }, { accessFlags := 25, nameIndex := 292, descriptorIndex := 25, attributes := #[] }, { accessFlags := 26, nameIndex := 108, descriptorIndex := 109, attributes := #[] }, { accessFlags := 25, nameIndex := 294, descriptorIndex := 25, attributes := #[] }])
  fields := #[{ name := "U", type := (.object "jdk/internal/misc/Unsafe"), accessFlags := 24, slot := 0, constantValue := 0 }, { name := "BIG_ENDIAN", type := .boolean, accessFlags := 26, slot := 1, constantValue := 0 }, { name := "LOG2_ARRAY_BOOLEAN_INDEX_SCALE", type := .int, accessFlags := 25, slot := 2, constantValue := 0 }, { name := "LOG2_ARRAY_BYTE_INDEX_SCALE", type := .int, accessFlags := 25, slot := 3, constantValue := 0 }, { name := "LOG2_ARRAY_CHAR_INDEX_SCALE", type := .int, accessFlags := 25, slot := 4, constantValue := 0 }, { name := "LOG2_ARRAY_SHORT_INDEX_SCALE", type := .int, accessFlags := 25, slot := 5, constantValue := 0 }, { name := "LOG2_ARRAY_INT_INDEX_SCALE", type := .int, accessFlags := 25, slot := 6, constantValue := 0 }, { name := "LOG2_ARRAY_LONG_INDEX_SCALE", type := .int, accessFlags := 25, slot := 7, constantValue := 0 }, { name := "LOG2_ARRAY_FLOAT_INDEX_SCALE", type := .int, accessFlags := 25, slot := 8, constantValue := 0 }, { name := "LOG2_ARRAY_DOUBLE_INDEX_SCALE", type := .int, accessFlags := 25, slot := 9, constantValue := 0 }, { name := "LOG2_BYTE_BIT_SIZE", type := .int, accessFlags := 26, slot := 10, constantValue := 0 }, { name := "T_BOOLEAN", type := .int, accessFlags := 25, slot := 11, constantValue := 0 }, { name := "T_CHAR", type := .int, accessFlags := 25, slot := 12, constantValue := 0 }, { name := "T_FLOAT", type := .int, accessFlags := 25, slot := 13, constantValue := 0 }, { name := "T_DOUBLE", type := .int, accessFlags := 25, slot := 14, constantValue := 0 }, { name := "T_BYTE", type := .int, accessFlags := 25, slot := 15, constantValue := 0 }, { name := "T_SHORT", type := .int, accessFlags := 25, slot := 16, constantValue := 0 }, { name := "T_INT", type := .int, accessFlags := 25, slot := 17, constantValue := 0 }, { name := "T_LONG", type := .int, accessFlags := 25, slot := 18, constantValue := 0 }, { name := "JLA", type := (.object "jdk/internal/access/JavaLangAccess"), accessFlags := 26, slot := 19, constantValue := 0 }, { name := "SOFT_MAX_ARRAY_LENGTH", type := .int, accessFlags := 25, slot := 20, constantValue := 0 }]
  methods := #[k11m0]
  instanceTypes := #[]
  staticTypes := #[(.object "jdk/internal/misc/Unsafe"), .boolean, .int, .int, .int, .int, .int, .int, .int, .int, .int, .int, .int, .int, .int, .int, .int, .int, .int, (.object "jdk/internal/access/JavaLangAccess"), .int]
  resolved := Array.replicate 378 none
  statics := none }

def pool12 : Array CpInfo := pool [(1, u "java/lang/Cloneable"), (0, .class_ 1), (0, u "java/lang/Object"), (0, .class_ 3)] 3

/-- java/lang/Cloneable -/
def k12 : Class := { plain "java/lang/Cloneable" (some 0) with
  accessFlags := 1537
  interfaces := #[]
  cf := some (fileOf pool12 2 #[] #[] 1537 4 #[] #[])
  fields := #[]
  methods := #[]
  instanceTypes := #[]
  staticTypes := #[]
  resolved := Array.replicate 8 none
  statics := none }

/-- the primitive byte -/
def k13 : Class := { plain "byte" none with kind := .primitive 'B', accessFlags := 0x411 }
/-- [B -/
def k14 : Class := { plain "[B" (some 0) with kind := .array 13 .byte, interfaces := #[12, 3], accessFlags := 1041 }

/-- the primitive int -/
def k15 : Class := { plain "int" none with kind := .primitive 'I', accessFlags := 0x411 }
/-- [I -/
def k16 : Class := { plain "[I" (some 0) with kind := .array 15 .int, interfaces := #[12, 3], accessFlags := 1041 }

def heap : Heap := #[{ cls := 8, slots := #[.long 0, .int 1, .null, .int 0, .null, .int 0, .int 0], vm := .statics 8 },
  { cls := 10, slots := #[.null, .null, .null], vm := .statics 10 }]
def classes : Array Class := #[k0, k1, k2, k3, k4, k5, k6, k7, k8, k9, k10, k11, k12, k13, k14, k15, k16]
def interned : List (Array UInt16 × Addr) := []
def slotsUsed : Nat := 10
def theMethod : MethodId := ⟨1, 1⟩
def args0 : Array Value := #[.int 5, .int 3]
def aboutOver (below : List Frame) : State where
  vm := { classes := classes, interned := interned.toArray }
  heap := heap
  slotsUsed := slotsUsed
  threads := #[{ frames := .invoking theMethod args0 :: below }]
def below0 : List Frame := [.native { method := ⟨0, 0⟩, args := #[] }]
def about1 : State := aboutOver below0
def p0 : Program := .bare "" "" ""
def e0 : Env := launch0.env 0 0 0
theorem w_frames : about1.frames = Frame.invoking theMethod args0 :: below0 := rfl
set_option maxRecDepth 65536 in
theorem w_args : argsFit about1.vm theMethod args0 = true := by decide +kernel
set_option maxRecDepth 65536 in
theorem w_heap : heapFits about1 = true := by decide +kernel
set_option maxRecDepth 65536 in
theorem w_runnable : about1.curStatus? = some .runnable := by decide +kernel
set_option maxRecDepth 65536 in
theorem w_alone : about1.alone = true := by decide +kernel
set_option maxRecDepth 65536 in
theorem w_named : about1.methodNamed? x = some theMethod := by decide +kernel
set_option maxRecDepth 65536 in
theorem w_hears : about1.hears theMethod below0 = true := by decide +kernel
set_option maxRecDepth 65536 in
theorem w_ripe : about1.ripe theMethod args0 below0 = true := by decide +kernel
theorem w_running : about1.status = .running := rfl
set_option maxRecDepth 65536 in
theorem w_room : about1.hasRoom e0.platform room_1 = true :=
  launch0.hasRoom_least _ room_1 (by decide +kernel) (by decide +kernel) (by decide +kernel) (by decide +kernel) (by decide +kernel) (by decide +kernel)
theorem allAtoms_all (ts : List Jvm.Cond) (a : Array Jvm.Value) (st : Jvm.State) : (allAtoms ts).before a st = ts.all (fun c => c.before a st) := by
  induction ts with
  | nil => rfl
  | cons c t ih =>
    show (Jvm.Cond.and c (allAtoms t)).before a st = _
    rw [Jvm.Cond.before_and, ih, List.all_cons]
def words1 : List Jvm.Cond := Jvm.Cond.code x code maxLocals ret :: tables_1
/-- a 'code' word, met by the world's own term for the bytes: nothing is compared byte by byte -/
theorem code_word {y : MethodName} {bytes : ByteArray} {mx : Nat} {rt : Option FieldType} {a : Array Value} {s : State} {m : MethodId} {meth : Method} {c : Code} (h1 : s.methodNamed? y = some m) (h2 : s.vm.method? m = some meth) (h3 : meth.code = some c) (h4 : c.code = bytes)
    (h5 : (c.maxLocals == mx && c.exceptionTable.isEmpty && decide (c.maxStack ≤ mostOperands) && decide (meth.sig.returnType = rt) && !meth.locks && decide (parseMethodDescriptor y.desc = some meth.sig)) = true) : (Jvm.Cond.code y bytes mx rt).before a s = true := by
  simp only [Bool.and_eq_true, beq_iff_eq, Bool.not_eq_true', decide_eq_true_eq] at h5
  obtain ⟨⟨⟨⟨⟨g1, g2⟩, g3⟩, g4⟩, g5⟩, g6⟩ := h5
  simp [Cond.before, Cond.holds, Cond.value, h1, h2, h3, h4, g1, g2, g3, g4, g5, g6]
def isCode : Jvm.Cond → Bool
  | .code _ _ _ _ => true
  | _ => false
theorem all_split {L : List Jvm.Cond} {P : Jvm.Cond → Bool} (h1 : L.all (fun c => isCode c || P c) = true) (h2 : ∀ c ∈ L.filter isCode, P c = true) : L.all P = true := by
  refine List.all_eq_true.mpr fun c hc => ?_
  have h := List.all_eq_true.mp h1 c hc
  rcases Bool.eq_false_or_eq_true (isCode c) with hi | hi
  · exact h2 c (List.mem_filter.mpr ⟨hc, hi⟩)
  · simpa [hi] using h
set_option maxRecDepth 65536 in
theorem w_c0 : (Jvm.Cond.code x code maxLocals ret).before args0 about1 = true := code_word (m := ⟨1, 1⟩) (meth := k1m1) (c := k1c1) (by decide +kernel) rfl rfl rfl (by decide +kernel)
set_option maxRecDepth 65536 in
theorem w_c1 : (Jvm.Cond.code ({ cls := "com/example/ascriber/ascriber/ascription/TextToAsciiLowerCasePinLaw", name := "ok", desc := "(I)Z" } : Jvm.MethodName) method_3_code (5 : Nat) (Option.some Jvm.ClassFile.FieldType.boolean)).before args0 about1 = true := code_word (m := ⟨1, 2⟩) (meth := k1m2) (c := k1c2) (by decide +kernel) rfl rfl rfl (by decide +kernel)
set_option maxRecDepth 65536 in
theorem w_c2 : (Jvm.Cond.code ({ cls := "com/example/ascriber/ascriber/ascription/Text", name := "toAsciiLowerCase", desc := "(I)I" } : Jvm.MethodName) prog_12_method_4_code (1 : Nat) (Option.some Jvm.ClassFile.FieldType.int)).before args0 about1 = true := code_word (m := ⟨2, 1⟩) (meth := k2m1) (c := k2c1) (by decide +kernel) rfl rfl rfl (by decide +kernel)
set_option maxRecDepth 65536 in
theorem w_c3 : (Jvm.Cond.code ({ cls := "java/lang/String", name := "charAt", desc := "(I)C" } : Jvm.MethodName) jdk_42_method_56_code (2 : Nat) (Option.some Jvm.ClassFile.FieldType.char)).before args0 about1 = true := code_word (m := ⟨8, 1⟩) (meth := k8m1) (c := k8c1) (by decide +kernel) rfl rfl rfl (by decide +kernel)
set_option maxRecDepth 65536 in
theorem w_c4 : (Jvm.Cond.code ({ cls := "java/lang/String", name := "isLatin1", desc := "()Z" } : Jvm.MethodName) jdk_42_method_154_code (1 : Nat) (Option.some Jvm.ClassFile.FieldType.boolean)).before args0 about1 = true := code_word (m := ⟨8, 2⟩) (meth := k8m2) (c := k8c2) (by decide +kernel) rfl rfl rfl (by decide +kernel)
set_option maxRecDepth 65536 in
theorem w_c5 : (Jvm.Cond.code ({ cls := "java/lang/StringLatin1", name := "charAt", desc := "([BI)C" } : Jvm.MethodName) jdk_43_method_2_code (2 : Nat) (Option.some Jvm.ClassFile.FieldType.char)).before args0 about1 = true := code_word (m := ⟨9, 1⟩) (meth := k9m1) (c := k9c1) (by decide +kernel) rfl rfl rfl (by decide +kernel)
set_option maxRecDepth 65536 in
theorem w_c6 : (Jvm.Cond.code ({ cls := "java/lang/String", name := "checkIndex", desc := "(II)V" } : Jvm.MethodName) jdk_42_method_155_code (2 : Nat) (Option.none : Option Jvm.ClassFile.FieldType)).before args0 about1 = true := code_word (m := ⟨8, 3⟩) (meth := k8m3) (c := k8c3) (by decide +kernel) rfl rfl rfl (by decide +kernel)
set_option maxRecDepth 65536 in
theorem w_c7 : (Jvm.Cond.code ({ cls := "jdk/internal/util/Preconditions", name := "checkIndex", desc := "(IILjava/util/function/BiFunction;)I" } : Jvm.MethodName) jdk_41_method_11_code (3 : Nat) (Option.some Jvm.ClassFile.FieldType.int)).before args0 about1 = true := code_word (m := ⟨10, 1⟩) (meth := k10m1) (c := k10c1) (by decide +kernel) rfl rfl rfl (by decide +kernel)
def codes1 : List Jvm.Cond := [Jvm.Cond.code x code maxLocals ret, Jvm.Cond.code ({ cls := "com/example/ascriber/ascriber/ascription/TextToAsciiLowerCasePinLaw", name := "ok", desc := "(I)Z" } : Jvm.MethodName) method_3_code (5 : Nat) (Option.some Jvm.ClassFile.FieldType.boolean), Jvm.Cond.code ({ cls := "com/example/ascriber/ascriber/ascription/Text", name := "toAsciiLowerCase", desc := "(I)I" } : Jvm.MethodName) prog_12_method_4_code (1 : Nat) (Option.some Jvm.ClassFile.FieldType.int), Jvm.Cond.code ({ cls := "java/lang/String", name := "charAt", desc := "(I)C" } : Jvm.MethodName) jdk_42_method_56_code (2 : Nat) (Option.some Jvm.ClassFile.FieldType.char), Jvm.Cond.code ({ cls := "java/lang/String", name := "isLatin1", desc := "()Z" } : Jvm.MethodName) jdk_42_method_154_code (1 : Nat) (Option.some Jvm.ClassFile.FieldType.boolean), Jvm.Cond.code ({ cls := "java/lang/StringLatin1", name := "charAt", desc := "([BI)C" } : Jvm.MethodName) jdk_43_method_2_code (2 : Nat) (Option.some Jvm.ClassFile.FieldType.char), Jvm.Cond.code ({ cls := "java/lang/String", name := "checkIndex", desc := "(II)V" } : Jvm.MethodName) jdk_42_method_155_code (2 : Nat) (Option.none : Option Jvm.ClassFile.FieldType), Jvm.Cond.code ({ cls := "jdk/internal/util/Preconditions", name := "checkIndex", desc := "(IILjava/util/function/BiFunction;)I" } : Jvm.MethodName) jdk_41_method_11_code (3 : Nat) (Option.some Jvm.ClassFile.FieldType.int)]
set_option maxRecDepth 65536 in
theorem codes_eq : words1.filter isCode = codes1 := rfl
theorem w_codes : ∀ c ∈ words1.filter isCode, c.before args0 about1 = true := by
  rw [codes_eq]
  intro c hc
  simp only [codes1, List.mem_cons, List.not_mem_nil, or_false] at hc
  rcases hc with rfl | rfl | rfl | rfl | rfl | rfl | rfl | rfl
  · exact w_c0
  · exact w_c1
  · exact w_c2
  · exact w_c3
  · exact w_c4
  · exact w_c5
  · exact w_c6
  · exact w_c7
set_option maxRecDepth 65536 in
theorem w_t1 : (words1.take 24).all (fun c => isCode c || c.before args0 about1) = true := by decide +kernel
set_option maxRecDepth 65536 in
theorem w_t2 : (words1.drop 24).all (fun c => isCode c || c.before args0 about1) = true := by decide +kernel
theorem w_tables : (allAtoms (Jvm.Cond.code x code maxLocals ret :: tables_1)).before args0 about1 = true := by
  rw [allAtoms_all]
  show words1.all (fun c => c.before args0 about1) = true
  refine all_split ?_ w_codes
  rw [← List.take_append_drop 24 words1, List.all_append, w_t1, w_t2]
  rfl
set_option maxRecDepth 65536 in
theorem w_rest : rest_1_c.before args0 about1 = true := by decide +kernel
set_option maxRecDepth 65536 in
theorem w_case : (Jvm.Cond.and given_1 narrow_1).before args0 about1 = true := by decide +kernel
set_option maxRecDepth 65536 in
theorem w_consts : constsHeld consts_1 about1 := Jvm.Lit.constsHeldB_iff.mp (by decide +kernel)
theorem w_applies : (headSpec (Jvm.Cond.code x code maxLocals ret :: tables_1) room_1).applies x e0.platform about1 = true :=
  (Spec.applies_iff w_frames).mpr ⟨w_running, w_runnable, w_alone, w_named, w_hears, w_ripe, w_room, w_tables⟩
theorem atStart : AtStart classFile x code maxLocals ret World_1 tables_1 room_1 Calls_1 rest_1 Pre_1 launch0 p0 e0 about1 theMethod args0 below0 :=
  ⟨lists_1, trivial, launch0.admits_env _ _ _, launch0.least_env, fairChoices_fair.cas, fairChoices_fair.clock, w_frames, w_args, w_heap, w_applies, ⟨w_consts, trivial⟩, w_rest, w_case⟩
end start1
theorem witness_1 : WitnessClaimed_1 := ⟨start1.p0, start1.e0, start1.about1, start1.theMethod, start1.args0, start1.below0, start1.atStart⟩
end Jvm.Pilot.@@N@@
