import JvmDerived
import JvmDerived.Pilot.@@N@@Statement
import JvmDerived.Pilot.@@N@@Code
set_option linter.unusedVariables false
set_option linter.unusedSimpArgs false
@@BLOCK:NumsL.lean.txt@@
namespace Jvm.Pilot.@@N@@
open Jvm Jvm.ClassFile Sem Op Lib Jvm.Free Jvm.Stand Jvm.LawKit Jvm.RoadKit Bundle Jvm.Pilot.@@N@@.Jvm.D
section OwnKit
variable {p : Program} {l : Launch} {e : Env} {R : Room} {s : State} {m : MethodId} {args : Array Value} {below : List Frame} {meth : Method} {c : Code} {T T' : State} {Z : State} {h : Heap} {n0 k n mx : Nat} {y : MethodName} {bytes : ByteArray} {ret : Option FieldType} {Q : Option Value → Heap → Prop} {pc : Nat} {Ls : Array Slot} {st rest : List Value} {a0 : Array Value} {g g' : JFrame} {EP : Outcome → State → List Loc → Prop} {n1 : Nat}
/-- where a body's walk stands: all that its steps ask, bundled -/
def OW (p : Program) (l : Launch) (e : Env) (R : Room) (s : State) (m : MethodId) (args : Array Value) (below : List Frame) (meth : Method) (c : Code) (Z : State) (y : MethodName) (bytes : ByteArray) (mx : Nat) (ret : Option FieldType) (n0 : Nat) (T : State) (h : Heap) (k n : Nat) : Prop :=
  p.tables.exec = Jvm.exec ∧ Z.Warmed39 s.vm ∧ s.vm.findClass y.cls = some m.cls ∧ c.code = bytes ∧ c.maxLocals = mx ∧ meth.sig.returnType = ret ∧ meth.name = y.name ∧ meth.locks = false ∧ n0 ≤ s.heap.size ∧ T.heap = h ∧ ∃ locs, Stand p l e R s m args below meth c T locs k n ∧ Fr n0 locs
/-- how a body must end: FE, the narrow end -/
def FE (s : State) (R : Room) : Outcome → State → List Loc → Prop := fun o t L => FrameEnd s o t L R.cells R.slots
/-- what a body owes from the frame g on: it returns, Q holds of what it returns and of the heap, and its end is EP's -/
def OE (p : Program) (e : Env) (EP : Outcome → State → List Loc → Prop) (below : List Frame) (n0 : Nat) (Q : Option Value → Heap → Prop) (T : State) (g : JFrame) : Prop :=
  ∃ t o, Steps p.tables e below (T.setTop g) t ∧ t.status = .running ∧ Ended t below o ∧ ∃ v L, o = .returned v ∧ (Q v t.heap ∧ Fr n0 L) ∧ EP o t L
theorem OE.by (hs : ∀ t, Steps p.tables e below (T'.setTop g') t → Steps p.tables e below (T.setTop g) t) (K : OE p e EP below n0 Q T' g') : OE p e EP below n0 Q T g := by
  obtain ⟨t, o, h1, r⟩ := K; exact ⟨t, o, hs t h1, r⟩
theorem OW.size (X : OW p l e R s m args below meth c Z y bytes mx ret n0 T h k n) : n0 ≤ h.size := by
  obtain ⟨-, -, -, -, -, -, -, -, h0, rfl, locs, S, -⟩ := X
  exact Nat.le_trans h0 S.same.2.1
theorem OW.more (X : OW p l e R s m args below meth c Z y bytes mx ret n0 T h k n) {k' n' : Nat} (hk : k ≤ k') (hn : n ≤ n') : OW p l e R s m args below meth c Z y bytes mx ret n0 T h k' n' := by
  obtain ⟨h1, h2, h3, h4, h5, h6, h7, h8, h9, h10, locs, S, N⟩ := X
  exact ⟨h1, h2, h3, h4, h5, h6, h7, h8, h9, h10, locs, S.more hk hn, N⟩
theorem o_iloadN (X : OW p l e R s m args below meth c Z y bytes mx ret n0 T h k n) {j : Fin 4} {v : Int32} (hd : decode bytes pc = .ok (.iload_n j, 1)) (hl : Ls[j.val]? = some (.val (.int v))) (pc' : Nat) (hp : pc + 1 = pc') (K : OE p e EP below n0 Q T (mkF m pc' Ls (.int v :: st))) : OE p e EP below n0 Q T (mkF m pc Ls st) := by
  obtain ⟨hx, hZ, hown, hby, hmx, hret, hnm, hlk, h0, hT, locs, S, N⟩ := X; subst hp
  exact OE.by (fun t q => XS.iloadN S.here hx rfl (hb hby hd) hl q) K
theorem o_iload (X : OW p l e R s m args below meth c Z y bytes mx ret n0 T h k n) {j : Nat} {v : Int32} (hd : decode bytes pc = .ok (.iload j, 2)) (hl : Ls[j]? = some (.val (.int v))) (pc' : Nat) (hp : pc + 2 = pc') (K : OE p e EP below n0 Q T (mkF m pc' Ls (.int v :: st))) : OE p e EP below n0 Q T (mkF m pc Ls st) := by
  obtain ⟨hx, hZ, hown, hby, hmx, hret, hnm, hlk, h0, hT, locs, S, N⟩ := X; subst hp
  exact OE.by (fun t q => XS.iload S.here hx rfl (hb hby hd) hl q) K
theorem o_aloadN (X : OW p l e R s m args below meth c Z y bytes mx ret n0 T h k n) {j : Fin 4} {v : Value} (hd : decode bytes pc = .ok (.aload_n j, 1)) (hl : Ls[j.val]? = some (.val v)) (hv : v.isRef = true) (pc' : Nat) (hp : pc + 1 = pc') (K : OE p e EP below n0 Q T (mkF m pc' Ls (v :: st))) : OE p e EP below n0 Q T (mkF m pc Ls st) := by
  obtain ⟨hx, hZ, hown, hby, hmx, hret, hnm, hlk, h0, hT, locs, S, N⟩ := X; subst hp
  exact OE.by (fun t q => XS.aloadN S.here hx rfl (hb hby hd) hl hv q) K
theorem o_aload (X : OW p l e R s m args below meth c Z y bytes mx ret n0 T h k n) {j : Nat} {v : Value} (hd : decode bytes pc = .ok (.aload j, 2)) (hl : Ls[j]? = some (.val v)) (hv : v.isRef = true) (pc' : Nat) (hp : pc + 2 = pc') (K : OE p e EP below n0 Q T (mkF m pc' Ls (v :: st))) : OE p e EP below n0 Q T (mkF m pc Ls st) := by
  obtain ⟨hx, hZ, hown, hby, hmx, hret, hnm, hlk, h0, hT, locs, S, N⟩ := X; subst hp
  exact OE.by (fun t q => XS.aload S.here hx rfl (hb hby hd) hl hv q) K
theorem o_lloadN (X : OW p l e R s m args below meth c Z y bytes mx ret n0 T h k n) {j : Fin 4} {v : Int64} (hd : decode bytes pc = .ok (.lload_n j, 1)) (hl : Ls[j.val]? = some (.val (.long v))) (pc' : Nat) (hp : pc + 1 = pc') (K : OE p e EP below n0 Q T (mkF m pc' Ls (.long v :: st))) : OE p e EP below n0 Q T (mkF m pc Ls st) := by
  obtain ⟨hx, hZ, hown, hby, hmx, hret, hnm, hlk, h0, hT, locs, S, N⟩ := X; subst hp
  exact OE.by (fun t q => XT.lloadN S.here hx rfl (hb hby hd) hl q) K
theorem o_lload (X : OW p l e R s m args below meth c Z y bytes mx ret n0 T h k n) {j : Nat} {v : Int64} (hd : decode bytes pc = .ok (.lload j, 2)) (hl : Ls[j]? = some (.val (.long v))) (pc' : Nat) (hp : pc + 2 = pc') (K : OE p e EP below n0 Q T (mkF m pc' Ls (.long v :: st))) : OE p e EP below n0 Q T (mkF m pc Ls st) := by
  obtain ⟨hx, hZ, hown, hby, hmx, hret, hnm, hlk, h0, hT, locs, S, N⟩ := X; subst hp
  exact OE.by (fun t q => XT.lload S.here hx rfl (hb hby hd) hl q) K
theorem o_iconst (X : OW p l e R s m args below meth c Z y bytes mx ret n0 T h k n) {i : Int} {v : Int32} (hd : decode bytes pc = .ok (.iconst i, 1)) (hv : Int32.ofInt i = v) (pc' : Nat) (hp : pc + 1 = pc') (K : OE p e EP below n0 Q T (mkF m pc' Ls (.int v :: st))) : OE p e EP below n0 Q T (mkF m pc Ls st) := by
  obtain ⟨hx, hZ, hown, hby, hmx, hret, hnm, hlk, h0, hT, locs, S, N⟩ := X; subst hp hv
  exact OE.by (fun t q => XS.iconst S.here hx rfl (hb hby hd) q) K
theorem o_bipush (X : OW p l e R s m args below meth c Z y bytes mx ret n0 T h k n) {i : Int} {v : Int32} (hd : decode bytes pc = .ok (.bipush i, 2)) (hv : (Int8.ofInt i).toInt32 = v) (pc' : Nat) (hp : pc + 2 = pc') (K : OE p e EP below n0 Q T (mkF m pc' Ls (.int v :: st))) : OE p e EP below n0 Q T (mkF m pc Ls st) := by
  obtain ⟨hx, hZ, hown, hby, hmx, hret, hnm, hlk, h0, hT, locs, S, N⟩ := X; subst hp hv
  exact OE.by (fun t q => XS.bipush S.here hx rfl (hb hby hd) q) K
theorem o_sipush (X : OW p l e R s m args below meth c Z y bytes mx ret n0 T h k n) {i : Int} {v : Int32} (hd : decode bytes pc = .ok (.sipush i, 3)) (hv : (Int16.ofInt i).toInt32 = v) (pc' : Nat) (hp : pc + 3 = pc') (K : OE p e EP below n0 Q T (mkF m pc' Ls (.int v :: st))) : OE p e EP below n0 Q T (mkF m pc Ls st) := by
  obtain ⟨hx, hZ, hown, hby, hmx, hret, hnm, hlk, h0, hT, locs, S, N⟩ := X; subst hp hv
  exact OE.by (fun t q => XS.sipush S.here hx rfl (hb hby hd) q) K
theorem o_lconst (X : OW p l e R s m args below meth c Z y bytes mx ret n0 T h k n) {i : Fin 2} {v : Int64} (hd : decode bytes pc = .ok (.lconst i, 1)) (hv : Int64.ofNat i = v) (pc' : Nat) (hp : pc + 1 = pc') (K : OE p e EP below n0 Q T (mkF m pc' Ls (.long v :: st))) : OE p e EP below n0 Q T (mkF m pc Ls st) := by
  obtain ⟨hx, hZ, hown, hby, hmx, hret, hnm, hlk, h0, hT, locs, S, N⟩ := X; subst hp hv
  exact OE.by (fun t q => XT.lconst S.here hx rfl (hb hby hd) q) K
theorem o_iadd (X : OW p l e R s m args below meth c Z y bytes mx ret n0 T h k n) {x z : Int32} (hd : decode bytes pc = .ok (.iadd, 1))  (pc' : Nat) (hp : pc + 1 = pc') (K : OE p e EP below n0 Q T (mkF m pc' Ls (.int (x + z) :: st))) : OE p e EP below n0 Q T (mkF m pc Ls (.int z :: .int x :: st)) := by
  obtain ⟨hx, hZ, hown, hby, hmx, hret, hnm, hlk, h0, hT, locs, S, N⟩ := X; subst hp
  exact OE.by (fun t q => XS.iadd S.here hx rfl (hb hby hd) rfl q) K
theorem o_isub (X : OW p l e R s m args below meth c Z y bytes mx ret n0 T h k n) {x z : Int32} (hd : decode bytes pc = .ok (.isub, 1))  (pc' : Nat) (hp : pc + 1 = pc') (K : OE p e EP below n0 Q T (mkF m pc' Ls (.int (x - z) :: st))) : OE p e EP below n0 Q T (mkF m pc Ls (.int z :: .int x :: st)) := by
  obtain ⟨hx, hZ, hown, hby, hmx, hret, hnm, hlk, h0, hT, locs, S, N⟩ := X; subst hp
  exact OE.by (fun t q => XS.isub S.here hx rfl (hb hby hd) rfl q) K
theorem o_imul (X : OW p l e R s m args below meth c Z y bytes mx ret n0 T h k n) {x z : Int32} (hd : decode bytes pc = .ok (.imul, 1))  (pc' : Nat) (hp : pc + 1 = pc') (K : OE p e EP below n0 Q T (mkF m pc' Ls (.int (x * z) :: st))) : OE p e EP below n0 Q T (mkF m pc Ls (.int z :: .int x :: st)) := by
  obtain ⟨hx, hZ, hown, hby, hmx, hret, hnm, hlk, h0, hT, locs, S, N⟩ := X; subst hp
  exact OE.by (fun t q => XS.imul S.here hx rfl (hb hby hd) rfl q) K
theorem o_iand (X : OW p l e R s m args below meth c Z y bytes mx ret n0 T h k n) {x z : Int32} (hd : decode bytes pc = .ok (.iand, 1))  (pc' : Nat) (hp : pc + 1 = pc') (K : OE p e EP below n0 Q T (mkF m pc' Ls (.int (x &&& z) :: st))) : OE p e EP below n0 Q T (mkF m pc Ls (.int z :: .int x :: st)) := by
  obtain ⟨hx, hZ, hown, hby, hmx, hret, hnm, hlk, h0, hT, locs, S, N⟩ := X; subst hp
  exact OE.by (fun t q => XS.iand S.here hx rfl (hb hby hd) rfl q) K
theorem o_ior (X : OW p l e R s m args below meth c Z y bytes mx ret n0 T h k n) {x z : Int32} (hd : decode bytes pc = .ok (.ior, 1))  (pc' : Nat) (hp : pc + 1 = pc') (K : OE p e EP below n0 Q T (mkF m pc' Ls (.int (x ||| z) :: st))) : OE p e EP below n0 Q T (mkF m pc Ls (.int z :: .int x :: st)) := by
  obtain ⟨hx, hZ, hown, hby, hmx, hret, hnm, hlk, h0, hT, locs, S, N⟩ := X; subst hp
  exact OE.by (fun t q => XT.ior S.here hx rfl (hb hby hd) rfl q) K
theorem o_ixor (X : OW p l e R s m args below meth c Z y bytes mx ret n0 T h k n) {x z : Int32} (hd : decode bytes pc = .ok (.ixor, 1))  (pc' : Nat) (hp : pc + 1 = pc') (K : OE p e EP below n0 Q T (mkF m pc' Ls (.int (x ^^^ z) :: st))) : OE p e EP below n0 Q T (mkF m pc Ls (.int z :: .int x :: st)) := by
  obtain ⟨hx, hZ, hown, hby, hmx, hret, hnm, hlk, h0, hT, locs, S, N⟩ := X; subst hp
  exact OE.by (fun t q => XT.ixor S.here hx rfl (hb hby hd) rfl q) K
theorem o_ishl (X : OW p l e R s m args below meth c Z y bytes mx ret n0 T h k n) {x z : Int32} (hd : decode bytes pc = .ok (.ishl, 1))  (pc' : Nat) (hp : pc + 1 = pc') (K : OE p e EP below n0 Q T (mkF m pc' Ls (.int (x <<< (z &&& 31)) :: st))) : OE p e EP below n0 Q T (mkF m pc Ls (.int z :: .int x :: st)) := by
  obtain ⟨hx, hZ, hown, hby, hmx, hret, hnm, hlk, h0, hT, locs, S, N⟩ := X; subst hp
  exact OE.by (fun t q => XT.ishl S.here hx rfl (hb hby hd) rfl q) K
theorem o_ishr (X : OW p l e R s m args below meth c Z y bytes mx ret n0 T h k n) {x z : Int32} (hd : decode bytes pc = .ok (.ishr, 1))  (pc' : Nat) (hp : pc + 1 = pc') (K : OE p e EP below n0 Q T (mkF m pc' Ls (.int (x >>> (z &&& 31)) :: st))) : OE p e EP below n0 Q T (mkF m pc Ls (.int z :: .int x :: st)) := by
  obtain ⟨hx, hZ, hown, hby, hmx, hret, hnm, hlk, h0, hT, locs, S, N⟩ := X; subst hp
  exact OE.by (fun t q => XT.ishr S.here hx rfl (hb hby hd) rfl q) K
theorem o_iushr (X : OW p l e R s m args below meth c Z y bytes mx ret n0 T h k n) {x z : Int32} (hd : decode bytes pc = .ok (.iushr, 1))  (pc' : Nat) (hp : pc + 1 = pc') (K : OE p e EP below n0 Q T (mkF m pc' Ls (.int (XT.ushr x z) :: st))) : OE p e EP below n0 Q T (mkF m pc Ls (.int z :: .int x :: st)) := by
  obtain ⟨hx, hZ, hown, hby, hmx, hret, hnm, hlk, h0, hT, locs, S, N⟩ := X; subst hp
  exact OE.by (fun t q => XT.iushr S.here hx rfl (hb hby hd) rfl q) K
theorem o_idiv (X : OW p l e R s m args below meth c Z y bytes mx ret n0 T h k n) {x z : Int32} (hd : decode bytes pc = .ok (.idiv, 1)) (hz : z ≠ 0) (pc' : Nat) (hp : pc + 1 = pc') (K : OE p e EP below n0 Q T (mkF m pc' Ls (.int (x / z) :: st))) : OE p e EP below n0 Q T (mkF m pc Ls (.int z :: .int x :: st)) := by
  obtain ⟨hx, hZ, hown, hby, hmx, hret, hnm, hlk, h0, hT, locs, S, N⟩ := X; subst hp
  exact OE.by (fun t q => XS.idiv S.here hx rfl (hb hby hd) rfl hz q) K
theorem o_irem (X : OW p l e R s m args below meth c Z y bytes mx ret n0 T h k n) {x z : Int32} (hd : decode bytes pc = .ok (.irem, 1)) (hz : z ≠ 0) (pc' : Nat) (hp : pc + 1 = pc') (K : OE p e EP below n0 Q T (mkF m pc' Ls (.int (x % z) :: st))) : OE p e EP below n0 Q T (mkF m pc Ls (.int z :: .int x :: st)) := by
  obtain ⟨hx, hZ, hown, hby, hmx, hret, hnm, hlk, h0, hT, locs, S, N⟩ := X; subst hp
  exact OE.by (fun t q => iremM S hx rfl (hb hby hd) rfl hz q) K
theorem o_ladd (X : OW p l e R s m args below meth c Z y bytes mx ret n0 T h k n) {x z : Int64} (hd : decode bytes pc = .ok (.ladd, 1))  (pc' : Nat) (hp : pc + 1 = pc') (K : OE p e EP below n0 Q T (mkF m pc' Ls (.long (x + z) :: st))) : OE p e EP below n0 Q T (mkF m pc Ls (.long z :: .long x :: st)) := by
  obtain ⟨hx, hZ, hown, hby, hmx, hret, hnm, hlk, h0, hT, locs, S, N⟩ := X; subst hp
  exact OE.by (fun t q => XT.ladd S.here hx rfl (hb hby hd) rfl q) K
theorem o_lsub (X : OW p l e R s m args below meth c Z y bytes mx ret n0 T h k n) {x z : Int64} (hd : decode bytes pc = .ok (.lsub, 1))  (pc' : Nat) (hp : pc + 1 = pc') (K : OE p e EP below n0 Q T (mkF m pc' Ls (.long (x - z) :: st))) : OE p e EP below n0 Q T (mkF m pc Ls (.long z :: .long x :: st)) := by
  obtain ⟨hx, hZ, hown, hby, hmx, hret, hnm, hlk, h0, hT, locs, S, N⟩ := X; subst hp
  exact OE.by (fun t q => XT.lsub S.here hx rfl (hb hby hd) rfl q) K
theorem o_lor (X : OW p l e R s m args below meth c Z y bytes mx ret n0 T h k n) {x z : Int64} (hd : decode bytes pc = .ok (.lor, 1))  (pc' : Nat) (hp : pc + 1 = pc') (K : OE p e EP below n0 Q T (mkF m pc' Ls (.long (x ||| z) :: st))) : OE p e EP below n0 Q T (mkF m pc Ls (.long z :: .long x :: st)) := by
  obtain ⟨hx, hZ, hown, hby, hmx, hret, hnm, hlk, h0, hT, locs, S, N⟩ := X; subst hp
  exact OE.by (fun t q => XT.lor S.here hx rfl (hb hby hd) rfl q) K
theorem o_land (X : OW p l e R s m args below meth c Z y bytes mx ret n0 T h k n) {x z : Int64} (hd : decode bytes pc = .ok (.land, 1))  (pc' : Nat) (hp : pc + 1 = pc') (K : OE p e EP below n0 Q T (mkF m pc' Ls (.long (x &&& z) :: st))) : OE p e EP below n0 Q T (mkF m pc Ls (.long z :: .long x :: st)) := by
  obtain ⟨hx, hZ, hown, hby, hmx, hret, hnm, hlk, h0, hT, locs, S, N⟩ := X; subst hp
  exact OE.by (fun t q => XT.land S.here hx rfl (hb hby hd) rfl q) K
theorem o_lmul (X : OW p l e R s m args below meth c Z y bytes mx ret n0 T h k n) {x z : Int64} (hd : decode bytes pc = .ok (.lmul, 1))  (pc' : Nat) (hp : pc + 1 = pc') (K : OE p e EP below n0 Q T (mkF m pc' Ls (.long (x * z) :: st))) : OE p e EP below n0 Q T (mkF m pc Ls (.long z :: .long x :: st)) := by
  obtain ⟨hx, hZ, hown, hby, hmx, hret, hnm, hlk, h0, hT, locs, S, N⟩ := X; subst hp
  exact OE.by (fun t q => XT.lmul S.here hx rfl (hb hby hd) rfl q) K
theorem o_lshl (X : OW p l e R s m args below meth c Z y bytes mx ret n0 T h k n) {x : Int64} {z : Int32} (hd : decode bytes pc = .ok (.lshl, 1))  (pc' : Nat) (hp : pc + 1 = pc') (K : OE p e EP below n0 Q T (mkF m pc' Ls (.long (x <<< (z.toInt64 &&& 63)) :: st))) : OE p e EP below n0 Q T (mkF m pc Ls (.int z :: .long x :: st)) := by
  obtain ⟨hx, hZ, hown, hby, hmx, hret, hnm, hlk, h0, hT, locs, S, N⟩ := X; subst hp
  exact OE.by (fun t q => XT.lshl S.here hx rfl (hb hby hd) rfl q) K
theorem o_lushr (X : OW p l e R s m args below meth c Z y bytes mx ret n0 T h k n) {x : Int64} {z : Int32} (hd : decode bytes pc = .ok (.lushr, 1))  (pc' : Nat) (hp : pc + 1 = pc') (K : OE p e EP below n0 Q T (mkF m pc' Ls (.long (XT.ushrL x z) :: st))) : OE p e EP below n0 Q T (mkF m pc Ls (.int z :: .long x :: st)) := by
  obtain ⟨hx, hZ, hown, hby, hmx, hret, hnm, hlk, h0, hT, locs, S, N⟩ := X; subst hp
  exact OE.by (fun t q => XT.lushr S.here hx rfl (hb hby hd) rfl q) K
theorem o_lcmp (X : OW p l e R s m args below meth c Z y bytes mx ret n0 T h k n) {x z : Int64} (hd : decode bytes pc = .ok (.lcmp, 1))  (pc' : Nat) (hp : pc + 1 = pc') (K : OE p e EP below n0 Q T (mkF m pc' Ls (.int (XT.cmpL x z) :: st))) : OE p e EP below n0 Q T (mkF m pc Ls (.long z :: .long x :: st)) := by
  obtain ⟨hx, hZ, hown, hby, hmx, hret, hnm, hlk, h0, hT, locs, S, N⟩ := X; subst hp
  exact OE.by (fun t q => XT.lcmp S.here hx rfl (hb hby hd) rfl q) K
theorem o_i2l (X : OW p l e R s m args below meth c Z y bytes mx ret n0 T h k n) {x : Int32} (hd : decode bytes pc = .ok (.i2l, 1))  (pc' : Nat) (hp : pc + 1 = pc') (K : OE p e EP below n0 Q T (mkF m pc' Ls (.long x.toInt64 :: st))) : OE p e EP below n0 Q T (mkF m pc Ls (.int x :: st)) := by
  obtain ⟨hx, hZ, hown, hby, hmx, hret, hnm, hlk, h0, hT, locs, S, N⟩ := X; subst hp
  exact OE.by (fun t q => XT.i2l S.here hx rfl (hb hby hd) rfl q) K
theorem o_l2i (X : OW p l e R s m args below meth c Z y bytes mx ret n0 T h k n) {x : Int64} (hd : decode bytes pc = .ok (.l2i, 1))  (pc' : Nat) (hp : pc + 1 = pc') (K : OE p e EP below n0 Q T (mkF m pc' Ls (.int x.toInt32 :: st))) : OE p e EP below n0 Q T (mkF m pc Ls (.long x :: st)) := by
  obtain ⟨hx, hZ, hown, hby, hmx, hret, hnm, hlk, h0, hT, locs, S, N⟩ := X; subst hp
  exact OE.by (fun t q => XT.l2i S.here hx rfl (hb hby hd) rfl q) K
theorem o_i2b (X : OW p l e R s m args below meth c Z y bytes mx ret n0 T h k n) {x : Int32} (hd : decode bytes pc = .ok (.i2b, 1))  (pc' : Nat) (hp : pc + 1 = pc') (K : OE p e EP below n0 Q T (mkF m pc' Ls (.int x.toInt8.toInt32 :: st))) : OE p e EP below n0 Q T (mkF m pc Ls (.int x :: st)) := by
  obtain ⟨hx, hZ, hown, hby, hmx, hret, hnm, hlk, h0, hT, locs, S, N⟩ := X; subst hp
  exact OE.by (fun t q => XT.i2b S.here hx rfl (hb hby hd) rfl q) K
theorem o_i2c (X : OW p l e R s m args below meth c Z y bytes mx ret n0 T h k n) {x : Int32} (hd : decode bytes pc = .ok (.i2c, 1))  (pc' : Nat) (hp : pc + 1 = pc') (K : OE p e EP below n0 Q T (mkF m pc' Ls (.int x.toUInt32.toUInt16.toUInt32.toInt32 :: st))) : OE p e EP below n0 Q T (mkF m pc Ls (.int x :: st)) := by
  obtain ⟨hx, hZ, hown, hby, hmx, hret, hnm, hlk, h0, hT, locs, S, N⟩ := X; subst hp
  exact OE.by (fun t q => XT.i2c S.here hx rfl (hb hby hd) rfl q) K
theorem o_dup (X : OW p l e R s m args below meth c Z y bytes mx ret n0 T h k n) {v : Value} (hd : decode bytes pc = .ok (.dup, 1)) (hc : v.category = 1) (pc' : Nat) (hp : pc + 1 = pc') (K : OE p e EP below n0 Q T (mkF m pc' Ls (v :: v :: st))) : OE p e EP below n0 Q T (mkF m pc Ls (v :: st)) := by
  obtain ⟨hx, hZ, hown, hby, hmx, hret, hnm, hlk, h0, hT, locs, S, N⟩ := X; subst hp
  exact OE.by (fun t q => XS.dup S.here hx rfl (hb hby hd) rfl hc q) K
theorem o_pop (X : OW p l e R s m args below meth c Z y bytes mx ret n0 T h k n) {v : Value} (hd : decode bytes pc = .ok (.pop, 1)) (hc : v.category = 1) (pc' : Nat) (hp : pc + 1 = pc') (K : OE p e EP below n0 Q T (mkF m pc' Ls st)) : OE p e EP below n0 Q T (mkF m pc Ls (v :: st)) := by
  obtain ⟨hx, hZ, hown, hby, hmx, hret, hnm, hlk, h0, hT, locs, S, N⟩ := X; subst hp
  exact OE.by (fun t q => XT.pop S.here hx rfl (hb hby hd) rfl hc q) K
theorem o_dupX1 (X : OW p l e R s m args below meth c Z y bytes mx ret n0 T h k n) {v w : Value} (hd : decode bytes pc = .ok (.dup_x1, 1)) (hc : v.category = 1) (hc' : w.category = 1) (pc' : Nat) (hp : pc + 1 = pc') (K : OE p e EP below n0 Q T (mkF m pc' Ls (v :: w :: v :: st))) : OE p e EP below n0 Q T (mkF m pc Ls (v :: w :: st)) := by
  obtain ⟨hx, hZ, hown, hby, hmx, hret, hnm, hlk, h0, hT, locs, S, N⟩ := X; subst hp
  exact OE.by (fun t q => XT.dupX1 S.here hx rfl (hb hby hd) rfl hc hc' q) K
theorem o_dup2 (X : OW p l e R s m args below meth c Z y bytes mx ret n0 T h k n) {v w : Value} (hd : decode bytes pc = .ok (.dup2, 1)) (hc : v.category = 1) (hc' : w.category = 1) (pc' : Nat) (hp : pc + 1 = pc') (K : OE p e EP below n0 Q T (mkF m pc' Ls (v :: w :: v :: w :: st))) : OE p e EP below n0 Q T (mkF m pc Ls (v :: w :: st)) := by
  obtain ⟨hx, hZ, hown, hby, hmx, hret, hnm, hlk, h0, hT, locs, S, N⟩ := X; subst hp
  exact OE.by (fun t q => XT.dup2 S.here hx rfl (hb hby hd) rfl hc hc' q) K
theorem o_istoreN (X : OW p l e R s m args below meth c Z y bytes mx ret n0 T h k n) {j : Fin 4} {v : Int32} (hd : decode bytes pc = .ok (.istore_n j, 1)) (Ls' : Array Slot) (hl : storeLocals Ls j.val (.int v) = some Ls') (pc' : Nat) (hp : pc + 1 = pc') (K : OE p e EP below n0 Q T (mkF m pc' Ls' st)) : OE p e EP below n0 Q T (mkF m pc Ls (.int v :: st)) := by
  obtain ⟨hx, hZ, hown, hby, hmx, hret, hnm, hlk, h0, hT, locs, S, N⟩ := X; subst hp
  exact OE.by (fun t q => XS.istoreN S.here hx rfl (hb hby hd) rfl hl q) K
theorem o_istore (X : OW p l e R s m args below meth c Z y bytes mx ret n0 T h k n) {j : Nat} {v : Int32} (hd : decode bytes pc = .ok (.istore j, 2)) (Ls' : Array Slot) (hl : storeLocals Ls j (.int v) = some Ls') (pc' : Nat) (hp : pc + 2 = pc') (K : OE p e EP below n0 Q T (mkF m pc' Ls' st)) : OE p e EP below n0 Q T (mkF m pc Ls (.int v :: st)) := by
  obtain ⟨hx, hZ, hown, hby, hmx, hret, hnm, hlk, h0, hT, locs, S, N⟩ := X; subst hp
  exact OE.by (fun t q => XS.istore S.here hx rfl (hb hby hd) rfl hl q) K
theorem o_lstoreN (X : OW p l e R s m args below meth c Z y bytes mx ret n0 T h k n) {j : Fin 4} {v : Int64} (hd : decode bytes pc = .ok (.lstore_n j, 1)) (Ls' : Array Slot) (hl : storeLocals Ls j.val (.long v) = some Ls') (pc' : Nat) (hp : pc + 1 = pc') (K : OE p e EP below n0 Q T (mkF m pc' Ls' st)) : OE p e EP below n0 Q T (mkF m pc Ls (.long v :: st)) := by
  obtain ⟨hx, hZ, hown, hby, hmx, hret, hnm, hlk, h0, hT, locs, S, N⟩ := X; subst hp
  exact OE.by (fun t q => XT.lstoreN S.here hx rfl (hb hby hd) rfl hl q) K
theorem o_lstore (X : OW p l e R s m args below meth c Z y bytes mx ret n0 T h k n) {j : Nat} {v : Int64} (hd : decode bytes pc = .ok (.lstore j, 2)) (Ls' : Array Slot) (hl : storeLocals Ls j (.long v) = some Ls') (pc' : Nat) (hp : pc + 2 = pc') (K : OE p e EP below n0 Q T (mkF m pc' Ls' st)) : OE p e EP below n0 Q T (mkF m pc Ls (.long v :: st)) := by
  obtain ⟨hx, hZ, hown, hby, hmx, hret, hnm, hlk, h0, hT, locs, S, N⟩ := X; subst hp
  exact OE.by (fun t q => XT.lstore S.here hx rfl (hb hby hd) rfl hl q) K
theorem o_astoreN (X : OW p l e R s m args below meth c Z y bytes mx ret n0 T h k n) {j : Fin 4} {v : Value} (hd : decode bytes pc = .ok (.astore_n j, 1)) (hv : v.isRef = true) (Ls' : Array Slot) (hl : storeLocals Ls j.val v = some Ls') (pc' : Nat) (hp : pc + 1 = pc') (K : OE p e EP below n0 Q T (mkF m pc' Ls' st)) : OE p e EP below n0 Q T (mkF m pc Ls (v :: st)) := by
  obtain ⟨hx, hZ, hown, hby, hmx, hret, hnm, hlk, h0, hT, locs, S, N⟩ := X; subst hp
  exact OE.by (fun t q => XS.astoreN S.here hx rfl (hb hby hd) rfl hv hl q) K
theorem o_astore (X : OW p l e R s m args below meth c Z y bytes mx ret n0 T h k n) {j : Nat} {v : Value} (hd : decode bytes pc = .ok (.astore j, 2)) (hv : v.isRef = true) (Ls' : Array Slot) (hl : storeLocals Ls j v = some Ls') (pc' : Nat) (hp : pc + 2 = pc') (K : OE p e EP below n0 Q T (mkF m pc' Ls' st)) : OE p e EP below n0 Q T (mkF m pc Ls (v :: st)) := by
  obtain ⟨hx, hZ, hown, hby, hmx, hret, hnm, hlk, h0, hT, locs, S, N⟩ := X; subst hp
  exact OE.by (fun t q => XS.astore S.here hx rfl (hb hby hd) rfl hv hl q) K
theorem o_iinc (X : OW p l e R s m args below meth c Z y bytes mx ret n0 T h k n) {j : Nat} {i : Int} {v w : Int32} (hd : decode bytes pc = .ok (.iinc j i, 3)) (hg : Ls[j]? = some (.val (.int v))) (hw : v + Int32.ofInt i = w) (Ls' : Array Slot) (hl : storeLocals Ls j (.int w) = some Ls') (pc' : Nat) (hp : pc + 3 = pc') (K : OE p e EP below n0 Q T (mkF m pc' Ls' st)) : OE p e EP below n0 Q T (mkF m pc Ls st) := by
  obtain ⟨hx, hZ, hown, hby, hmx, hret, hnm, hlk, h0, hT, locs, S, N⟩ := X; subst hp hw
  exact OE.by (fun t q => XS.iinc S.here hx rfl (hb hby hd) hg hl q) K
theorem o_goto (X : OW p l e R s m args below meth c Z y bytes mx ret n0 T h k n) {o : Int} (hd : decode bytes pc = .ok (.goto o, 3)) (pc' : Nat) (ho : 0 ≤ (pc : Int) + o) (hp : ((pc : Int) + o).toNat = pc') (K : OE p e EP below n0 Q T (mkF m pc' Ls st)) : OE p e EP below n0 Q T (mkF m pc Ls st) := by
  obtain ⟨hx, hZ, hown, hby, hmx, hret, hnm, hlk, h0, hT, locs, S, N⟩ := X
  exact OE.by (fun t q => XS.goto S.here hx rfl rfl (hb hby hd) ho hp q) K
theorem o_icmpEq (X : OW p l e R s m args below meth c Z y bytes mx ret n0 T h k n) {o : Int} {x z : Int32} (hd : decode bytes pc = .ok (.if_icmp .eq o, 3)) (pcT pcF : Nat) (ho : 0 ≤ (pc : Int) + o) (hT : ((pc : Int) + o).toNat = pcT) (hF : pc + 3 = pcF) (KT : x = z → OE p e EP below n0 Q T (mkF m pcT Ls st)) (KF : ¬ x = z → OE p e EP below n0 Q T (mkF m pcF Ls st)) : OE p e EP below n0 Q T (mkF m pc Ls (.int z :: .int x :: st)) := by
  obtain ⟨hx, hZ, hown, hby, hmx, hret, hnm, hlk, h0, hT', locs, S, N⟩ := X; subst hF
  by_cases q : x = z
  · exact OE.by (fun t r => XS.icmpYes S.here hx rfl rfl (hb hby hd) rfl ((teq q).1) ho hT r) (KT q)
  · exact OE.by (fun t r => XS.icmpNo S.here hx rfl (hb hby hd) rfl ((feq q).1) r) (KF q)
theorem o_ifEq (X : OW p l e R s m args below meth c Z y bytes mx ret n0 T h k n) {o : Int} {x : Int32} (hd : decode bytes pc = .ok (.ifCond .eq o, 3)) (pcT pcF : Nat) (ho : 0 ≤ (pc : Int) + o) (hT : ((pc : Int) + o).toNat = pcT) (hF : pc + 3 = pcF) (KT : x = 0 → OE p e EP below n0 Q T (mkF m pcT Ls st)) (KF : ¬ x = 0 → OE p e EP below n0 Q T (mkF m pcF Ls st)) : OE p e EP below n0 Q T (mkF m pc Ls (.int x :: st)) := by
  obtain ⟨hx, hZ, hown, hby, hmx, hret, hnm, hlk, h0, hT', locs, S, N⟩ := X; subst hF
  by_cases q : x = 0
  · exact OE.by (fun t r => XS.ifYes S.here hx rfl rfl (hb hby hd) rfl ((if0 _ _).trans (teq q).1) ho hT r) (KT q)
  · exact OE.by (fun t r => XS.ifNo S.here hx rfl (hb hby hd) rfl ((if0 _ _).trans (feq q).1) r) (KF q)
theorem o_icmpNe (X : OW p l e R s m args below meth c Z y bytes mx ret n0 T h k n) {o : Int} {x z : Int32} (hd : decode bytes pc = .ok (.if_icmp .ne o, 3)) (pcT pcF : Nat) (ho : 0 ≤ (pc : Int) + o) (hT : ((pc : Int) + o).toNat = pcT) (hF : pc + 3 = pcF) (KT : ¬ x = z → OE p e EP below n0 Q T (mkF m pcT Ls st)) (KF : x = z → OE p e EP below n0 Q T (mkF m pcF Ls st)) : OE p e EP below n0 Q T (mkF m pc Ls (.int z :: .int x :: st)) := by
  obtain ⟨hx, hZ, hown, hby, hmx, hret, hnm, hlk, h0, hT', locs, S, N⟩ := X; subst hF
  by_cases q : x = z
  · exact OE.by (fun t r => XS.icmpNo S.here hx rfl (hb hby hd) rfl ((teq q).2) r) (KF q)
  · exact OE.by (fun t r => XS.icmpYes S.here hx rfl rfl (hb hby hd) rfl ((feq q).2) ho hT r) (KT q)
theorem o_ifNe (X : OW p l e R s m args below meth c Z y bytes mx ret n0 T h k n) {o : Int} {x : Int32} (hd : decode bytes pc = .ok (.ifCond .ne o, 3)) (pcT pcF : Nat) (ho : 0 ≤ (pc : Int) + o) (hT : ((pc : Int) + o).toNat = pcT) (hF : pc + 3 = pcF) (KT : ¬ x = 0 → OE p e EP below n0 Q T (mkF m pcT Ls st)) (KF : x = 0 → OE p e EP below n0 Q T (mkF m pcF Ls st)) : OE p e EP below n0 Q T (mkF m pc Ls (.int x :: st)) := by
  obtain ⟨hx, hZ, hown, hby, hmx, hret, hnm, hlk, h0, hT', locs, S, N⟩ := X; subst hF
  by_cases q : x = 0
  · exact OE.by (fun t r => XS.ifNo S.here hx rfl (hb hby hd) rfl ((if0 _ _).trans (teq q).2) r) (KF q)
  · exact OE.by (fun t r => XS.ifYes S.here hx rfl rfl (hb hby hd) rfl ((if0 _ _).trans (feq q).2) ho hT r) (KT q)
theorem o_icmpLt (X : OW p l e R s m args below meth c Z y bytes mx ret n0 T h k n) {o : Int} {x z : Int32} (hd : decode bytes pc = .ok (.if_icmp .lt o, 3)) (pcT pcF : Nat) (ho : 0 ≤ (pc : Int) + o) (hT : ((pc : Int) + o).toNat = pcT) (hF : pc + 3 = pcF) (KT : x < z → OE p e EP below n0 Q T (mkF m pcT Ls st)) (KF : ¬ x < z → OE p e EP below n0 Q T (mkF m pcF Ls st)) : OE p e EP below n0 Q T (mkF m pc Ls (.int z :: .int x :: st)) := by
  obtain ⟨hx, hZ, hown, hby, hmx, hret, hnm, hlk, h0, hT', locs, S, N⟩ := X; subst hF
  by_cases q : x < z
  · exact OE.by (fun t r => XS.icmpYes S.here hx rfl rfl (hb hby hd) rfl ((tlt q).1) ho hT r) (KT q)
  · exact OE.by (fun t r => XS.icmpNo S.here hx rfl (hb hby hd) rfl ((flt q).1) r) (KF q)
theorem o_ifLt (X : OW p l e R s m args below meth c Z y bytes mx ret n0 T h k n) {o : Int} {x : Int32} (hd : decode bytes pc = .ok (.ifCond .lt o, 3)) (pcT pcF : Nat) (ho : 0 ≤ (pc : Int) + o) (hT : ((pc : Int) + o).toNat = pcT) (hF : pc + 3 = pcF) (KT : x < 0 → OE p e EP below n0 Q T (mkF m pcT Ls st)) (KF : ¬ x < 0 → OE p e EP below n0 Q T (mkF m pcF Ls st)) : OE p e EP below n0 Q T (mkF m pc Ls (.int x :: st)) := by
  obtain ⟨hx, hZ, hown, hby, hmx, hret, hnm, hlk, h0, hT', locs, S, N⟩ := X; subst hF
  by_cases q : x < 0
  · exact OE.by (fun t r => XS.ifYes S.here hx rfl rfl (hb hby hd) rfl ((if0 _ _).trans (tlt q).1) ho hT r) (KT q)
  · exact OE.by (fun t r => XS.ifNo S.here hx rfl (hb hby hd) rfl ((if0 _ _).trans (flt q).1) r) (KF q)
theorem o_icmpGe (X : OW p l e R s m args below meth c Z y bytes mx ret n0 T h k n) {o : Int} {x z : Int32} (hd : decode bytes pc = .ok (.if_icmp .ge o, 3)) (pcT pcF : Nat) (ho : 0 ≤ (pc : Int) + o) (hT : ((pc : Int) + o).toNat = pcT) (hF : pc + 3 = pcF) (KT : ¬ x < z → OE p e EP below n0 Q T (mkF m pcT Ls st)) (KF : x < z → OE p e EP below n0 Q T (mkF m pcF Ls st)) : OE p e EP below n0 Q T (mkF m pc Ls (.int z :: .int x :: st)) := by
  obtain ⟨hx, hZ, hown, hby, hmx, hret, hnm, hlk, h0, hT', locs, S, N⟩ := X; subst hF
  by_cases q : x < z
  · exact OE.by (fun t r => XS.icmpNo S.here hx rfl (hb hby hd) rfl ((tlt q).2.1) r) (KF q)
  · exact OE.by (fun t r => XS.icmpYes S.here hx rfl rfl (hb hby hd) rfl ((flt q).2.1) ho hT r) (KT q)
theorem o_ifGe (X : OW p l e R s m args below meth c Z y bytes mx ret n0 T h k n) {o : Int} {x : Int32} (hd : decode bytes pc = .ok (.ifCond .ge o, 3)) (pcT pcF : Nat) (ho : 0 ≤ (pc : Int) + o) (hT : ((pc : Int) + o).toNat = pcT) (hF : pc + 3 = pcF) (KT : ¬ x < 0 → OE p e EP below n0 Q T (mkF m pcT Ls st)) (KF : x < 0 → OE p e EP below n0 Q T (mkF m pcF Ls st)) : OE p e EP below n0 Q T (mkF m pc Ls (.int x :: st)) := by
  obtain ⟨hx, hZ, hown, hby, hmx, hret, hnm, hlk, h0, hT', locs, S, N⟩ := X; subst hF
  by_cases q : x < 0
  · exact OE.by (fun t r => XS.ifNo S.here hx rfl (hb hby hd) rfl ((if0 _ _).trans (tlt q).2.1) r) (KF q)
  · exact OE.by (fun t r => XS.ifYes S.here hx rfl rfl (hb hby hd) rfl ((if0 _ _).trans (flt q).2.1) ho hT r) (KT q)
theorem o_icmpGt (X : OW p l e R s m args below meth c Z y bytes mx ret n0 T h k n) {o : Int} {x z : Int32} (hd : decode bytes pc = .ok (.if_icmp .gt o, 3)) (pcT pcF : Nat) (ho : 0 ≤ (pc : Int) + o) (hT : ((pc : Int) + o).toNat = pcT) (hF : pc + 3 = pcF) (KT : z < x → OE p e EP below n0 Q T (mkF m pcT Ls st)) (KF : ¬ z < x → OE p e EP below n0 Q T (mkF m pcF Ls st)) : OE p e EP below n0 Q T (mkF m pc Ls (.int z :: .int x :: st)) := by
  obtain ⟨hx, hZ, hown, hby, hmx, hret, hnm, hlk, h0, hT', locs, S, N⟩ := X; subst hF
  by_cases q : z < x
  · exact OE.by (fun t r => XS.icmpYes S.here hx rfl rfl (hb hby hd) rfl ((tlt q).2.2.1) ho hT r) (KT q)
  · exact OE.by (fun t r => XS.icmpNo S.here hx rfl (hb hby hd) rfl ((flt q).2.2.1) r) (KF q)
theorem o_ifGt (X : OW p l e R s m args below meth c Z y bytes mx ret n0 T h k n) {o : Int} {x : Int32} (hd : decode bytes pc = .ok (.ifCond .gt o, 3)) (pcT pcF : Nat) (ho : 0 ≤ (pc : Int) + o) (hT : ((pc : Int) + o).toNat = pcT) (hF : pc + 3 = pcF) (KT : 0 < x → OE p e EP below n0 Q T (mkF m pcT Ls st)) (KF : ¬ 0 < x → OE p e EP below n0 Q T (mkF m pcF Ls st)) : OE p e EP below n0 Q T (mkF m pc Ls (.int x :: st)) := by
  obtain ⟨hx, hZ, hown, hby, hmx, hret, hnm, hlk, h0, hT', locs, S, N⟩ := X; subst hF
  by_cases q : 0 < x
  · exact OE.by (fun t r => XS.ifYes S.here hx rfl rfl (hb hby hd) rfl ((if0 _ _).trans (tlt q).2.2.1) ho hT r) (KT q)
  · exact OE.by (fun t r => XS.ifNo S.here hx rfl (hb hby hd) rfl ((if0 _ _).trans (flt q).2.2.1) r) (KF q)
theorem o_icmpLe (X : OW p l e R s m args below meth c Z y bytes mx ret n0 T h k n) {o : Int} {x z : Int32} (hd : decode bytes pc = .ok (.if_icmp .le o, 3)) (pcT pcF : Nat) (ho : 0 ≤ (pc : Int) + o) (hT : ((pc : Int) + o).toNat = pcT) (hF : pc + 3 = pcF) (KT : ¬ z < x → OE p e EP below n0 Q T (mkF m pcT Ls st)) (KF : z < x → OE p e EP below n0 Q T (mkF m pcF Ls st)) : OE p e EP below n0 Q T (mkF m pc Ls (.int z :: .int x :: st)) := by
  obtain ⟨hx, hZ, hown, hby, hmx, hret, hnm, hlk, h0, hT', locs, S, N⟩ := X; subst hF
  by_cases q : z < x
  · exact OE.by (fun t r => XS.icmpNo S.here hx rfl (hb hby hd) rfl ((tlt q).2.2.2) r) (KF q)
  · exact OE.by (fun t r => XS.icmpYes S.here hx rfl rfl (hb hby hd) rfl ((flt q).2.2.2) ho hT r) (KT q)
theorem o_ifLe (X : OW p l e R s m args below meth c Z y bytes mx ret n0 T h k n) {o : Int} {x : Int32} (hd : decode bytes pc = .ok (.ifCond .le o, 3)) (pcT pcF : Nat) (ho : 0 ≤ (pc : Int) + o) (hT : ((pc : Int) + o).toNat = pcT) (hF : pc + 3 = pcF) (KT : ¬ 0 < x → OE p e EP below n0 Q T (mkF m pcT Ls st)) (KF : 0 < x → OE p e EP below n0 Q T (mkF m pcF Ls st)) : OE p e EP below n0 Q T (mkF m pc Ls (.int x :: st)) := by
  obtain ⟨hx, hZ, hown, hby, hmx, hret, hnm, hlk, h0, hT', locs, S, N⟩ := X; subst hF
  by_cases q : 0 < x
  · exact OE.by (fun t r => XS.ifNo S.here hx rfl (hb hby hd) rfl ((if0 _ _).trans (tlt q).2.2.2) r) (KF q)
  · exact OE.by (fun t r => XS.ifYes S.here hx rfl rfl (hb hby hd) rfl ((if0 _ _).trans (flt q).2.2.2) ho hT r) (KT q)
theorem o_ifnullR (X : OW p l e R s m args below meth c Z y bytes mx ret n0 T h k n) {o : Int} {a : Addr} (hd : decode bytes pc = .ok (.ifnull o, 3)) (pc' : Nat) (hp : pc + 3 = pc') (K : OE p e EP below n0 Q T (mkF m pc' Ls st)) : OE p e EP below n0 Q T (mkF m pc Ls (.ref a :: st)) := by
  obtain ⟨hx, hZ, hown, hby, hmx, hret, hnm, hlk, h0, hT, locs, S, N⟩ := X; subst hp
  exact OE.by (fun t q => XS.ifnullNo S.here hx rfl (hb hby hd) rfl q) K
theorem o_ifnonnullR (X : OW p l e R s m args below meth c Z y bytes mx ret n0 T h k n) {o : Int} {a : Addr} (hd : decode bytes pc = .ok (.ifnonnull o, 3)) (pc' : Nat) (ho : 0 ≤ (pc : Int) + o) (hp : ((pc : Int) + o).toNat = pc') (K : OE p e EP below n0 Q T (mkF m pc' Ls st)) : OE p e EP below n0 Q T (mkF m pc Ls (.ref a :: st)) := by
  obtain ⟨hx, hZ, hown, hby, hmx, hret, hnm, hlk, h0, hT, locs, S, N⟩ := X
  exact OE.by (fun t q => XT.ifnonnullYes S.here hx rfl rfl (hb hby hd) rfl ho hp q) K
theorem o_acmpEqN (X : OW p l e R s m args below meth c Z y bytes mx ret n0 T h k n) {o : Int} {a b : Addr} (hd : decode bytes pc = .ok (.if_acmp .eq o, 3)) (hab : a ≠ b) (pc' : Nat) (hp : pc + 3 = pc') (K : OE p e EP below n0 Q T (mkF m pc' Ls st)) : OE p e EP below n0 Q T (mkF m pc Ls (.ref b :: .ref a :: st)) := by
  obtain ⟨hx, hZ, hown, hby, hmx, hret, hnm, hlk, h0, hT, locs, S, N⟩ := X; subst hp
  exact OE.by (fun t q => XT.acmpNo S.here hx rfl (hb hby hd) rfl rfl rfl (decide_eq_false fun r => hab (Value.ref.inj r)) q) K
theorem o_acmpNeY (X : OW p l e R s m args below meth c Z y bytes mx ret n0 T h k n) {o : Int} {a b : Addr} (hd : decode bytes pc = .ok (.if_acmp .ne o, 3)) (hab : a ≠ b) (pc' : Nat) (ho : 0 ≤ (pc : Int) + o) (hp : ((pc : Int) + o).toNat = pc') (K : OE p e EP below n0 Q T (mkF m pc' Ls st)) : OE p e EP below n0 Q T (mkF m pc Ls (.ref b :: .ref a :: st)) := by
  obtain ⟨hx, hZ, hown, hby, hmx, hret, hnm, hlk, h0, hT, locs, S, N⟩ := X
  exact OE.by (fun t q => XT.acmpYes S.here hx rfl rfl (hb hby hd) rfl rfl rfl (decide_eq_true fun r => hab (Value.ref.inj r)) ho hp q) K
theorem o_ldc (X : OW p l e R s m args below meth c Z y bytes mx ret n0 T h k n) {i : Nat} {v : Int32} (hd : decode bytes pc = .ok (.ldc i, 2)) (w : (Cond.constant y.cls i v).before a0 Z = true) (pc' : Nat) (hp : pc + 2 = pc') (K : OE p e EP below n0 Q T (mkF m pc' Ls (.int v :: st))) : OE p e EP below n0 Q T (mkF m pc Ls st) := by
  obtain ⟨hx, hZ, hown, hby, hmx, hret, hnm, hlk, h0, hT, locs, S, N⟩ := X; subst hp
  exact OE.by (fun t q => S.ldcInt hx hown (mvT hZ w) (g := mkF m pc Ls st) rfl (hb hby hd) t q) K
theorem o_ldc2L (X : OW p l e R s m args below meth c Z y bytes mx ret n0 T h k n) {i : Nat} {v : Int64} (hd : decode bytes pc = .ok (.ldc2_w i, 3)) (w : (Cond.constantLong y.cls i v).before a0 Z = true) (pc' : Nat) (hp : pc + 3 = pc') (K : OE p e EP below n0 Q T (mkF m pc' Ls (.long v :: st))) : OE p e EP below n0 Q T (mkF m pc Ls st) := by
  obtain ⟨hx, hZ, hown, hby, hmx, hret, hnm, hlk, h0, hT, locs, S, N⟩ := X; subst hp
  exact OE.by (fun t q => S.ldc2Long hx hown (mvT hZ w) (g := mkF m pc Ls st) rfl (hb hby hd) t q) K
theorem o_retZ (X : OW p l e R s m args below meth c Z y bytes mx (some .boolean) n0 T h k n) {z : Int32} (hd : decode bytes pc = .ok (.ireturn, 1)) (hk : k ≤ R.cells) (hn : n ≤ R.slots) (hq : Q (some (.int (nar .boolean z))) h) : OE p e (FE s R) below n0 Q T (mkF m pc Ls (.int z :: st)) := by
  obtain ⟨hx, hZ, hown, hby, hmx, hret, hnm, hlk, h0, hT, locs, S, N⟩ := X
  obtain ⟨fs, hr, hrun, hended, hW, hsame⟩ := S.leave (v := some (.int (nar .boolean z))) (fun q => by rw [hret] at q; cases q) hlk
  exact ⟨_, _, retN S hx (t := .boolean) hret (by simp) (hb hby hd) hr, hrun, hended, _, _, rfl, ⟨by show Q _ T.heap; rw [hT]; exact hq, N⟩, ⟨_, rfl⟩, hW, hsame.mono hk hn⟩
theorem o_retB (X : OW p l e R s m args below meth c Z y bytes mx (some .byte) n0 T h k n) {z : Int32} (hd : decode bytes pc = .ok (.ireturn, 1)) (hk : k ≤ R.cells) (hn : n ≤ R.slots) (hq : Q (some (.int (nar .byte z))) h) : OE p e (FE s R) below n0 Q T (mkF m pc Ls (.int z :: st)) := by
  obtain ⟨hx, hZ, hown, hby, hmx, hret, hnm, hlk, h0, hT, locs, S, N⟩ := X
  obtain ⟨fs, hr, hrun, hended, hW, hsame⟩ := S.leave (v := some (.int (nar .byte z))) (fun q => by rw [hret] at q; cases q) hlk
  exact ⟨_, _, retN S hx (t := .byte) hret (by simp) (hb hby hd) hr, hrun, hended, _, _, rfl, ⟨by show Q _ T.heap; rw [hT]; exact hq, N⟩, ⟨_, rfl⟩, hW, hsame.mono hk hn⟩
theorem o_retC (X : OW p l e R s m args below meth c Z y bytes mx (some .char) n0 T h k n) {z : Int32} (hd : decode bytes pc = .ok (.ireturn, 1)) (hk : k ≤ R.cells) (hn : n ≤ R.slots) (hq : Q (some (.int (nar .char z))) h) : OE p e (FE s R) below n0 Q T (mkF m pc Ls (.int z :: st)) := by
  obtain ⟨hx, hZ, hown, hby, hmx, hret, hnm, hlk, h0, hT, locs, S, N⟩ := X
  obtain ⟨fs, hr, hrun, hended, hW, hsame⟩ := S.leave (v := some (.int (nar .char z))) (fun q => by rw [hret] at q; cases q) hlk
  exact ⟨_, _, retN S hx (t := .char) hret (by simp) (hb hby hd) hr, hrun, hended, _, _, rfl, ⟨by show Q _ T.heap; rw [hT]; exact hq, N⟩, ⟨_, rfl⟩, hW, hsame.mono hk hn⟩
theorem o_retI (X : OW p l e R s m args below meth c Z y bytes mx (some .int) n0 T h k n) {z : Int32} (hd : decode bytes pc = .ok (.ireturn, 1)) (hk : k ≤ R.cells) (hn : n ≤ R.slots) (hq : Q (some (.int z)) h) : OE p e (FE s R) below n0 Q T (mkF m pc Ls (.int z :: st)) := by
  obtain ⟨hx, hZ, hown, hby, hmx, hret, hnm, hlk, h0, hT, locs, S, N⟩ := X
  obtain ⟨fs, hr, hrun, hended, hW, hsame⟩ := S.leave (v := some (.int z)) (fun q => by rw [hret] at q; cases q) hlk
  exact ⟨_, _, retOut S hx hret rfl (Or.inl ⟨rfl, Or.inl rfl, z, rfl⟩) (hb hby hd) hr, hrun, hended, _, _, rfl, ⟨by show Q _ T.heap; rw [hT]; exact hq, N⟩, ⟨_, rfl⟩, hW, hsame.mono hk hn⟩
theorem o_retJ (X : OW p l e R s m args below meth c Z y bytes mx (some .long) n0 T h k n) {z : Int64} (hd : decode bytes pc = .ok (.lreturn, 1)) (hk : k ≤ R.cells) (hn : n ≤ R.slots) (hq : Q (some (.long z)) h) : OE p e (FE s R) below n0 Q T (mkF m pc Ls (.long z :: st)) := by
  obtain ⟨hx, hZ, hown, hby, hmx, hret, hnm, hlk, h0, hT, locs, S, N⟩ := X
  obtain ⟨fs, hr, hrun, hended, hW, hsame⟩ := S.leave (v := some (.long z)) (fun q => by rw [hret] at q; cases q) hlk
  exact ⟨_, _, retOut S hx hret rfl (Or.inr (Or.inl ⟨rfl, rfl, z, rfl⟩)) (hb hby hd) hr, hrun, hended, _, _, rfl, ⟨by show Q _ T.heap; rw [hT]; exact hq, N⟩, ⟨_, rfl⟩, hW, hsame.mono hk hn⟩
theorem o_retA {ty : FieldType} (X : OW p l e R s m args below meth c Z y bytes mx (some ty) n0 T h k n) (hty : ty.isReference = true) {a : Addr} (hnar : narrow ty (.ref a) = .ref a) (hd : decode bytes pc = .ok (.areturn, 1)) (hk : k ≤ R.cells) (hn : n ≤ R.slots) (hq : Q (some (.ref a)) h) : OE p e (FE s R) below n0 Q T (mkF m pc Ls (.ref a :: st)) := by
  obtain ⟨hx, hZ, hown, hby, hmx, hret, hnm, hlk, h0, hT, locs, S, N⟩ := X
  obtain ⟨fs, hr, hrun, hended, hW, hsame⟩ := S.leave (v := some (.ref a)) (fun q => by rw [hret] at q; cases q) hlk
  exact ⟨_, _, retOut S hx hret hnar (Or.inr (Or.inr (Or.inr (Or.inr ⟨rfl, hty, rfl⟩)))) (hb hby hd) hr, hrun, hended, _, _, rfl, ⟨by show Q _ T.heap; rw [hT]; exact hq, N⟩, ⟨_, rfl⟩, hW, hsame.mono hk hn⟩
theorem o_ret (X : OW p l e R s m args below meth c Z y bytes mx none n0 T h k n) (hd : decode bytes pc = .ok (.return_, 1)) (hk : k ≤ R.cells) (hn : n ≤ R.slots) (hq : Q none h) : OE p e (FE s R) below n0 Q T (mkF m pc Ls []) := by
  obtain ⟨hx, hZ, hown, hby, hmx, hret, hnm, hlk, h0, hT, locs, S, N⟩ := X
  obtain ⟨fs, hr, hrun, hended, hW, hsame⟩ := S.leave (v := none) (fun _ => rfl) hlk
  exact ⟨_, _, S.returnOut hx hret (hb hby hd) hr, hrun, hended, _, _, rfl, ⟨by show Q _ T.heap; rw [hT]; exact hq, N⟩, ⟨_, rfl⟩, hW, hsame.mono hk hn⟩
/-! the heap: a list of places, each with what its cell says -/
def OA (Z : State) (ty : FieldType) (vs : List Int32) (c : Cell) : Prop := Z.isArrayOf c ty ∧ c.vm ≠ .unknown ∧ c.slots = (vs.map Value.int).toArray ∧ (∀ x ∈ vs, fits ty (.int x) = true) ∧ Z.vm.findClass ("[" ++ ty.toString) = some c.cls
def OL (n0 : Nat) (h : Heap) (L : List (Addr × (Cell → Prop))) : Prop := (L.map (·.1)).Nodup ∧ ∀ q ∈ L, n0 ≤ q.1 ∧ ∃ c : Cell, h[q.1]? = some c ∧ q.2 c
variable {L : List (Addr × (Cell → Prop))} {h' : Heap} {a : Addr} {ty : FieldType} {vs : List Int32} {PP : Cell → Prop}
theorem OL.nil : OL n0 h [] := ⟨List.nodup_nil, fun _ q => nomatch q⟩
theorem OL.ext (H : OL n0 h L) (E : Ext h h') : OL n0 h' L := ⟨H.1, fun q hq => by obtain ⟨h1, c, h2, h3⟩ := H.2 q hq; exact ⟨h1, c, E.2 _ _ h2, h3⟩⟩
theorem OL.lt (H : OL n0 h L) {q : Addr × (Cell → Prop)} (hq : q ∈ L) : q.1 < h.size := by obtain ⟨-, c, h2, -⟩ := H.2 q hq; exact (Array.getElem?_eq_some_iff.mp h2).1
theorem OL.push (H : OL n0 h L) (E : Ext h h') (h0 : n0 ≤ h.size) {c : Cell} (hc : h'[h.size]? = some c) (hp : PP c) : OL n0 h' ((h.size, PP) :: L) := by
  refine ⟨?_, fun q hq => ?_⟩
  · rw [List.map_cons, List.nodup_cons]
    refine ⟨fun hx => ?_, H.1⟩
    obtain ⟨q, hq, e⟩ := List.mem_map.mp hx
    have e' : q.1 = h.size := e
    exact absurd (H.lt hq) (by rw [e']; exact Nat.lt_irrefl _)
  · rcases List.mem_cons.mp hq with hq | hq
    · cases hq; exact ⟨h0, c, hc, hp⟩
    · exact (H.ext E).2 q hq
theorem OL.perm {L' : List (Addr × (Cell → Prop))} (H : OL n0 h L) (q : L.Perm L') : OL n0 h L' := ⟨(q.map (·.1)).nodup_iff.mp H.1, fun z hz => H.2 z (q.mem_iff.mpr hz)⟩
/-- the i-th place comes to the front -/
theorem OL.front (H : OL n0 h L) (i : Nat) {q : Addr × (Cell → Prop)} (hi : L[i]? = some q) : OL n0 h (q :: L.eraseIdx i) := by
  obtain ⟨hl, e⟩ := List.getElem?_eq_some_iff.mp hi
  refine H.perm ?_
  have e1 : L = L.take i ++ q :: L.drop (i + 1) := by rw [← e, List.getElem_cons_drop]; exact (List.take_append_drop i L).symm
  have e2 : L.eraseIdx i = L.take i ++ L.drop (i + 1) := List.eraseIdx_eq_take_drop_succ L i
  rw [e2]
  exact (List.Perm.of_eq e1).trans List.perm_middle
theorem OL.get (H : OL n0 h L) {i : Nat} (hi : L[i]? = some (a, PP)) : n0 ≤ a ∧ ∃ c : Cell, h[a]? = some c ∧ PP c := H.2 (a, PP) (List.mem_of_getElem? hi)
theorem OL.ne (H : OL n0 h L) {i j : Nat} {b : Addr} {PB : Cell → Prop} (hi : L[i]? = some (a, PP)) (hj : L[j]? = some (b, PB)) (hij : i ≠ j) : a ≠ b := by
  intro e; subst e
  have h1 : (L.map (·.1))[i]? = some a := by simp [hi]
  have h2 : (L.map (·.1))[j]? = some a := by simp [hj]
  obtain ⟨l1, -⟩ := List.getElem?_eq_some_iff.mp h1
  exact hij ((List.getElem?_inj l1 H.1).mp (h1.trans h2.symm))
theorem OL.wr (H : OL n0 h L) {i sl : Nat} {v : Value} {P' : Cell → Prop} (hi : L[i]? = some (a, PP)) (W : Wr h h' a sl v) (hP : ∀ c : Cell, h[a]? = some c → PP c → P' (c.setSlot sl v)) : OL n0 h' (L.set i (a, P')) := by
  have hmap : (L.set i (a, P')).map (·.1) = L.map (·.1) := by
    apply List.ext_getElem?
    intro j
    simp only [List.getElem?_map, List.getElem?_set]
    split
    · rename_i e; subst e; rw [if_pos (List.getElem?_eq_some_iff.mp hi).1, hi]; rfl
    · rfl
  refine ⟨by rw [hmap]; exact H.1, fun q hq => ?_⟩
  obtain ⟨j, hj⟩ := List.getElem?_of_mem hq
  rw [List.getElem?_set] at hj
  split at hj
  · rename_i e; subst e
    split at hj
    · cases hj
      obtain ⟨h1, c, h2, h3⟩ := H.get hi
      obtain ⟨c', e1, -, -, -, -, -, e7⟩ := wr_at W h2
      exact ⟨h1, c', e1, by rw [(e7 rfl).1]; exact hP c h2 h3⟩
    · cases hj
  · rename_i e
    obtain ⟨b, PB⟩ := q
    obtain ⟨h1, c, h2, h3⟩ := H.get hj
    obtain ⟨c', e1, -, -, -, e5, -⟩ := wr_at W h2
    have := e5 (H.ne hj hi (fun r => e r.symm))
    subst this
    exact ⟨h1, c', e1, h3⟩
theorem OA.set {c : Cell} {j : Nat} {x : Int32} (A : OA Z ty vs c) (hf : fits ty (.int x) = true) : OA Z ty (vs.set j x) (c.setSlot j (.int x)) := by
  obtain ⟨h1, h2, h3, h4, h5⟩ := A
  refine ⟨h1, h2, ?_, fun z hz => ?_, h5⟩
  · show c.slots.setIfInBounds j (.int x) = _
    rw [h3]; simp [List.map_set]
  · rcases List.mem_or_eq_of_mem_set hz with q | q
    · exact h4 z q
    · rw [q]; exact hf
theorem OA.new {k : ClassId} {z : Int32} {N : Nat} (hN : z.toInt = N) (hd : defaultValue ty = .int 0) (hf : fits ty (.int 0) = true) (A : Arr Z h a (newA k ty z) ty) (E : Exa Z h a ("[" ++ ty.toString)) : OA Z ty (List.replicate N 0) (newA k ty z) := by
  obtain ⟨c, kk, e1, e2, -⟩ := E
  cases A.1.symm.trans e1
  refine ⟨A.2.1, A.2.2, ?_, fun x hx => by rw [List.eq_of_mem_replicate hx]; exact hf, e2⟩
  have e : z.toNatClampNeg = N := by simp only [Int32.toNatClampNeg, hN]; rfl
  show Array.replicate z.toNatClampNeg (defaultValue ty) = _
  rw [e, hd]; simp
theorem o_idx {j : Int32} {i N : Nat} (hj : j.toInt = i) (hi : i < N) : ¬ (j < 0 ∨ N ≤ j.toNatClampNeg) ∧ j.toNatClampNeg = i := by
  have e : j.toNatClampNeg = i := by simp only [Int32.toNatClampNeg, hj]; rfl
  refine ⟨?_, e⟩
  rw [e, Int32.lt_iff_toInt_lt, hj, show (0 : Int32).toInt = 0 from rfl]; omega
theorem OA.size {c : Cell} (A : OA Z ty vs c) : c.slots.size = vs.length := by rw [A.2.2.1]; simp
theorem o_newarray (X : OW p l e R s m args below meth c Z y bytes mx ret n0 T h k n) (H : OL n0 h L) {aty : ArrayType} (hd : decode bytes pc = .ok (.newarray aty, 2)) (w : (Cond.arrayClass (newarray.typeOf aty)).before a0 Z = true) (hdv : defaultValue (newarray.typeOf aty) = .int 0) (hfv : fits (newarray.typeOf aty) (.int 0) = true) {z : Int32} (N cap : Nat) (hN : z.toInt = N) (hcap : N ≤ cap) (hb8 : cap * 8 ≤ 536870912) (k2 n2 : Nat) (hk2 : k + 1 = k2) (hn2 : n + cap = n2) (hc : k2 ≤ R.cells) (hl : n2 ≤ R.slots) (pc' : Nat) (hp : pc + 2 = pc')
    (K : ∀ T' h' a, OW p l e R s m args below meth c Z y bytes mx ret n0 T' h' k2 n2 → OL n0 h' ((a, OA Z (newarray.typeOf aty) (List.replicate N 0)) :: L) → OE p e EP below n0 Q T' (mkF m pc' Ls (.ref a :: st))) : OE p e EP below n0 Q T (mkF m pc Ls (.int z :: st)) := by
  have h0 := X.size
  obtain ⟨hx, hZ, hown, hby, hmx, hret, hnm, hlk, hn0, hT, locs, S, N0⟩ := X; subst hp hk2 hn2
  obtain ⟨T', h', cA, S', hT', E, A, EX, stp⟩ := newPE S hx hZ w hT (g := mkF m pc Ls (.int z :: st)) rfl (hb hby hd) rfl (by rw [Int32.lt_iff_toInt_lt, hN, show (0 : Int32).toInt = 0 from rfl]; omega) (cap := cap) (by simp only [Int32.toNatClampNeg, hN]; exact hcap) hb8 hc hl rfl
  exact OE.by stp (K T' h' h.size ⟨hx, hZ, hown, hby, hmx, hret, hnm, hlk, hn0, hT', locs, S', N0⟩ (H.push E h0 A.1 (OA.new hN hdv hfv A EX)))
theorem o_arraylength (X : OW p l e R s m args below meth c Z y bytes mx ret n0 T h k n) (H : OL n1 h L) (i : Nat) (hi : L[i]? = some (a, OA Z ty vs)) (hd : decode bytes pc = .ok (.arraylength, 1)) (z : Int32) (hz : Int32.ofNat vs.length = z) (pc' : Nat) (hp : pc + 1 = pc')
    (K : OE p e EP below n0 Q T (mkF m pc' Ls (.int z :: st))) : OE p e EP below n0 Q T (mkF m pc Ls (.ref a :: st)) := by
  obtain ⟨hx, hZ, hown, hby, hmx, hret, hnm, hlk, hn0, hT, locs, S, N0⟩ := X; subst hp
  obtain ⟨h1, c', h2, A⟩ := H.get hi
  refine OE.by (fun t q => S.arraylength hx (by rw [hT]; exact h2) (State.isArrayOf_alike hZ.alike A.1) (g := mkF m pc Ls (.ref a :: st)) rfl rfl (hb hby hd) t ?_) K
  have e1 : c'.slots.size.toInt32 = z := by rw [A.size]; exact hz
  rw [e1]; exact q
theorem o_iaload (X : OW p l e R s m args below meth c Z y bytes mx ret n0 T h k n) (H : OL n1 h L) (i : Nat) (hi : L[i]? = some (a, OA Z .int vs)) (hd : decode bytes pc = .ok (.iaload, 1)) {j : Int32} (jn : Nat) (hj : j.toInt = jn) (v : Int32) (hv : vs[jn]? = some v) (pc' : Nat) (hp : pc + 1 = pc')
    (K : OE p e EP below n0 Q T (mkF m pc' Ls (.int v :: st))) : OE p e EP below n0 Q T (mkF m pc Ls (.int j :: .ref a :: st)) := by
  obtain ⟨hx, hZ, hown, hby, hmx, hret, hnm, hlk, hn0, hT, locs, S, N0⟩ := X; subst hp
  obtain ⟨h1, c', h2, A⟩ := H.get hi
  have hlt := (List.getElem?_eq_some_iff.mp hv).1
  obtain ⟨q1, q2⟩ := o_idx hj (N := c'.slots.size) (by rw [A.size]; exact hlt)
  exact OE.by (fun t q => S.iaload hx (by rw [hT]; exact h2) (State.isArrayOf_alike hZ.alike A.1) A.2.1 q1 (v := .int v) (by rw [q2, A.2.2.1]; simp [hv]) (g := mkF m pc Ls (.int j :: .ref a :: st)) rfl rfl (hb hby hd) t q) K
theorem o_baloadB (X : OW p l e R s m args below meth c Z y bytes mx ret n0 T h k n) (H : OL n1 h L) (i : Nat) (hi : L[i]? = some (a, OA Z .byte vs)) (hd : decode bytes pc = .ok (.baload, 1)) {j : Int32} (jn : Nat) (hj : j.toInt = jn) (v : Int32) (hv : vs[jn]? = some v) (pc' : Nat) (hp : pc + 1 = pc')
    (K : OE p e EP below n0 Q T (mkF m pc' Ls (.int v :: st))) : OE p e EP below n0 Q T (mkF m pc Ls (.int j :: .ref a :: st)) := by
  obtain ⟨hx, hZ, hown, hby, hmx, hret, hnm, hlk, hn0, hT, locs, S, N0⟩ := X; subst hp
  obtain ⟨h1, c', h2, A⟩ := H.get hi
  have hlt := (List.getElem?_eq_some_iff.mp hv).1
  obtain ⟨q1, q2⟩ := o_idx hj (N := c'.slots.size) (by rw [A.size]; exact hlt)
  exact OE.by (fun t q => S.baloadBytes hx (by rw [hT]; exact h2) (State.isArrayOf_alike hZ.alike A.1) A.2.1 q1 (v := .int v) (by rw [q2, A.2.2.1]; simp [hv]) (g := mkF m pc Ls (.int j :: .ref a :: st)) rfl rfl (hb hby hd) t q) K
theorem o_baloadZ (X : OW p l e R s m args below meth c Z y bytes mx ret n0 T h k n) (H : OL n1 h L) (i : Nat) (hi : L[i]? = some (a, OA Z .boolean vs)) (hd : decode bytes pc = .ok (.baload, 1)) {j : Int32} (jn : Nat) (hj : j.toInt = jn) (v : Int32) (hv : vs[jn]? = some v) (pc' : Nat) (hp : pc + 1 = pc')
    (K : OE p e EP below n0 Q T (mkF m pc' Ls (.int v :: st))) : OE p e EP below n0 Q T (mkF m pc Ls (.int j :: .ref a :: st)) := by
  obtain ⟨hx, hZ, hown, hby, hmx, hret, hnm, hlk, hn0, hT, locs, S, N0⟩ := X; subst hp
  obtain ⟨h1, c', h2, A⟩ := H.get hi
  have hlt := (List.getElem?_eq_some_iff.mp hv).1
  obtain ⟨q1, q2⟩ := o_idx hj (N := c'.slots.size) (by rw [A.size]; exact hlt)
  exact OE.by (fun t q => S.baloadBooleans hx (by rw [hT]; exact h2) (State.isArrayOf_alike hZ.alike A.1) A.2.1 q1 (v := .int v) (by rw [q2, A.2.2.1]; simp [hv]) (g := mkF m pc Ls (.int j :: .ref a :: st)) rfl rfl (hb hby hd) t q) K
theorem o_iastore (X : OW p l e R s m args below meth c Z y bytes mx ret n0 T h k n) (H : OL n0 h L) (i : Nat) (hi : L[i]? = some (a, OA Z .int vs)) (hd : decode bytes pc = .ok (.iastore, 1)) {j x : Int32} (jn : Nat) (hj : j.toInt = jn) (hlt : jn < vs.length) (pc' : Nat) (hp : pc + 1 = pc')
    (K : ∀ T' h', OW p l e R s m args below meth c Z y bytes mx ret n0 T' h' k n → OL n0 h' (L.set i (a, OA Z .int (vs.set jn x))) → OE p e EP below n0 Q T' (mkF m pc' Ls st)) : OE p e EP below n0 Q T (mkF m pc Ls (.int x :: .int j :: .ref a :: st)) := by
  obtain ⟨hx, hZ, hown, hby, hmx, hret, hnm, hlk, hn0, hT, locs, S, N0⟩ := X; subst hp
  obtain ⟨h1, c', h2, A⟩ := H.get hi
  obtain ⟨q1, q2⟩ := o_idx hj (N := c'.slots.size) (by rw [A.size]; exact hlt)
  obtain ⟨T', h', S', hT', W, stp⟩ := stI S hx hZ hT ⟨h2, A.1, A.2.1⟩ q1 (x := x) (g := mkF m pc Ls (.int x :: .int j :: .ref a :: st)) rfl rfl (hb hby hd)
  rw [q2] at W S'
  exact OE.by stp (K T' h' ⟨hx, hZ, hown, hby, hmx, hret, hnm, hlk, hn0, hT', _, S', N0.app fun z hz => by cases List.mem_singleton.mp hz; exact h1⟩ (H.wr hi W fun c _ B => B.set rfl))
theorem o_bastoreB (X : OW p l e R s m args below meth c Z y bytes mx ret n0 T h k n) (H : OL n0 h L) (i : Nat) (hi : L[i]? = some (a, OA Z .byte vs)) (hd : decode bytes pc = .ok (.bastore, 1)) {j x : Int32} (jn : Nat) (hj : j.toInt = jn) (hlt : jn < vs.length) (v : Int32) (hv : x.toInt8.toInt32 = v) (pc' : Nat) (hp : pc + 1 = pc')
    (K : ∀ T' h', OW p l e R s m args below meth c Z y bytes mx ret n0 T' h' k n → OL n0 h' (L.set i (a, OA Z .byte (vs.set jn v))) → OE p e EP below n0 Q T' (mkF m pc' Ls st)) : OE p e EP below n0 Q T (mkF m pc Ls (.int x :: .int j :: .ref a :: st)) := by
  obtain ⟨hx, hZ, hown, hby, hmx, hret, hnm, hlk, hn0, hT, locs, S, N0⟩ := X; subst hp hv
  obtain ⟨h1, c', h2, A⟩ := H.get hi
  obtain ⟨q1, q2⟩ := o_idx hj (N := c'.slots.size) (by rw [A.size]; exact hlt)
  obtain ⟨T', h', S', hT', W, stp⟩ := stB S hx hZ hT ⟨h2, A.1, A.2.1⟩ q1 (x := x) (g := mkF m pc Ls (.int x :: .int j :: .ref a :: st)) rfl rfl (hb hby hd)
  rw [q2] at W S'
  exact OE.by stp (K T' h' ⟨hx, hZ, hown, hby, hmx, hret, hnm, hlk, hn0, hT', _, S', N0.app fun z hz => by cases List.mem_singleton.mp hz; exact h1⟩ (H.wr hi W fun c _ B => B.set (fits_nar_byte x)))
theorem o_bastoreZ (X : OW p l e R s m args below meth c Z y bytes mx ret n0 T h k n) (H : OL n0 h L) (i : Nat) (hi : L[i]? = some (a, OA Z .boolean vs)) (hd : decode bytes pc = .ok (.bastore, 1)) {j x : Int32} (jn : Nat) (hj : j.toInt = jn) (hlt : jn < vs.length) (v : Int32) (hv : nar .boolean x = v) (pc' : Nat) (hp : pc + 1 = pc')
    (K : ∀ T' h', OW p l e R s m args below meth c Z y bytes mx ret n0 T' h' k n → OL n0 h' (L.set i (a, OA Z .boolean (vs.set jn v))) → OE p e EP below n0 Q T' (mkF m pc' Ls st)) : OE p e EP below n0 Q T (mkF m pc Ls (.int x :: .int j :: .ref a :: st)) := by
  obtain ⟨hx, hZ, hown, hby, hmx, hret, hnm, hlk, hn0, hT, locs, S, N0⟩ := X; subst hp hv
  obtain ⟨h1, c', h2, A⟩ := H.get hi
  obtain ⟨q1, q2⟩ := o_idx hj (N := c'.slots.size) (by rw [A.size]; exact hlt)
  obtain ⟨T', h', S', hT', W, stp⟩ := stZ S hx hZ hT ⟨h2, A.1, A.2.1⟩ q1 (x := x) (g := mkF m pc Ls (.int x :: .int j :: .ref a :: st)) rfl rfl (hb hby hd)
  rw [q2] at W S'
  exact OE.by stp (K T' h' ⟨hx, hZ, hown, hby, hmx, hret, hnm, hlk, hn0, hT', _, S', N0.app fun z hz => by cases List.mem_singleton.mp hz; exact h1⟩ (H.wr hi W fun c _ B => B.set (fits_nar_bool x)))
theorem o_b8 (x : Int32) : x.toInt8.toInt32.toInt8.toInt32 = x.toInt8.toInt32 := by simp
/-! contracts and calls -/
def OC (l : Launch) (Z : State) (y : MethodName) (bytes : ByteArray) (mx : Nat) (ret : Option FieldType) (ws : List Jvm.Cond) (rm : Room) (n0 : Nat) (as' : Array Value) (h0 : Heap) (Q : Option Value → Heap → Prop) : Prop :=
  MetFree l y (head1 (Jvm.Cond.code y bytes mx ret :: ws) rm) (fun a U => a = as' ∧ Z.Warmed39 U.vm ∧ U.heap = h0) (fun _ _ _ _ _ => True) (fun _ U o U' => ∃ v L, o = .returned v ∧ (Q v U'.heap ∧ Fr n0 L) ∧ FrameEnd U o U' L rm.cells rm.slots)
theorem OC.of {ws : List Jvm.Cond} {rm : Room} {as' : Array Value} {h0 : Heap} (hp : plainFor y = true) (hn : n0 ≤ h0.size) (Ls : Array Slot) (hef : ∀ m : MethodId, entryFrame m as' mx = mkF m 0 Ls [])
    (B : ∀ p e s m below meth c T, OW p l e rm s m as' below meth c Z y bytes mx ret n0 T h0 0 0 → ∀ Q' : Option Value → Heap → Prop, (∀ r h, Q r h → Q' r h) → OE p e (FE s rm) below n0 Q' T (mkF m 0 Ls [])) : OC l Z y bytes mx ret ws rm n0 as' h0 Q := by
  refine MetFree.of_bodySF hp hisR ?_
  intro p e s m args below meth c s₁ Bd hml0 hP hK
  obtain ⟨rfl, hZ, hh⟩ := hP
  have hnm := (name_of_methodNamed Bd.named Bd.method).1
  have X0 : Stand p l e rm s m args below meth c s₁ [] 0 0 := Stand.of_body Bd
  have e0 : s₁.heap = h0 := by rw [← hh, Bd.state]; rfl
  rw [hef m]
  exact B p e s m below meth c s₁ ⟨Bd.exec, hZ, findClass_of_methodNamed Bd.named, Bd.bytes, hml0, Bd.returns, hnm, Bd.notSynchronized, by rw [hh]; exact hn, e0, [], X0, Fr.nil n0⟩ Q (fun _ _ q => q)
theorem o_callS (X : OW p l e R s m args below meth c Z y bytes mx ret n0 T h k n) {i : Nat} (hd : decode bytes pc = .ok (.invokestatic i, 3)) {y' : MethodName} {bytes' : ByteArray} {mx' : Nat} {ret' : Option FieldType} {rm : Room} {as' : Array Value} {Q' : Option Value → Heap → Prop} (C : OC l Z y' bytes' mx' ret' [] rm n0 as' h Q')
    (w1 : (Cond.methodLink y.cls i y').before a0 Z = true) (w2 : (Cond.static y').before a0 Z = true) (w3 : (Cond.initialized y'.cls).before a0 Z = true) (w4 : (Cond.code y' bytes' mx' ret').before a0 Z = true) (hy : y'.cls ≠ "java/lang/invoke/MethodHandle" ∧ y'.cls ≠ "java/lang/invoke/VarHandle")
    (Wd : Nat) (hf : rm.frames + 1 ≤ R.frames) (hlo : Wd + (mx' + 11) + rm.locals ≤ R.locals) (hls : Ls.size = mx) (argsL : List Value) (has : as' = argsL.toArray) {ps : List FieldType} {r' : Option FieldType} (hpd : parseMethodDescriptor y'.desc = some ⟨ps, r'⟩) (hlen : argsL.length = ps.length) (hst : st = argsL.reverse ++ rest) (hW : (rest.map fun v => v.category).sum ≤ Wd) (k2 n2 : Nat) (hk2 : k + rm.cells = k2) (hn2 : n + rm.slots = n2) (hk : k2 ≤ R.cells) (hn : n2 ≤ R.slots) (pc' : Nat) (hp : pc + 3 = pc')
    (K : ∀ v T' h', OW p l e R s m args below meth c Z y bytes mx ret n0 T' h' k2 n2 → Q' v h' → OE p e EP below n0 Q T' (mkF m pc' Ls (v.toList ++ rest))) : OE p e EP below n0 Q T (mkF m pc Ls st) := by
  obtain ⟨hx, hZ, hown, hby, hmx, hret, hnm, hlk, hn0, hT, locs, S, N0⟩ := X; subst hp has hk2 hn2
  obtain ⟨v, _, ⟨T2, L2, k2, n2⟩, -, X2, ⟨Lc, hQ, l2, y2, z2⟩, stp⟩ := Jvm.LawKit.callS S hx (y := y') hown (mvT hZ w1) (mvT hZ w2) (mvT hZ w3) (mvT hZ w4) hy (backOf (W := Wd) (Q := fun v hh LL => Q' v hh ∧ Fr n0 LL) C hZ w4 w3 hf hlo) (g := mkF m pc Ls st) rfl (by rw [hmx]; exact hls) (argsL := argsL) (rest := rest) (lenOf hpd hlen) hst (by show 2 * 0 + _ ≤ _; omega) (hb hby hd) (fun _ _ => ⟨rfl, hT, hk, hn⟩)
  dsimp only [Pt.U, Pt.locs, Pt.cells, Pt.slots] at X2 l2 y2 z2 stp hQ
  subst l2 y2 z2
  exact OE.by stp (K v T2 T2.heap ⟨hx, hZ, hown, hby, hmx, hret, hnm, hlk, hn0, rfl, _, X2, N0.app hQ.2⟩ hQ.1)
/-! objects -/
def OFc (Z : State) (cell : Cell) (O nm d : String) (v : Value) : Prop := ∃ (cf : ClassId) (k : Class) (i : Nat) (f : Field), Z.fieldFound? O nm d = some (cf, k, i, f) ∧ f.isStatic = false ∧ cell.vm ≠ .unknown ∧ cell.vm.isStatics = false ∧ Z.vm.assignable cell.cls cf = true ∧ cell.slots[f.slot]? = some v
def OO (Z : State) (C : String) (fs : List (String × String × String × Value)) (cell : Cell) : Prop := (∃ k : Class, Z.vm.findClass C = some cell.cls ∧ Z.vm.classes[cell.cls]? = some k ∧ cell.vm.isStatics = false ∧ (k.kind = .ordinary → cell.slots.size = k.instanceTypes.size)) ∧ ∀ f ∈ fs, OFc Z cell f.1 f.2.1 f.2.2.1 f.2.2.2
variable {fs : List (String × String × String × Value)} {C O nm d : String} {v : Value}
theorem oq0 {α : Type} {P : α → Prop} : ∀ q ∈ ([] : List α), P q := fun _ q => nomatch q
theorem oqS {α : Type} {P : α → Prop} {z : α} {M : List α} (q : P z) (r : ∀ x ∈ M, P x) : ∀ x ∈ z :: M, P x := List.forall_mem_cons.mpr ⟨q, r⟩
theorem o_new (X : OW p l e R s m args below meth c Z y bytes mx ret n0 T h k n) (H : OL n0 h L) {i nn : Nat} (hd : decode bytes pc = .ok (.new i, 3)) (w : (Cond.classLink y.cls i C).before a0 Z = true) (wi : (Cond.instantiable C nn).before a0 Z = true) (wz : (Cond.initialized C).before a0 Z = true) (fs : List (String × String × String × Value)) (hfs : ∀ f ∈ fs, ∃ ty, Laid Z a0 C f.1 f.2.1 f.2.2.1 ∧ parseFieldDescriptor f.2.2.1 = some ty ∧ f.2.2.2 = defaultValue ty) (k2 n2 : Nat) (hk2 : k + 1 = k2) (hn2 : n + nn = n2) (hc : k2 ≤ R.cells) (hl : n2 ≤ R.slots) (pc' : Nat) (hp : pc + 3 = pc')
    (K : ∀ T' h' a, OW p l e R s m args below meth c Z y bytes mx ret n0 T' h' k2 n2 → OL n0 h' ((a, OO Z C fs) :: L) → OE p e EP below n0 Q T' (mkF m pc' Ls (.ref a :: st))) : OE p e EP below n0 Q T (mkF m pc Ls st) := by
  have h0 := X.size
  obtain ⟨hx, hZ, hown, hby, hmx, hret, hnm, hlk, hn0, hT, locs, S, N0⟩ := X; subst hp hk2 hn2
  obtain ⟨T', h', S', hT', E, A, D, -, stp⟩ := newO S hx hZ hown w wi wz hT (g := mkF m pc Ls st) rfl (hb hby hd) hc hl
  obtain ⟨cell, kk, g1, g2, g3, g4, g5⟩ := A
  refine OE.by stp (K T' h' h.size ⟨hx, hZ, hown, hby, hmx, hret, hnm, hlk, hn0, hT', locs, S', N0⟩ (H.push E h0 g1 ⟨⟨kk, g2, g3, g4, g5⟩, fun f hf => ?_⟩))
  obtain ⟨ty, q1, q2, q3⟩ := hfs f hf
  obtain ⟨cell', cf, kf, ii, ff, r1, r2, r3, r4, r5, r6, r7⟩ := D q1 q2
  cases g1.symm.trans r1
  exact ⟨cf, kf, ii, ff, r2, r3, r4, r5, r6, by rw [q3]; exact r7⟩
theorem OO.fld {cell : Cell} (A : OO Z C fs cell) (hc : h[a]? = some cell) {j : Nat} (hj : fs[j]? = some (O, nm, d, v)) : Fld Z h a O nm d v := by
  obtain ⟨cf, kf, ii, ff, r2, r3, r4, r5, r6, r7⟩ := A.2 _ (List.mem_of_getElem? hj)
  exact ⟨cell, cf, kf, ii, ff, hc, r2, r3, r4, r5, r6, r7⟩
theorem OO.exa {cell : Cell} (A : OO Z C fs cell) (hc : h[a]? = some cell) : Exa Z h a C := by
  obtain ⟨⟨kk, g2, g3, g4, g5⟩, -⟩ := A; exact ⟨cell, kk, hc, g2, g3, g4, g5⟩
theorem o_getF (X : OW p l e R s m args below meth c Z y bytes mx ret n0 T h k n) (H : OL n1 h L) (i : Nat) (hi : L[i]? = some (a, OO Z C fs)) {ix : Nat} (hd : decode bytes pc = .ok (.getfield ix, 3)) (j : Nat) (hj : fs[j]? = some (O, nm, d, v)) (w : (Cond.fieldLink y.cls ix O nm d).before a0 Z = true) (pc' : Nat) (hp : pc + 3 = pc')
    (K : ∀ T', OW p l e R s m args below meth c Z y bytes mx ret n0 T' h k n → OE p e EP below n0 Q T' (mkF m pc' Ls (v :: st))) : OE p e EP below n0 Q T (mkF m pc Ls (.ref a :: st)) := by
  obtain ⟨hx, hZ, hown, hby, hmx, hret, hnm, hlk, hn0, hT, locs, S, N0⟩ := X; subst hp
  obtain ⟨h1, cell, h2, A⟩ := H.get hi
  obtain ⟨T', S', hT', stp⟩ := getF S hx hZ hown (host := "") (Or.inl w) Via.refl hT (A.fld h2 hj) (g := mkF m pc Ls (.ref a :: st)) rfl rfl (hb hby hd)
  exact OE.by stp (K T' ⟨hx, hZ, hown, hby, hmx, hret, hnm, hlk, hn0, hT', locs, S', N0⟩)
theorem o_putF (X : OW p l e R s m args below meth c Z y bytes mx ret n0 T h k n) (H : OL n0 h L) (i : Nat) (hi : L[i]? = some (a, OO Z C fs)) {ix kk : Nat} (hd : decode bytes pc = .ok (.putfield ix, 3)) (j : Nat) {old : Value} (hj : fs[j]? = some (O, nm, d, old)) (w : (Cond.fieldLink y.cls ix O nm d).before a0 Z = true)
    (Lw : (Cond.lays C O nm d).before a0 Z = true ∨ ((Cond.laysFinal C O nm d).before a0 Z = true ∧ y.cls = O ∧ y.name = "<init>")) (wi : (Cond.instantiable C kk).before a0 Z = true) {ty : FieldType} (hty : parseFieldDescriptor d = some ty) (hnr : narrow ty v = v) (hft : fits ty v = true) (hsl : ∀ q ∈ fs.eraseIdx j, RoadKit.slotOf Z q.1 q.2.1 q.2.2.1 ≠ RoadKit.slotOf Z O nm d) (pc' : Nat) (hp : pc + 3 = pc')
    (K : ∀ T' h', OW p l e R s m args below meth c Z y bytes mx ret n0 T' h' k n → OL n0 h' (L.set i (a, OO Z C (fs.set j (O, nm, d, v)))) → OE p e EP below n0 Q T' (mkF m pc' Ls st)) : OE p e EP below n0 Q T (mkF m pc Ls (v :: .ref a :: st)) := by
  obtain ⟨hx, hZ, hown, hby, hmx, hret, hnm, hlk, hn0, hT, locs, S, N0⟩ := X; subst hp
  obtain ⟨h1, cell, h2, A⟩ := H.get hi
  obtain ⟨T', h', S', hT', W, stp⟩ := putF S hx hZ hown (host := "") (Or.inl w) Via.refl hT (A.fld h2 hj) (A.exa h2) (Lw.imp id fun q => ⟨q.1, q.2.1, hnm.trans q.2.2⟩) wi hty hnr hft (g := mkF m pc Ls (v :: .ref a :: st)) rfl rfl (hb hby hd)
  refine OE.by stp (K T' h' ⟨hx, hZ, hown, hby, hmx, hret, hnm, hlk, hn0, hT', _, S', N0.app fun z hz => by cases List.mem_singleton.mp hz; exact h1⟩ (H.wr hi W fun c' hc' B => ?_))
  obtain ⟨⟨kq, g2, g3, g4, g5⟩, F⟩ := B
  refine ⟨⟨kq, g2, g3, g4, fun q => by rw [sz_set]; exact g5 q⟩, fun q hq => ?_⟩
  obtain ⟨j', hj'⟩ := List.getElem?_of_mem hq
  rw [List.getElem?_set] at hj'
  split at hj'
  · split at hj'
    · cases hj'
      obtain ⟨cf, kf, ii, ff, r2, r3, r4, r5, r6, r7⟩ := F _ (List.mem_of_getElem? hj)
      have hlt := (Array.getElem?_eq_some_iff.mp r7).1
      refine ⟨cf, kf, ii, ff, r2, r3, r4, r5, r6, ?_⟩
      have es : RoadKit.slotOf Z O nm d = ff.slot := by simp only [RoadKit.slotOf]; simp only at r2; rw [r2]; rfl
      show (c'.slots.setIfInBounds (RoadKit.slotOf Z O nm d) v)[ff.slot]? = some v
      rw [es, Array.getElem?_setIfInBounds_self_of_lt hlt]
    · cases hj'
  · rename_i hne
    obtain ⟨cf, kf, ii, ff, r2, r3, r4, r5, r6, r7⟩ := F _ (List.mem_of_getElem? hj')
    refine ⟨cf, kf, ii, ff, r2, r3, r4, r5, r6, ?_⟩
    have ne := hsl q (List.mem_eraseIdx_iff_getElem?.mpr ⟨j', fun z => hne z.symm, hj'⟩)
    have es : RoadKit.slotOf Z q.1 q.2.1 q.2.2.1 = ff.slot := by simp only [RoadKit.slotOf]; rw [r2]; rfl
    show (c'.slots.setIfInBounds (RoadKit.slotOf Z O nm d) v)[ff.slot]? = some q.2.2.2
    rw [← es, Array.getElem?_setIfInBounds_ne (fun z => ne z.symm), es]; exact r7
theorem o_initO (X : OW p l e R s m args below meth c Z y bytes mx ret n0 T h k n) {i : Nat} (hd : decode bytes pc = .ok (.invokespecial i, 3)) (w1 : (Cond.methodLink y.cls i Lib.objectInit).before a0 Z = true) (w2 : (Cond.instanceMethod Lib.objectInit).before a0 Z = true) (w3 : (Cond.code Lib.objectInit ⟨#[0xb1]⟩ 1 none).before a0 Z = true) (hls : Ls.size = mx) (hf : 1 ≤ R.frames) (Wd : Nat) (hW : (st.map fun v => v.category).sum ≤ Wd) (hlo : Wd + 12 ≤ R.locals) (pc' : Nat) (hp : pc + 3 = pc')
    (K : ∀ T', OW p l e R s m args below meth c Z y bytes mx ret n0 T' h k n → OE p e EP below n0 Q T' (mkF m pc' Ls st)) : OE p e EP below n0 Q T (mkF m pc Ls (.ref a :: st)) := by
  obtain ⟨hx, hZ, hown, hby, hmx, hret, hnm, hlk, hn0, hT, locs, S, N0⟩ := X; subst hp
  obtain ⟨T', S', hT', stp⟩ := initO S hx hZ hown w1 w2 w3 hT (g := mkF m pc Ls (.ref a :: st)) rfl (by rw [hmx]; exact hls) rfl (hb hby hd) hf (W := Wd) (by show 2 * 0 + _ ≤ _; omega) hlo
  exact OE.by stp (K T' ⟨hx, hZ, hown, hby, hmx, hret, hnm, hlk, hn0, hT', locs, S', N0⟩)
theorem o_callI (X : OW p l e R s m args below meth c Z y bytes mx ret n0 T h k n) {i : Nat} (hd : decode bytes pc = .ok (.invokespecial i, 3)) {y' : MethodName} {bytes' : ByteArray} {mx' : Nat} {rm : Room} {as' : Array Value} {Q' : Option Value → Heap → Prop} (C : OC l Z y' bytes' mx' none [] rm n0 as' h Q') (hini : y'.name = "<init>")
    (w1 : (Cond.methodLink y.cls i y').before a0 Z = true) (w2 : (Cond.instanceMethod y').before a0 Z = true) (w3 : (Cond.initialized y'.cls).before a0 Z = true) (w4 : (Cond.code y' bytes' mx' none).before a0 Z = true) (hy : y'.cls ≠ "java/lang/invoke/MethodHandle" ∧ y'.cls ≠ "java/lang/invoke/VarHandle")
    (Wd : Nat) (hf : rm.frames + 1 ≤ R.frames) (hlo : Wd + (mx' + 11) + rm.locals ≤ R.locals) (hls : Ls.size = mx) (argsL : List Value) (has : as' = (.ref a :: argsL).toArray) {ps : List FieldType} {r' : Option FieldType} (hpd : parseMethodDescriptor y'.desc = some ⟨ps, r'⟩) (hlen : argsL.length = ps.length) (hst : st = argsL.reverse ++ .ref a :: rest) (hW : (rest.map fun v => v.category).sum ≤ Wd) (k2 n2 : Nat) (hk2 : k + rm.cells = k2) (hn2 : n + rm.slots = n2) (hk : k2 ≤ R.cells) (hn : n2 ≤ R.slots) (pc' : Nat) (hp : pc + 3 = pc')
    (K : ∀ v T' h', OW p l e R s m args below meth c Z y bytes mx ret n0 T' h' k2 n2 → Q' v h' → OE p e EP below n0 Q T' (mkF m pc' Ls (v.toList ++ rest))) : OE p e EP below n0 Q T (mkF m pc Ls st) := by
  obtain ⟨hx, hZ, hown, hby, hmx, hret, hnm, hlk, hn0, hT, locs, S, N0⟩ := X; subst hp has hk2 hn2
  obtain ⟨v, _, ⟨T2, L2, k2, n2⟩, -, X2, ⟨Lc, hQ, l2, y2, z2⟩, stp⟩ := S.specialBack hx (y := y') hini hown (mvT hZ w1) (mvT hZ w2) (mvT hZ w4) hy (backOf (W := Wd) (Q := fun v hh LL => Q' v hh ∧ Fr n0 LL) C hZ w4 w3 hf hlo) (g := mkF m pc Ls st) rfl (by rw [hmx]; exact hls) (Steps.refl _) (a := a) (argsL := argsL) (rest := rest) (lenOf hpd hlen) hst (by show 2 * 0 + _ ≤ _; omega) (hb hby hd) (fun _ _ => ⟨rfl, hT, hk, hn⟩)
  dsimp only [Pt.U, Pt.locs, Pt.cells, Pt.slots] at X2 l2 y2 z2 stp hQ
  subst l2 y2 z2
  exact OE.by (fun t q => stp.trans q) (K v T2 T2.heap ⟨hx, hZ, hown, hby, hmx, hret, hnm, hlk, hn0, rfl, _, X2, N0.app hQ.2⟩ hQ.1)
theorem o_callV (X : OW p l e R s m args below meth c Z y bytes mx ret n0 T h k n) (H : OL n1 h L) (io : Nat) {Cc : String} (hi : L[io]? = some (a, OO Z Cc fs)) {i : Nat} (hd : decode bytes pc = .ok (.invokevirtual i, 3)) {y' : MethodName} {bytes' : ByteArray} {mx' : Nat} {ret' : Option FieldType} {rm : Room} {as' : Array Value} {Q' : Option Value → Heap → Prop} (C : OC l Z y' bytes' mx' ret' [] rm n0 as' h Q')
    (w1 : (Cond.methodLink y.cls i y').before a0 Z = true) (w2 : (Cond.declares y').before a0 Z = true) (w5 : (Cond.selects Cc y' y').before a0 Z = true) (w6 : (Cond.instanceMethod y').before a0 Z = true) (w3 : (Cond.initialized y'.cls).before a0 Z = true) (w4 : (Cond.code y' bytes' mx' ret').before a0 Z = true) (hy : y'.cls ≠ "java/lang/invoke/MethodHandle" ∧ y'.cls ≠ "java/lang/invoke/VarHandle")
    (Wd : Nat) (hf : rm.frames + 1 ≤ R.frames) (hlo : Wd + (mx' + 11) + rm.locals ≤ R.locals) (hls : Ls.size = mx) (argsL : List Value) (has : as' = (.ref a :: argsL).toArray) {ps : List FieldType} {r' : Option FieldType} (hpd : parseMethodDescriptor y'.desc = some ⟨ps, r'⟩) (hlen : argsL.length = ps.length) (hst : st = argsL.reverse ++ .ref a :: rest) (hW : (rest.map fun v => v.category).sum ≤ Wd) (k2 n2 : Nat) (hk2 : k + rm.cells = k2) (hn2 : n + rm.slots = n2) (hk : k2 ≤ R.cells) (hn : n2 ≤ R.slots) (pc' : Nat) (hp : pc + 3 = pc')
    (K : ∀ v T' h', OW p l e R s m args below meth c Z y bytes mx ret n0 T' h' k2 n2 → Q' v h' → OE p e EP below n0 Q T' (mkF m pc' Ls (v.toList ++ rest))) : OE p e EP below n0 Q T (mkF m pc Ls st) := by
  obtain ⟨hx, hZ, hown, hby, hmx, hret, hnm, hlk, hn0, hT, locs, S, N0⟩ := X; subst hp has hk2 hn2
  obtain ⟨h1, cell, h2, A⟩ := H.get hi
  obtain ⟨cq, kq, q1, q2, q3⟩ := isOf hZ hT (A.exa h2)
  obtain ⟨v, _, ⟨T2, L2, k2, n2⟩, -, X2, ⟨Lc, hQ, l2, y2, z2⟩, stp⟩ := S.virtualBack hx (y := y') (z := y') hown (mvT hZ w1) (mvT hZ w2) (notFace_of_selects (args := #[]) (mvT hZ w5)) (mvT hZ w5) (mvT hZ w6) hy (backOf (W := Wd) (Q := fun v hh LL => Q' v hh ∧ Fr n0 LL) C hZ w4 w3 hf hlo) q1 q3 (g := mkF m pc Ls st) rfl (by rw [hmx]; exact hls) (Steps.refl _) (argsL := argsL) (rest := rest) (lenOf hpd hlen) hst (by show 2 * 0 + _ ≤ _; omega) (hb hby hd) (fun _ _ => ⟨rfl, hT, hk, hn⟩)
  dsimp only [Pt.U, Pt.locs, Pt.cells, Pt.slots] at X2 l2 y2 z2 stp hQ
  subst l2 y2 z2
  exact OE.by (fun t q => stp.trans q) (K v T2 T2.heap ⟨hx, hZ, hown, hby, hmx, hret, hnm, hlk, hn0, rfl, _, X2, N0.app hQ.2⟩ hQ.1)
end OwnKit
theorem d1_0 : decode jdk_29_method_69_code 0 = .ok (.iload_n 0, 1) := by decide +kernel
theorem d1_1 : decode jdk_29_method_69_code 1 = .ok (.iload_n 1, 1) := by decide +kernel
theorem d1_2 : decode jdk_29_method_69_code 2 = .ok (.if_icmp .gt 7, 3) := by decide +kernel
theorem d1_5 : decode jdk_29_method_69_code 5 = .ok (.iload_n 0, 1) := by decide +kernel
theorem d1_6 : decode jdk_29_method_69_code 6 = .ok (.goto 4, 3) := by decide +kernel
theorem d1_9 : decode jdk_29_method_69_code 9 = .ok (.iload_n 1, 1) := by decide +kernel
theorem d1_10 : decode jdk_29_method_69_code 10 = .ok (.ireturn, 1) := by decide +kernel
theorem d2_0 : decode method_2_code 0 = .ok (.iconst 0, 1) := by decide +kernel
theorem d2_1 : decode method_2_code 1 = .ok (.istore_n 3, 1) := by decide +kernel
theorem d2_2 : decode method_2_code 2 = .ok (.aload_n 0, 1) := by decide +kernel
theorem d2_3 : decode method_2_code 3 = .ok (.iload_n 1, 1) := by decide +kernel
theorem d2_4 : decode method_2_code 4 = .ok (.iaload, 1) := by decide +kernel
theorem d2_5 : decode method_2_code 5 = .ok (.ifCond .le 10, 3) := by decide +kernel
theorem d2_8 : decode method_2_code 8 = .ok (.aload_n 2, 1) := by decide +kernel
theorem d2_9 : decode method_2_code 9 = .ok (.iload_n 3, 1) := by decide +kernel
theorem d2_10 : decode method_2_code 10 = .ok (.iconst 0, 1) := by decide +kernel
theorem d2_11 : decode method_2_code 11 = .ok (.iastore, 1) := by decide +kernel
theorem d2_12 : decode method_2_code 12 = .ok (.iinc 3 1, 3) := by decide +kernel
theorem d2_15 : decode method_2_code 15 = .ok (.aload_n 0, 1) := by decide +kernel
theorem d2_16 : decode method_2_code 16 = .ok (.iload_n 1, 1) := by decide +kernel
theorem d2_17 : decode method_2_code 17 = .ok (.iconst 1, 1) := by decide +kernel
theorem d2_18 : decode method_2_code 18 = .ok (.iadd, 1) := by decide +kernel
theorem d2_19 : decode method_2_code 19 = .ok (.iaload, 1) := by decide +kernel
theorem d2_20 : decode method_2_code 20 = .ok (.ifCond .le 10, 3) := by decide +kernel
theorem d2_23 : decode method_2_code 23 = .ok (.aload_n 2, 1) := by decide +kernel
theorem d2_24 : decode method_2_code 24 = .ok (.iload_n 3, 1) := by decide +kernel
theorem d2_25 : decode method_2_code 25 = .ok (.iconst 1, 1) := by decide +kernel
theorem d2_26 : decode method_2_code 26 = .ok (.iastore, 1) := by decide +kernel
theorem d2_27 : decode method_2_code 27 = .ok (.iinc 3 1, 3) := by decide +kernel
theorem d2_30 : decode method_2_code 30 = .ok (.aload_n 0, 1) := by decide +kernel
theorem d2_31 : decode method_2_code 31 = .ok (.iload_n 1, 1) := by decide +kernel
theorem d2_32 : decode method_2_code 32 = .ok (.iconst 2, 1) := by decide +kernel
theorem d2_33 : decode method_2_code 33 = .ok (.iadd, 1) := by decide +kernel
theorem d2_34 : decode method_2_code 34 = .ok (.iaload, 1) := by decide +kernel
theorem d2_35 : decode method_2_code 35 = .ok (.ifCond .le 10, 3) := by decide +kernel
theorem d2_38 : decode method_2_code 38 = .ok (.aload_n 2, 1) := by decide +kernel
theorem d2_39 : decode method_2_code 39 = .ok (.iload_n 3, 1) := by decide +kernel
theorem d2_40 : decode method_2_code 40 = .ok (.iconst 2, 1) := by decide +kernel
theorem d2_41 : decode method_2_code 41 = .ok (.iastore, 1) := by decide +kernel
theorem d2_42 : decode method_2_code 42 = .ok (.iinc 3 1, 3) := by decide +kernel
theorem d2_45 : decode method_2_code 45 = .ok (.aload_n 0, 1) := by decide +kernel
theorem d2_46 : decode method_2_code 46 = .ok (.iload_n 1, 1) := by decide +kernel
theorem d2_47 : decode method_2_code 47 = .ok (.iconst 3, 1) := by decide +kernel
theorem d2_48 : decode method_2_code 48 = .ok (.iadd, 1) := by decide +kernel
theorem d2_49 : decode method_2_code 49 = .ok (.iaload, 1) := by decide +kernel
theorem d2_50 : decode method_2_code 50 = .ok (.ifCond .le 10, 3) := by decide +kernel
theorem d2_53 : decode method_2_code 53 = .ok (.aload_n 2, 1) := by decide +kernel
theorem d2_54 : decode method_2_code 54 = .ok (.iload_n 3, 1) := by decide +kernel
theorem d2_55 : decode method_2_code 55 = .ok (.iconst 3, 1) := by decide +kernel
theorem d2_56 : decode method_2_code 56 = .ok (.iastore, 1) := by decide +kernel
theorem d2_57 : decode method_2_code 57 = .ok (.iinc 3 1, 3) := by decide +kernel
theorem d2_60 : decode method_2_code 60 = .ok (.iload_n 3, 1) := by decide +kernel
theorem d2_61 : decode method_2_code 61 = .ok (.ireturn, 1) := by decide +kernel
theorem d3_0 : decode method_3_code 0 = .ok (.iload_n 3, 1) := by decide +kernel
theorem d3_1 : decode method_3_code 1 = .ok (.ifCond .le 9, 3) := by decide +kernel
theorem d3_4 : decode method_3_code 4 = .ok (.aload_n 0, 1) := by decide +kernel
theorem d3_5 : decode method_3_code 5 = .ok (.iload_n 1, 1) := by decide +kernel
theorem d3_6 : decode method_3_code 6 = .ok (.aload_n 2, 1) := by decide +kernel
theorem d3_7 : decode method_3_code 7 = .ok (.iconst 0, 1) := by decide +kernel
theorem d3_8 : decode method_3_code 8 = .ok (.iaload, 1) := by decide +kernel
theorem d3_9 : decode method_3_code 9 = .ok (.iastore, 1) := by decide +kernel
theorem d3_10 : decode method_3_code 10 = .ok (.iload_n 3, 1) := by decide +kernel
theorem d3_11 : decode method_3_code 11 = .ok (.iconst 1, 1) := by decide +kernel
theorem d3_12 : decode method_3_code 12 = .ok (.if_icmp .le 11, 3) := by decide +kernel
theorem d3_15 : decode method_3_code 15 = .ok (.aload_n 0, 1) := by decide +kernel
theorem d3_16 : decode method_3_code 16 = .ok (.iload_n 1, 1) := by decide +kernel
theorem d3_17 : decode method_3_code 17 = .ok (.iconst 1, 1) := by decide +kernel
theorem d3_18 : decode method_3_code 18 = .ok (.iadd, 1) := by decide +kernel
theorem d3_19 : decode method_3_code 19 = .ok (.aload_n 2, 1) := by decide +kernel
theorem d3_20 : decode method_3_code 20 = .ok (.iconst 1, 1) := by decide +kernel
theorem d3_21 : decode method_3_code 21 = .ok (.iaload, 1) := by decide +kernel
theorem d3_22 : decode method_3_code 22 = .ok (.iastore, 1) := by decide +kernel
theorem d3_23 : decode method_3_code 23 = .ok (.iload_n 3, 1) := by decide +kernel
theorem d3_24 : decode method_3_code 24 = .ok (.iconst 2, 1) := by decide +kernel
theorem d3_25 : decode method_3_code 25 = .ok (.if_icmp .le 11, 3) := by decide +kernel
theorem d3_28 : decode method_3_code 28 = .ok (.aload_n 0, 1) := by decide +kernel
theorem d3_29 : decode method_3_code 29 = .ok (.iload_n 1, 1) := by decide +kernel
theorem d3_30 : decode method_3_code 30 = .ok (.iconst 2, 1) := by decide +kernel
theorem d3_31 : decode method_3_code 31 = .ok (.iadd, 1) := by decide +kernel
theorem d3_32 : decode method_3_code 32 = .ok (.aload_n 2, 1) := by decide +kernel
theorem d3_33 : decode method_3_code 33 = .ok (.iconst 2, 1) := by decide +kernel
theorem d3_34 : decode method_3_code 34 = .ok (.iaload, 1) := by decide +kernel
theorem d3_35 : decode method_3_code 35 = .ok (.iastore, 1) := by decide +kernel
theorem d3_36 : decode method_3_code 36 = .ok (.iload_n 3, 1) := by decide +kernel
theorem d3_37 : decode method_3_code 37 = .ok (.iconst 3, 1) := by decide +kernel
theorem d3_38 : decode method_3_code 38 = .ok (.if_icmp .le 11, 3) := by decide +kernel
theorem d3_41 : decode method_3_code 41 = .ok (.aload_n 0, 1) := by decide +kernel
theorem d3_42 : decode method_3_code 42 = .ok (.iload_n 1, 1) := by decide +kernel
theorem d3_43 : decode method_3_code 43 = .ok (.iconst 3, 1) := by decide +kernel
theorem d3_44 : decode method_3_code 44 = .ok (.iadd, 1) := by decide +kernel
theorem d3_45 : decode method_3_code 45 = .ok (.aload_n 2, 1) := by decide +kernel
theorem d3_46 : decode method_3_code 46 = .ok (.iconst 3, 1) := by decide +kernel
theorem d3_47 : decode method_3_code 47 = .ok (.iaload, 1) := by decide +kernel
theorem d3_48 : decode method_3_code 48 = .ok (.iastore, 1) := by decide +kernel
theorem d3_49 : decode method_3_code 49 = .ok (.return_, 1) := by decide +kernel
theorem d4_0 : decode prog_40_method_1_code 0 = .ok (.aload_n 0, 1) := by decide +kernel
theorem d4_1 : decode prog_40_method_1_code 1 = .ok (.invokespecial 1, 3) := by decide +kernel
theorem d4_4 : decode prog_40_method_1_code 4 = .ok (.aload_n 1, 1) := by decide +kernel
theorem d4_5 : decode prog_40_method_1_code 5 = .ok (.arraylength, 1) := by decide +kernel
theorem d4_6 : decode prog_40_method_1_code 6 = .ok (.iload_n 2, 1) := by decide +kernel
theorem d4_7 : decode prog_40_method_1_code 7 = .ok (.idiv, 1) := by decide +kernel
theorem d4_8 : decode prog_40_method_1_code 8 = .ok (.istore_n 3, 1) := by decide +kernel
theorem d4_9 : decode prog_40_method_1_code 9 = .ok (.aload_n 0, 1) := by decide +kernel
theorem d4_10 : decode prog_40_method_1_code 10 = .ok (.iload_n 3, 1) := by decide +kernel
theorem d4_11 : decode prog_40_method_1_code 11 = .ok (.iconst 1, 1) := by decide +kernel
theorem d4_12 : decode prog_40_method_1_code 12 = .ok (.iadd, 1) := by decide +kernel
theorem d4_13 : decode prog_40_method_1_code 13 = .ok (.newarray .int, 2) := by decide +kernel
theorem d4_15 : decode prog_40_method_1_code 15 = .ok (.putfield 7, 3) := by decide +kernel
theorem d4_18 : decode prog_40_method_1_code 18 = .ok (.aload_n 0, 1) := by decide +kernel
theorem d4_19 : decode prog_40_method_1_code 19 = .ok (.iload_n 3, 1) := by decide +kernel
theorem d4_20 : decode prog_40_method_1_code 20 = .ok (.newarray .int, 2) := by decide +kernel
theorem d4_22 : decode prog_40_method_1_code 22 = .ok (.putfield 13, 3) := by decide +kernel
theorem d4_25 : decode prog_40_method_1_code 25 = .ok (.iconst 0, 1) := by decide +kernel
theorem d4_26 : decode prog_40_method_1_code 26 = .ok (.istore 4, 2) := by decide +kernel
theorem d4_28 : decode prog_40_method_1_code 28 = .ok (.iload 4, 2) := by decide +kernel
theorem d4_30 : decode prog_40_method_1_code 30 = .ok (.iload_n 3, 1) := by decide +kernel
theorem d4_31 : decode prog_40_method_1_code 31 = .ok (.if_icmp .ge 65, 3) := by decide +kernel
theorem d4_34 : decode prog_40_method_1_code 34 = .ok (.lconst 0, 1) := by decide +kernel
theorem d4_35 : decode prog_40_method_1_code 35 = .ok (.lstore 5, 2) := by decide +kernel
theorem d4_37 : decode prog_40_method_1_code 37 = .ok (.iconst 0, 1) := by decide +kernel
theorem d4_38 : decode prog_40_method_1_code 38 = .ok (.istore 7, 2) := by decide +kernel
theorem d4_40 : decode prog_40_method_1_code 40 = .ok (.iload 7, 2) := by decide +kernel
theorem d4_42 : decode prog_40_method_1_code 42 = .ok (.iload_n 2, 1) := by decide +kernel
theorem d4_43 : decode prog_40_method_1_code 43 = .ok (.if_icmp .ge 24, 3) := by decide +kernel
theorem d4_46 : decode prog_40_method_1_code 46 = .ok (.lload 5, 2) := by decide +kernel
theorem d4_48 : decode prog_40_method_1_code 48 = .ok (.aload_n 1, 1) := by decide +kernel
theorem d4_49 : decode prog_40_method_1_code 49 = .ok (.iload 4, 2) := by decide +kernel
theorem d4_51 : decode prog_40_method_1_code 51 = .ok (.iload_n 2, 1) := by decide +kernel
theorem d4_52 : decode prog_40_method_1_code 52 = .ok (.imul, 1) := by decide +kernel
theorem d4_53 : decode prog_40_method_1_code 53 = .ok (.iload 7, 2) := by decide +kernel
theorem d4_55 : decode prog_40_method_1_code 55 = .ok (.iadd, 1) := by decide +kernel
theorem d4_56 : decode prog_40_method_1_code 56 = .ok (.iaload, 1) := by decide +kernel
theorem d4_57 : decode prog_40_method_1_code 57 = .ok (.i2l, 1) := by decide +kernel
theorem d4_58 : decode prog_40_method_1_code 58 = .ok (.ladd, 1) := by decide +kernel
theorem d4_59 : decode prog_40_method_1_code 59 = .ok (.lstore 5, 2) := by decide +kernel
theorem d4_61 : decode prog_40_method_1_code 61 = .ok (.iinc 7 1, 3) := by decide +kernel
theorem d4_64 : decode prog_40_method_1_code 64 = .ok (.goto (-24), 3) := by decide +kernel
theorem d4_67 : decode prog_40_method_1_code 67 = .ok (.aload_n 0, 1) := by decide +kernel
theorem d4_68 : decode prog_40_method_1_code 68 = .ok (.getfield 7, 3) := by decide +kernel
theorem d4_71 : decode prog_40_method_1_code 71 = .ok (.iload 4, 2) := by decide +kernel
theorem d4_73 : decode prog_40_method_1_code 73 = .ok (.iconst 1, 1) := by decide +kernel
theorem d4_74 : decode prog_40_method_1_code 74 = .ok (.iadd, 1) := by decide +kernel
theorem d4_75 : decode prog_40_method_1_code 75 = .ok (.aload_n 0, 1) := by decide +kernel
theorem d4_76 : decode prog_40_method_1_code 76 = .ok (.getfield 7, 3) := by decide +kernel
theorem d4_79 : decode prog_40_method_1_code 79 = .ok (.iload 4, 2) := by decide +kernel
theorem d4_81 : decode prog_40_method_1_code 81 = .ok (.iaload, 1) := by decide +kernel
theorem d4_82 : decode prog_40_method_1_code 82 = .ok (.lload 5, 2) := by decide +kernel
theorem d4_84 : decode prog_40_method_1_code 84 = .ok (.iload_n 2, 1) := by decide +kernel
theorem d4_85 : decode prog_40_method_1_code 85 = .ok (.invokestatic 16, 3) := by decide +kernel
theorem d4_88 : decode prog_40_method_1_code 88 = .ok (.iadd, 1) := by decide +kernel
theorem d4_89 : decode prog_40_method_1_code 89 = .ok (.iastore, 1) := by decide +kernel
theorem d4_90 : decode prog_40_method_1_code 90 = .ok (.iinc 4 1, 3) := by decide +kernel
theorem d4_93 : decode prog_40_method_1_code 93 = .ok (.goto (-65), 3) := by decide +kernel
theorem d4_96 : decode prog_40_method_1_code 96 = .ok (.aload_n 0, 1) := by decide +kernel
theorem d4_97 : decode prog_40_method_1_code 97 = .ok (.aload_n 0, 1) := by decide +kernel
theorem d4_98 : decode prog_40_method_1_code 98 = .ok (.getfield 7, 3) := by decide +kernel
theorem d4_101 : decode prog_40_method_1_code 101 = .ok (.iload_n 3, 1) := by decide +kernel
theorem d4_102 : decode prog_40_method_1_code 102 = .ok (.iaload, 1) := by decide +kernel
theorem d4_103 : decode prog_40_method_1_code 103 = .ok (.newarray .int, 2) := by decide +kernel
theorem d4_105 : decode prog_40_method_1_code 105 = .ok (.putfield 20, 3) := by decide +kernel
theorem d4_108 : decode prog_40_method_1_code 108 = .ok (.iconst 0, 1) := by decide +kernel
theorem d4_109 : decode prog_40_method_1_code 109 = .ok (.istore 4, 2) := by decide +kernel
theorem d4_111 : decode prog_40_method_1_code 111 = .ok (.iload 4, 2) := by decide +kernel
theorem d4_113 : decode prog_40_method_1_code 113 = .ok (.iload_n 3, 1) := by decide +kernel
theorem d4_114 : decode prog_40_method_1_code 114 = .ok (.if_icmp .ge 44, 3) := by decide +kernel
theorem d4_117 : decode prog_40_method_1_code 117 = .ok (.iconst 0, 1) := by decide +kernel
theorem d4_118 : decode prog_40_method_1_code 118 = .ok (.istore 5, 2) := by decide +kernel
theorem d4_120 : decode prog_40_method_1_code 120 = .ok (.iload 5, 2) := by decide +kernel
theorem d4_122 : decode prog_40_method_1_code 122 = .ok (.iload_n 2, 1) := by decide +kernel
theorem d4_123 : decode prog_40_method_1_code 123 = .ok (.if_icmp .ge 29, 3) := by decide +kernel
theorem d4_126 : decode prog_40_method_1_code 126 = .ok (.aload_n 1, 1) := by decide +kernel
theorem d4_127 : decode prog_40_method_1_code 127 = .ok (.iload 4, 2) := by decide +kernel
theorem d4_129 : decode prog_40_method_1_code 129 = .ok (.iload_n 2, 1) := by decide +kernel
theorem d4_130 : decode prog_40_method_1_code 130 = .ok (.imul, 1) := by decide +kernel
theorem d4_131 : decode prog_40_method_1_code 131 = .ok (.iload 5, 2) := by decide +kernel
theorem d4_133 : decode prog_40_method_1_code 133 = .ok (.iadd, 1) := by decide +kernel
theorem d4_134 : decode prog_40_method_1_code 134 = .ok (.iaload, 1) := by decide +kernel
theorem d4_135 : decode prog_40_method_1_code 135 = .ok (.ifCond .le 11, 3) := by decide +kernel
theorem d4_138 : decode prog_40_method_1_code 138 = .ok (.aload_n 0, 1) := by decide +kernel
theorem d4_139 : decode prog_40_method_1_code 139 = .ok (.iload 4, 2) := by decide +kernel
theorem d4_141 : decode prog_40_method_1_code 141 = .ok (.iload 5, 2) := by decide +kernel
theorem d4_143 : decode prog_40_method_1_code 143 = .ok (.invokevirtual 23, 3) := by decide +kernel
theorem d4_146 : decode prog_40_method_1_code 146 = .ok (.iinc 5 1, 3) := by decide +kernel
theorem d4_149 : decode prog_40_method_1_code 149 = .ok (.goto (-29), 3) := by decide +kernel
theorem d4_152 : decode prog_40_method_1_code 152 = .ok (.iinc 4 1, 3) := by decide +kernel
theorem d4_155 : decode prog_40_method_1_code 155 = .ok (.goto (-44), 3) := by decide +kernel
theorem d4_158 : decode prog_40_method_1_code 158 = .ok (.return_, 1) := by decide +kernel
theorem d5_0 : decode object_method_1_code 0 = .ok (.return_, 1) := by decide +kernel
theorem d6_0 : decode prog_40_method_3_code 0 = .ok (.iload_n 2, 1) := by decide +kernel
theorem d6_1 : decode prog_40_method_3_code 1 = .ok (.i2l, 1) := by decide +kernel
theorem d6_2 : decode prog_40_method_3_code 2 = .ok (.lload_n 0, 1) := by decide +kernel
theorem d6_3 : decode prog_40_method_3_code 3 = .ok (.invokestatic 39, 3) := by decide +kernel
theorem d6_6 : decode prog_40_method_3_code 6 = .ok (.l2i, 1) := by decide +kernel
theorem d6_7 : decode prog_40_method_3_code 7 = .ok (.ireturn, 1) := by decide +kernel
theorem d7_0 : decode jdk_29_method_70_code 0 = .ok (.lload_n 0, 1) := by decide +kernel
theorem d7_1 : decode jdk_29_method_70_code 1 = .ok (.lload_n 2, 1) := by decide +kernel
theorem d7_2 : decode jdk_29_method_70_code 2 = .ok (.lcmp, 1) := by decide +kernel
theorem d7_3 : decode jdk_29_method_70_code 3 = .ok (.ifCond .gt 7, 3) := by decide +kernel
theorem d7_6 : decode jdk_29_method_70_code 6 = .ok (.lload_n 0, 1) := by decide +kernel
theorem d7_7 : decode jdk_29_method_70_code 7 = .ok (.goto 4, 3) := by decide +kernel
theorem d7_10 : decode jdk_29_method_70_code 10 = .ok (.lload_n 2, 1) := by decide +kernel
theorem d7_11 : decode jdk_29_method_70_code 11 = .ok (.lreturn, 1) := by decide +kernel
theorem d8_0 : decode prog_40_method_6_code 0 = .ok (.aload_n 0, 1) := by decide +kernel
theorem d8_1 : decode prog_40_method_6_code 1 = .ok (.getfield 20, 3) := by decide +kernel
theorem d8_4 : decode prog_40_method_6_code 4 = .ok (.aload_n 0, 1) := by decide +kernel
theorem d8_5 : decode prog_40_method_6_code 5 = .ok (.getfield 7, 3) := by decide +kernel
theorem d8_8 : decode prog_40_method_6_code 8 = .ok (.iload_n 1, 1) := by decide +kernel
theorem d8_9 : decode prog_40_method_6_code 9 = .ok (.iaload, 1) := by decide +kernel
theorem d8_10 : decode prog_40_method_6_code 10 = .ok (.aload_n 0, 1) := by decide +kernel
theorem d8_11 : decode prog_40_method_6_code 11 = .ok (.getfield 13, 3) := by decide +kernel
theorem d8_14 : decode prog_40_method_6_code 14 = .ok (.iload_n 1, 1) := by decide +kernel
theorem d8_15 : decode prog_40_method_6_code 15 = .ok (.iaload, 1) := by decide +kernel
theorem d8_16 : decode prog_40_method_6_code 16 = .ok (.iadd, 1) := by decide +kernel
theorem d8_17 : decode prog_40_method_6_code 17 = .ok (.iload_n 2, 1) := by decide +kernel
theorem d8_18 : decode prog_40_method_6_code 18 = .ok (.iastore, 1) := by decide +kernel
theorem d8_19 : decode prog_40_method_6_code 19 = .ok (.aload_n 0, 1) := by decide +kernel
theorem d8_20 : decode prog_40_method_6_code 20 = .ok (.getfield 13, 3) := by decide +kernel
theorem d8_23 : decode prog_40_method_6_code 23 = .ok (.iload_n 1, 1) := by decide +kernel
theorem d8_24 : decode prog_40_method_6_code 24 = .ok (.dup2, 1) := by decide +kernel
theorem d8_25 : decode prog_40_method_6_code 25 = .ok (.iaload, 1) := by decide +kernel
theorem d8_26 : decode prog_40_method_6_code 26 = .ok (.iconst 1, 1) := by decide +kernel
theorem d8_27 : decode prog_40_method_6_code 27 = .ok (.iadd, 1) := by decide +kernel
theorem d8_28 : decode prog_40_method_6_code 28 = .ok (.iastore, 1) := by decide +kernel
theorem d8_29 : decode prog_40_method_6_code 29 = .ok (.return_, 1) := by decide +kernel
theorem d9_0 : decode prog_40_method_7_code 0 = .ok (.aload_n 0, 1) := by decide +kernel
theorem d9_1 : decode prog_40_method_7_code 1 = .ok (.getfield 7, 3) := by decide +kernel
theorem d9_4 : decode prog_40_method_7_code 4 = .ok (.iload_n 1, 1) := by decide +kernel
theorem d9_5 : decode prog_40_method_7_code 5 = .ok (.iaload, 1) := by decide +kernel
theorem d9_6 : decode prog_40_method_7_code 6 = .ok (.istore_n 3, 1) := by decide +kernel
theorem d9_7 : decode prog_40_method_7_code 7 = .ok (.aload_n 0, 1) := by decide +kernel
theorem d9_8 : decode prog_40_method_7_code 8 = .ok (.getfield 20, 3) := by decide +kernel
theorem d9_11 : decode prog_40_method_7_code 11 = .ok (.iload_n 3, 1) := by decide +kernel
theorem d9_12 : decode prog_40_method_7_code 12 = .ok (.iaload, 1) := by decide +kernel
theorem d9_13 : decode prog_40_method_7_code 13 = .ok (.iload_n 2, 1) := by decide +kernel
theorem d9_14 : decode prog_40_method_7_code 14 = .ok (.if_icmp .eq 9, 3) := by decide +kernel
theorem d9_17 : decode prog_40_method_7_code 17 = .ok (.iinc 3 1, 3) := by decide +kernel
theorem d9_20 : decode prog_40_method_7_code 20 = .ok (.goto (-13), 3) := by decide +kernel
theorem d9_23 : decode prog_40_method_7_code 23 = .ok (.aload_n 0, 1) := by decide +kernel
theorem d9_24 : decode prog_40_method_7_code 24 = .ok (.getfield 13, 3) := by decide +kernel
theorem d9_27 : decode prog_40_method_7_code 27 = .ok (.iload_n 1, 1) := by decide +kernel
theorem d9_28 : decode prog_40_method_7_code 28 = .ok (.dup2, 1) := by decide +kernel
theorem d9_29 : decode prog_40_method_7_code 29 = .ok (.iaload, 1) := by decide +kernel
theorem d9_30 : decode prog_40_method_7_code 30 = .ok (.iconst 1, 1) := by decide +kernel
theorem d9_31 : decode prog_40_method_7_code 31 = .ok (.isub, 1) := by decide +kernel
theorem d9_32 : decode prog_40_method_7_code 32 = .ok (.iastore, 1) := by decide +kernel
theorem d9_33 : decode prog_40_method_7_code 33 = .ok (.aload_n 0, 1) := by decide +kernel
theorem d9_34 : decode prog_40_method_7_code 34 = .ok (.getfield 20, 3) := by decide +kernel
theorem d9_37 : decode prog_40_method_7_code 37 = .ok (.iload_n 3, 1) := by decide +kernel
theorem d9_38 : decode prog_40_method_7_code 38 = .ok (.aload_n 0, 1) := by decide +kernel
theorem d9_39 : decode prog_40_method_7_code 39 = .ok (.getfield 20, 3) := by decide +kernel
theorem d9_42 : decode prog_40_method_7_code 42 = .ok (.aload_n 0, 1) := by decide +kernel
theorem d9_43 : decode prog_40_method_7_code 43 = .ok (.getfield 7, 3) := by decide +kernel
theorem d9_46 : decode prog_40_method_7_code 46 = .ok (.iload_n 1, 1) := by decide +kernel
theorem d9_47 : decode prog_40_method_7_code 47 = .ok (.iaload, 1) := by decide +kernel
theorem d9_48 : decode prog_40_method_7_code 48 = .ok (.aload_n 0, 1) := by decide +kernel
theorem d9_49 : decode prog_40_method_7_code 49 = .ok (.getfield 13, 3) := by decide +kernel
theorem d9_52 : decode prog_40_method_7_code 52 = .ok (.iload_n 1, 1) := by decide +kernel
theorem d9_53 : decode prog_40_method_7_code 53 = .ok (.iaload, 1) := by decide +kernel
theorem d9_54 : decode prog_40_method_7_code 54 = .ok (.iadd, 1) := by decide +kernel
theorem d9_55 : decode prog_40_method_7_code 55 = .ok (.iaload, 1) := by decide +kernel
theorem d9_56 : decode prog_40_method_7_code 56 = .ok (.iastore, 1) := by decide +kernel
theorem d9_57 : decode prog_40_method_7_code 57 = .ok (.return_, 1) := by decide +kernel
theorem d10_0 : decode method_4_code 0 = .ok (.iconst 1, 1) := by decide +kernel
theorem d10_1 : decode method_4_code 1 = .ok (.istore_n 3, 1) := by decide +kernel
theorem d10_2 : decode method_4_code 2 = .ok (.iload_n 2, 1) := by decide +kernel
theorem d10_3 : decode method_4_code 3 = .ok (.ifCond .le 22, 3) := by decide +kernel
theorem d10_6 : decode method_4_code 6 = .ok (.iload_n 3, 1) := by decide +kernel
theorem d10_7 : decode method_4_code 7 = .ok (.ifCond .eq 16, 3) := by decide +kernel
theorem d10_10 : decode method_4_code 10 = .ok (.aload_n 0, 1) := by decide +kernel
theorem d10_11 : decode method_4_code 11 = .ok (.iconst 0, 1) := by decide +kernel
theorem d10_12 : decode method_4_code 12 = .ok (.iaload, 1) := by decide +kernel
theorem d10_13 : decode method_4_code 13 = .ok (.aload_n 1, 1) := by decide +kernel
theorem d10_14 : decode method_4_code 14 = .ok (.iconst 0, 1) := by decide +kernel
theorem d10_15 : decode method_4_code 15 = .ok (.iaload, 1) := by decide +kernel
theorem d10_16 : decode method_4_code 16 = .ok (.if_icmp .ne 7, 3) := by decide +kernel
theorem d10_19 : decode method_4_code 19 = .ok (.iconst 1, 1) := by decide +kernel
theorem d10_20 : decode method_4_code 20 = .ok (.goto 4, 3) := by decide +kernel
theorem d10_23 : decode method_4_code 23 = .ok (.iconst 0, 1) := by decide +kernel
theorem d10_24 : decode method_4_code 24 = .ok (.istore_n 3, 1) := by decide +kernel
theorem d10_25 : decode method_4_code 25 = .ok (.iload_n 2, 1) := by decide +kernel
theorem d10_26 : decode method_4_code 26 = .ok (.iconst 1, 1) := by decide +kernel
theorem d10_27 : decode method_4_code 27 = .ok (.if_icmp .le 22, 3) := by decide +kernel
theorem d10_30 : decode method_4_code 30 = .ok (.iload_n 3, 1) := by decide +kernel
theorem d10_31 : decode method_4_code 31 = .ok (.ifCond .eq 16, 3) := by decide +kernel
theorem d10_34 : decode method_4_code 34 = .ok (.aload_n 0, 1) := by decide +kernel
theorem d10_35 : decode method_4_code 35 = .ok (.iconst 1, 1) := by decide +kernel
theorem d10_36 : decode method_4_code 36 = .ok (.iaload, 1) := by decide +kernel
theorem d10_37 : decode method_4_code 37 = .ok (.aload_n 1, 1) := by decide +kernel
theorem d10_38 : decode method_4_code 38 = .ok (.iconst 1, 1) := by decide +kernel
theorem d10_39 : decode method_4_code 39 = .ok (.iaload, 1) := by decide +kernel
theorem d10_40 : decode method_4_code 40 = .ok (.if_icmp .ne 7, 3) := by decide +kernel
theorem d10_43 : decode method_4_code 43 = .ok (.iconst 1, 1) := by decide +kernel
theorem d10_44 : decode method_4_code 44 = .ok (.goto 4, 3) := by decide +kernel
theorem d10_47 : decode method_4_code 47 = .ok (.iconst 0, 1) := by decide +kernel
theorem d10_48 : decode method_4_code 48 = .ok (.istore_n 3, 1) := by decide +kernel
theorem d10_49 : decode method_4_code 49 = .ok (.iload_n 2, 1) := by decide +kernel
theorem d10_50 : decode method_4_code 50 = .ok (.iconst 2, 1) := by decide +kernel
theorem d10_51 : decode method_4_code 51 = .ok (.if_icmp .le 22, 3) := by decide +kernel
theorem d10_54 : decode method_4_code 54 = .ok (.iload_n 3, 1) := by decide +kernel
theorem d10_55 : decode method_4_code 55 = .ok (.ifCond .eq 16, 3) := by decide +kernel
theorem d10_58 : decode method_4_code 58 = .ok (.aload_n 0, 1) := by decide +kernel
theorem d10_59 : decode method_4_code 59 = .ok (.iconst 2, 1) := by decide +kernel
theorem d10_60 : decode method_4_code 60 = .ok (.iaload, 1) := by decide +kernel
theorem d10_61 : decode method_4_code 61 = .ok (.aload_n 1, 1) := by decide +kernel
theorem d10_62 : decode method_4_code 62 = .ok (.iconst 2, 1) := by decide +kernel
theorem d10_63 : decode method_4_code 63 = .ok (.iaload, 1) := by decide +kernel
theorem d10_64 : decode method_4_code 64 = .ok (.if_icmp .ne 7, 3) := by decide +kernel
theorem d10_67 : decode method_4_code 67 = .ok (.iconst 1, 1) := by decide +kernel
theorem d10_68 : decode method_4_code 68 = .ok (.goto 4, 3) := by decide +kernel
theorem d10_71 : decode method_4_code 71 = .ok (.iconst 0, 1) := by decide +kernel
theorem d10_72 : decode method_4_code 72 = .ok (.istore_n 3, 1) := by decide +kernel
theorem d10_73 : decode method_4_code 73 = .ok (.iload_n 2, 1) := by decide +kernel
theorem d10_74 : decode method_4_code 74 = .ok (.iconst 3, 1) := by decide +kernel
theorem d10_75 : decode method_4_code 75 = .ok (.if_icmp .le 22, 3) := by decide +kernel
theorem d10_78 : decode method_4_code 78 = .ok (.iload_n 3, 1) := by decide +kernel
theorem d10_79 : decode method_4_code 79 = .ok (.ifCond .eq 16, 3) := by decide +kernel
theorem d10_82 : decode method_4_code 82 = .ok (.aload_n 0, 1) := by decide +kernel
theorem d10_83 : decode method_4_code 83 = .ok (.iconst 3, 1) := by decide +kernel
theorem d10_84 : decode method_4_code 84 = .ok (.iaload, 1) := by decide +kernel
theorem d10_85 : decode method_4_code 85 = .ok (.aload_n 1, 1) := by decide +kernel
theorem d10_86 : decode method_4_code 86 = .ok (.iconst 3, 1) := by decide +kernel
theorem d10_87 : decode method_4_code 87 = .ok (.iaload, 1) := by decide +kernel
theorem d10_88 : decode method_4_code 88 = .ok (.if_icmp .ne 7, 3) := by decide +kernel
theorem d10_91 : decode method_4_code 91 = .ok (.iconst 1, 1) := by decide +kernel
theorem d10_92 : decode method_4_code 92 = .ok (.goto 4, 3) := by decide +kernel
theorem d10_95 : decode method_4_code 95 = .ok (.iconst 0, 1) := by decide +kernel
theorem d10_96 : decode method_4_code 96 = .ok (.istore_n 3, 1) := by decide +kernel
theorem d10_97 : decode method_4_code 97 = .ok (.iload_n 2, 1) := by decide +kernel
theorem d10_98 : decode method_4_code 98 = .ok (.iconst 4, 1) := by decide +kernel
theorem d10_99 : decode method_4_code 99 = .ok (.if_icmp .le 22, 3) := by decide +kernel
theorem d10_102 : decode method_4_code 102 = .ok (.iload_n 3, 1) := by decide +kernel
theorem d10_103 : decode method_4_code 103 = .ok (.ifCond .eq 16, 3) := by decide +kernel
theorem d10_106 : decode method_4_code 106 = .ok (.aload_n 0, 1) := by decide +kernel
theorem d10_107 : decode method_4_code 107 = .ok (.iconst 4, 1) := by decide +kernel
theorem d10_108 : decode method_4_code 108 = .ok (.iaload, 1) := by decide +kernel
theorem d10_109 : decode method_4_code 109 = .ok (.aload_n 1, 1) := by decide +kernel
theorem d10_110 : decode method_4_code 110 = .ok (.iconst 4, 1) := by decide +kernel
theorem d10_111 : decode method_4_code 111 = .ok (.iaload, 1) := by decide +kernel
theorem d10_112 : decode method_4_code 112 = .ok (.if_icmp .ne 7, 3) := by decide +kernel
theorem d10_115 : decode method_4_code 115 = .ok (.iconst 1, 1) := by decide +kernel
theorem d10_116 : decode method_4_code 116 = .ok (.goto 4, 3) := by decide +kernel
theorem d10_119 : decode method_4_code 119 = .ok (.iconst 0, 1) := by decide +kernel
theorem d10_120 : decode method_4_code 120 = .ok (.istore_n 3, 1) := by decide +kernel
theorem d10_121 : decode method_4_code 121 = .ok (.iload_n 2, 1) := by decide +kernel
theorem d10_122 : decode method_4_code 122 = .ok (.iconst 5, 1) := by decide +kernel
theorem d10_123 : decode method_4_code 123 = .ok (.if_icmp .le 22, 3) := by decide +kernel
theorem d10_126 : decode method_4_code 126 = .ok (.iload_n 3, 1) := by decide +kernel
theorem d10_127 : decode method_4_code 127 = .ok (.ifCond .eq 16, 3) := by decide +kernel
theorem d10_130 : decode method_4_code 130 = .ok (.aload_n 0, 1) := by decide +kernel
theorem d10_131 : decode method_4_code 131 = .ok (.iconst 5, 1) := by decide +kernel
theorem d10_132 : decode method_4_code 132 = .ok (.iaload, 1) := by decide +kernel
theorem d10_133 : decode method_4_code 133 = .ok (.aload_n 1, 1) := by decide +kernel
theorem d10_134 : decode method_4_code 134 = .ok (.iconst 5, 1) := by decide +kernel
theorem d10_135 : decode method_4_code 135 = .ok (.iaload, 1) := by decide +kernel
theorem d10_136 : decode method_4_code 136 = .ok (.if_icmp .ne 7, 3) := by decide +kernel
theorem d10_139 : decode method_4_code 139 = .ok (.iconst 1, 1) := by decide +kernel
theorem d10_140 : decode method_4_code 140 = .ok (.goto 4, 3) := by decide +kernel
theorem d10_143 : decode method_4_code 143 = .ok (.iconst 0, 1) := by decide +kernel
theorem d10_144 : decode method_4_code 144 = .ok (.istore_n 3, 1) := by decide +kernel
theorem d10_145 : decode method_4_code 145 = .ok (.iload_n 2, 1) := by decide +kernel
theorem d10_146 : decode method_4_code 146 = .ok (.bipush 6, 2) := by decide +kernel
theorem d10_148 : decode method_4_code 148 = .ok (.if_icmp .le 24, 3) := by decide +kernel
theorem d10_151 : decode method_4_code 151 = .ok (.iload_n 3, 1) := by decide +kernel
theorem d10_152 : decode method_4_code 152 = .ok (.ifCond .eq 18, 3) := by decide +kernel
theorem d10_155 : decode method_4_code 155 = .ok (.aload_n 0, 1) := by decide +kernel
theorem d10_156 : decode method_4_code 156 = .ok (.bipush 6, 2) := by decide +kernel
theorem d10_158 : decode method_4_code 158 = .ok (.iaload, 1) := by decide +kernel
theorem d10_159 : decode method_4_code 159 = .ok (.aload_n 1, 1) := by decide +kernel
theorem d10_160 : decode method_4_code 160 = .ok (.bipush 6, 2) := by decide +kernel
theorem d10_162 : decode method_4_code 162 = .ok (.iaload, 1) := by decide +kernel
theorem d10_163 : decode method_4_code 163 = .ok (.if_icmp .ne 7, 3) := by decide +kernel
theorem d10_166 : decode method_4_code 166 = .ok (.iconst 1, 1) := by decide +kernel
theorem d10_167 : decode method_4_code 167 = .ok (.goto 4, 3) := by decide +kernel
theorem d10_170 : decode method_4_code 170 = .ok (.iconst 0, 1) := by decide +kernel
theorem d10_171 : decode method_4_code 171 = .ok (.istore_n 3, 1) := by decide +kernel
theorem d10_172 : decode method_4_code 172 = .ok (.iload_n 2, 1) := by decide +kernel
theorem d10_173 : decode method_4_code 173 = .ok (.bipush 7, 2) := by decide +kernel
theorem d10_175 : decode method_4_code 175 = .ok (.if_icmp .le 24, 3) := by decide +kernel
theorem d10_178 : decode method_4_code 178 = .ok (.iload_n 3, 1) := by decide +kernel
theorem d10_179 : decode method_4_code 179 = .ok (.ifCond .eq 18, 3) := by decide +kernel
theorem d10_182 : decode method_4_code 182 = .ok (.aload_n 0, 1) := by decide +kernel
theorem d10_183 : decode method_4_code 183 = .ok (.bipush 7, 2) := by decide +kernel
theorem d10_185 : decode method_4_code 185 = .ok (.iaload, 1) := by decide +kernel
theorem d10_186 : decode method_4_code 186 = .ok (.aload_n 1, 1) := by decide +kernel
theorem d10_187 : decode method_4_code 187 = .ok (.bipush 7, 2) := by decide +kernel
theorem d10_189 : decode method_4_code 189 = .ok (.iaload, 1) := by decide +kernel
theorem d10_190 : decode method_4_code 190 = .ok (.if_icmp .ne 7, 3) := by decide +kernel
theorem d10_193 : decode method_4_code 193 = .ok (.iconst 1, 1) := by decide +kernel
theorem d10_194 : decode method_4_code 194 = .ok (.goto 4, 3) := by decide +kernel
theorem d10_197 : decode method_4_code 197 = .ok (.iconst 0, 1) := by decide +kernel
theorem d10_198 : decode method_4_code 198 = .ok (.istore_n 3, 1) := by decide +kernel
theorem d10_199 : decode method_4_code 199 = .ok (.iload_n 3, 1) := by decide +kernel
theorem d10_200 : decode method_4_code 200 = .ok (.ireturn, 1) := by decide +kernel
theorem d11_0 : decode prog_40_method_5_code 0 = .ok (.aload_n 0, 1) := by decide +kernel
theorem d11_1 : decode prog_40_method_5_code 1 = .ok (.getfield 13, 3) := by decide +kernel
theorem d11_4 : decode prog_40_method_5_code 4 = .ok (.iload_n 1, 1) := by decide +kernel
theorem d11_5 : decode prog_40_method_5_code 5 = .ok (.iaload, 1) := by decide +kernel
theorem d11_6 : decode prog_40_method_5_code 6 = .ok (.ireturn, 1) := by decide +kernel
theorem d12_0 : decode prog_40_method_4_code 0 = .ok (.aload_n 0, 1) := by decide +kernel
theorem d12_1 : decode prog_40_method_4_code 1 = .ok (.getfield 7, 3) := by decide +kernel
theorem d12_4 : decode prog_40_method_4_code 4 = .ok (.iload_n 1, 1) := by decide +kernel
theorem d12_5 : decode prog_40_method_4_code 5 = .ok (.iaload, 1) := by decide +kernel
theorem d12_6 : decode prog_40_method_4_code 6 = .ok (.ireturn, 1) := by decide +kernel
theorem pf_1 : plainFor (⟨"java/lang/Math", "min", "(II)I"⟩ : MethodName) = true := by decide +kernel
theorem pf_7 : plainFor (⟨"java/lang/Math", "min", "(JJ)J"⟩ : MethodName) = true := by decide +kernel
theorem pn_1 : plainName "com/example/palamedes/palamedes/lda/NonzeroTopicsRemovePinLaw" = true := by first | (simp [plainName, overriddenIn]; done) | decide +kernel
theorem pn_2 : plainName "com/example/palamedes/palamedes/lda/NonzeroTopics" = true := by first | (simp [plainName, overriddenIn]; done) | decide +kernel
theorem pd_1 : parseMethodDescriptor "(II)I" = some ⟨[.int, .int], (some .int)⟩ := by decide +kernel
theorem pd_2 : parseMethodDescriptor "([II[I)I" = some ⟨[(.array .int), .int, (.array .int)], (some .int)⟩ := by decide +kernel
theorem pd_3 : parseMethodDescriptor "([II[II)V" = some ⟨[(.array .int), .int, (.array .int), .int], none⟩ := by decide +kernel
theorem pd_4 : parseMethodDescriptor "([II)V" = some ⟨[(.array .int), .int], none⟩ := by decide +kernel
theorem pd_5 : parseMethodDescriptor "()V" = some ⟨[], none⟩ := by decide +kernel
theorem pd_6 : parseMethodDescriptor "(JI)I" = some ⟨[.long, .int], (some .int)⟩ := by decide +kernel
theorem pd_7 : parseMethodDescriptor "(JJ)J" = some ⟨[.long, .long], (some .long)⟩ := by decide +kernel
theorem pd_8 : parseMethodDescriptor "(II)V" = some ⟨[.int, .int], none⟩ := by decide +kernel
theorem pd_9 : parseMethodDescriptor "(II)V" = some ⟨[.int, .int], none⟩ := by decide +kernel
theorem pd_10 : parseMethodDescriptor "([I[II)Z" = some ⟨[(.array .int), (.array .int), .int], (some .boolean)⟩ := by decide +kernel
theorem pd_11 : parseMethodDescriptor "(I)I" = some ⟨[.int], (some .int)⟩ := by decide +kernel
theorem pd_12 : parseMethodDescriptor "(I)I" = some ⟨[.int], (some .int)⟩ := by decide +kernel
def f_min (x z : Int32) : Int32 := if z < x then z else x
def f_minL (x z : Int64) : Int64 := if 0 < XT.cmpL x z then z else x
def f_room (s : Int64) (k : Int32) : Int32 := Int64.toInt32 (f_minL (Int32.toInt64 k) s)
def f_st (q : List Int32 × Nat) (x t : Int32) : List Int32 × Nat := if 0 < x then (q.1.set q.2 t, q.2 + 1) else q
def f_r0 : List Int32 × Nat := ([0, 0, 0, 0], 0)
def f_r1 (x0 : Int32) : List Int32 × Nat := f_st f_r0 x0 0
def f_r2 (x0 x1 : Int32) : List Int32 × Nat := f_st (f_r1 x0) x1 1
def f_r3 (x0 x1 x2 : Int32) : List Int32 × Nat := f_st (f_r2 x0 x1) x2 2
def f_r4 (x0 x1 x2 x3 : Int32) : List Int32 × Nat := f_st (f_r3 x0 x1 x2) x3 3
def f_F (x0 x1 x2 x3 p0 p1 p2 p3 xn : Int32) : Prop := (f_r4 x0 x1 x2 x3).1 = [p0, p1, p2, p3] ∧ xn.toInt = ((f_r4 x0 x1 x2 x3).2 : Int)
theorem v_st_len (q : List Int32 × Nat) (x t : Int32) (h : q.1.length = 4) : (f_st q x t).1.length = 4 := by unfold f_st; split <;> simp [h]
theorem v_st_le (q : List Int32 × Nat) (x t : Int32) : q.2 ≤ (f_st q x t).2 ∧ (f_st q x t).2 ≤ q.2 + 1 := by unfold f_st; split <;> constructor <;> simp
theorem v_len0 : f_r0.1.length = 4 := rfl
theorem v_len1 (x0 : Int32) : (f_r1 x0).1.length = 4 := v_st_len _ _ _ rfl
theorem v_len2 (x0 x1 : Int32) : (f_r2 x0 x1).1.length = 4 := v_st_len _ _ _ (v_len1 _)
theorem v_len3 (x0 x1 x2 : Int32) : (f_r3 x0 x1 x2).1.length = 4 := v_st_len _ _ _ (v_len2 _ _)
theorem v_len4 (x0 x1 x2 x3 : Int32) : (f_r4 x0 x1 x2 x3).1.length = 4 := v_st_len _ _ _ (v_len3 _ _ _)
theorem v_le1 (x0 : Int32) : f_r0.2 ≤ (f_r1 x0).2 ∧ (f_r1 x0).2 ≤ f_r0.2 + 1 := v_st_le _ _ _
theorem v_le2 (x0 x1 : Int32) : (f_r1 x0).2 ≤ (f_r2 x0 x1).2 ∧ (f_r2 x0 x1).2 ≤ (f_r1 x0).2 + 1 := v_st_le _ _ _
theorem v_le3 (x0 x1 x2 : Int32) : (f_r2 x0 x1).2 ≤ (f_r3 x0 x1 x2).2 ∧ (f_r3 x0 x1 x2).2 ≤ (f_r2 x0 x1).2 + 1 := v_st_le _ _ _
theorem v_le4 (x0 x1 x2 x3 : Int32) : (f_r3 x0 x1 x2).2 ≤ (f_r4 x0 x1 x2 x3).2 ∧ (f_r4 x0 x1 x2 x3).2 ≤ (f_r3 x0 x1 x2).2 + 1 := v_st_le _ _ _
theorem v_yes (q : List Int32 × Nat) (x t : Int32) (h : 0 < x) : f_st q x t = (q.1.set q.2 t, q.2 + 1) := by unfold f_st; rw [if_pos h]
theorem v_no (q : List Int32 × Nat) (x t : Int32) (h : ¬ 0 < x) : f_st q x t = q := by unfold f_st; rw [if_neg h]
theorem v_n4 (x0 x1 x2 x3 : Int32) : (f_r4 x0 x1 x2 x3).2 ≤ 4 := by
  have := v_le1 x0; have := v_le2 x0 x1; have := v_le3 x0 x1 x2; have := v_le4 x0 x1 x2 x3
  have : f_r0.2 = 0 := rfl
  omega
/-- the sums: the number of the positive ones is at most their sum -/
theorem v_st_sum (q : List Int32 × Nat) (x t : Int32) (S : Int) (hq : (q.2 : Int) ≤ S) (h0 : 0 ≤ x.toInt) : ((f_st q x t).2 : Int) ≤ S + x.toInt := by
  unfold f_st; split
  · rename_i h; rw [Int32.lt_iff_toInt_lt, show (0 : Int32).toInt = 0 from rfl] at h; simp only; omega
  · omega
theorem v_sum (x0 x1 x2 x3 : Int32) (h0 : 0 ≤ x0.toInt) (h1 : 0 ≤ x1.toInt) (h2 : 0 ≤ x2.toInt) (h3 : 0 ≤ x3.toInt) : ((f_r4 x0 x1 x2 x3).2 : Int) ≤ x0.toInt + x1.toInt + x2.toInt + x3.toInt :=
  v_st_sum _ _ _ _ (v_st_sum _ _ _ _ (v_st_sum _ _ _ _ (by have := v_st_sum f_r0 x0 0 0 (by decide) h0; rw [Int.zero_add] at this; exact this) h1) h2) h3
def f_ok (x : Int32) : Prop := 0 ≤ x.toInt ∧ x.toInt ≤ 3
theorem v_sumI (x0 x1 x2 x3 : Int32) (h0 : f_ok x0) (h1 : f_ok x1) (h2 : f_ok x2) (h3 : f_ok x3) : (((x0 + x1) + x2) + x3).toInt = x0.toInt + x1.toInt + x2.toInt + x3.toInt := by
  unfold f_ok at *
  have a := Jvm.Kit.i32_add (p := x0) (q := x1) (by omega) (by omega)
  have b := Jvm.Kit.i32_add (p := x0 + x1) (q := x2) (by omega) (by omega)
  have c := Jvm.Kit.i32_add (p := x0 + x1 + x2) (q := x3) (by omega) (by omega)
  omega
theorem v_min4 (x0 x1 x2 x3 : Int32) (h0 : f_ok x0) (h1 : f_ok x1) (h2 : f_ok x2) (h3 : f_ok x3) : (f_min 4 (((x0 + x1) + x2) + x3)).toInt = (if x0.toInt + x1.toInt + x2.toInt + x3.toInt < 4 then x0.toInt + x1.toInt + x2.toInt + x3.toInt else 4) := by
  have s := v_sumI x0 x1 x2 x3 h0 h1 h2 h3
  unfold f_min; simp only [Int32.lt_iff_toInt_lt, s, show (4 : Int32).toInt = 4 from rfl]; split
  · exact s
  · rfl
theorem v_sumL (x0 x1 x2 x3 : Int32) : (((((0 : Int64) + (Int32.toInt64 x0)) + (Int32.toInt64 x1)) + (Int32.toInt64 x2)) + (Int32.toInt64 x3)).toInt = x0.toInt + x1.toInt + x2.toInt + x3.toInt := by
  have a0 := Int32.toInt_lt x0; have b0 := Int32.le_toInt x0; have a1 := Int32.toInt_lt x1; have b1 := Int32.le_toInt x1; have a2 := Int32.toInt_lt x2; have b2 := Int32.le_toInt x2; have a3 := Int32.toInt_lt x3; have b3 := Int32.le_toInt x3
  have e0 := Jvm.Kit.i64_of_i32 x0; have e1 := Jvm.Kit.i64_of_i32 x1; have e2 := Jvm.Kit.i64_of_i32 x2; have e3 := Jvm.Kit.i64_of_i32 x3
  have z : (0 : Int64).toInt = 0 := rfl
  have c0 := Jvm.Kit.i64_add (x := 0) (y := Int32.toInt64 x0) (by omega) (by omega)
  have c1 := Jvm.Kit.i64_add (x := 0 + Int32.toInt64 x0) (y := Int32.toInt64 x1) (by omega) (by omega)
  have c2 := Jvm.Kit.i64_add (x := 0 + Int32.toInt64 x0 + Int32.toInt64 x1) (y := Int32.toInt64 x2) (by omega) (by omega)
  have c3 := Jvm.Kit.i64_add (x := 0 + Int32.toInt64 x0 + Int32.toInt64 x1 + Int32.toInt64 x2) (y := Int32.toInt64 x3) (by omega) (by omega)
  omega
theorem v_gt (x z : Int64) : 0 < XT.cmpL x z ↔ z < x := by
  unfold XT.cmpL; split <;> (try split) <;> simp_all [Int64.lt_iff_toInt_lt, ← Int64.toInt_inj] <;> omega
theorem v_room (x0 x1 x2 x3 : Int32) (h0 : f_ok x0) (h1 : f_ok x1) (h2 : f_ok x2) (h3 : f_ok x3) : f_room (((((0 : Int64) + (Int32.toInt64 x0)) + (Int32.toInt64 x1)) + (Int32.toInt64 x2)) + (Int32.toInt64 x3)) 4 = f_min 4 (((x0 + x1) + x2) + x3) := by
  apply Int32.toInt_inj.mp
  have s := v_sumL x0 x1 x2 x3
  have m := v_min4 x0 x1 x2 x3 h0 h1 h2 h3
  unfold f_ok at *
  unfold f_room f_minL
  rw [m]
  simp only [v_gt, Int64.lt_iff_toInt_lt, s, show (Int32.toInt64 4).toInt = 4 from rfl]
  split
  · rename_i h; rw [Jvm.Kit.i32_of_i64 (by rw [s]; omega) (by rw [s]; omega), s]
  · rfl
/-- the rooms as plain numbers -/
theorem v_r (x0 x1 x2 x3 : Int32) (h0 : f_ok x0) (h1 : f_ok x1) (h2 : f_ok x2) (h3 : f_ok x3) : ∃ r : Nat, (f_min 4 (((x0 + x1) + x2) + x3)).toInt = r ∧ r ≤ 4 ∧ (f_r4 x0 x1 x2 x3).2 ≤ r := by
  have m := v_min4 x0 x1 x2 x3 h0 h1 h2 h3
  have s := v_sum x0 x1 x2 x3 h0.1 h1.1 h2.1 h3.1
  have n := v_n4 x0 x1 x2 x3
  unfold f_ok at *
  refine ⟨(f_min 4 (((x0 + x1) + x2) + x3)).toInt.toNat, ?_, ?_, ?_⟩
  · rw [m]; split <;> omega
  · rw [m]; split <;> omega
  · rw [m]; split <;> omega
/-! the topics' array: the two rows' rooms, one behind the other -/
theorem v_rep (r0 r1 : Nat) (h0 : r0 ≤ 4) (h1 : r1 ≤ 4) : List.replicate (r0 + r1) (0 : Int32) = List.take r0 f_r0.1 ++ List.take r1 f_r0.1 := by
  have e : f_r0.1 = List.replicate 4 (0 : Int32) := rfl
  rw [e, List.take_replicate, List.take_replicate, Nat.min_eq_left h0, Nat.min_eq_left h1, List.replicate_append_replicate]
theorem v_tlen (A B : List Int32) (r0 r1 : Nat) (hA : A.length = 4) (hB : B.length = 4) (h0 : r0 ≤ 4) (h1 : r1 ≤ 4) : (List.take r0 A ++ List.take r1 B).length = r0 + r1 := by simp [hA, hB]; omega
theorem v_set0 (A B : List Int32) (r0 r1 m : Nat) (t : Int32) (hA : A.length = 4) (h0 : r0 ≤ 4) (hm : m < r0) : (List.take r0 A ++ List.take r1 B).set m t = List.take r0 (A.set m t) ++ List.take r1 B := by
  rw [List.set_append_left _ _ (by simp [hA]; omega), List.take_set]
theorem v_set1 (A B : List Int32) (r0 r1 m : Nat) (t : Int32) (hA : A.length = 4) (h0 : r0 ≤ 4) : (List.take r0 A ++ List.take r1 B).set (r0 + m) t = List.take r0 A ++ List.take r1 (B.set m t) := by
  have e : (List.take r0 A).length = r0 := by simp [hA]; omega
  rw [List.set_append_right _ _ (by omega), e, Nat.add_sub_cancel_left, List.take_set]
theorem v_get0 (A B : List Int32) (r0 r1 k : Nat) (hA : A.length = 4) (h0 : r0 ≤ 4) (hk : k < r0) : (List.take r0 A ++ List.take r1 B)[k]? = A[k]? := by
  rw [List.getElem?_append_left (by simp [hA]; omega), List.getElem?_take_of_lt hk]
theorem v_get1 (A B : List Int32) (r0 r1 k : Nat) (hA : A.length = 4) (h0 : r0 ≤ 4) (hk : k < r1) : (List.take r0 A ++ List.take r1 B)[r0 + k]? = B[k]? := by
  have e : (List.take r0 A).length = r0 := by simp [hA]; omega
  rw [List.getElem?_append_right (by omega), e, Nat.add_sub_cancel_left, List.getElem?_take_of_lt hk]
/-! what put leaves -/
def f_P (E E' : List Int32) (o n : Nat) (l : List Int32) : Prop := E'.length = E.length ∧ (∀ k, k < n → E'[o + k]? = l[k]?) ∧ ∀ i, (i < o ∨ o + n ≤ i) → E'[i]? = E[i]?
theorem v_P0 (E : List Int32) (o : Nat) (l : List Int32) : f_P E E o 0 l := ⟨rfl, fun k h => absurd h (Nat.not_lt_zero _), fun _ _ => rfl⟩
theorem v_PS (E E' : List Int32) (o n : Nat) (l : List Int32) (p : Int32) (H : f_P E E' o n l) (hp : l[n]? = some p) (hl : o + n < E.length) : f_P E (E'.set (o + n) p) o (n + 1) l := by
  obtain ⟨h1, h2, h3⟩ := H
  refine ⟨by simp [h1], fun k hk => ?_, fun i hi => ?_⟩
  · by_cases e : k = n
    · subst e; rw [List.getElem?_set_self (by omega), hp]
    · rw [List.getElem?_set_ne (by omega), h2 k (by omega)]
  · rw [List.getElem?_set_ne (by omega), h3 i (by omega)]
/-- beyond its number a row's list holds 0 -/
theorem v_st_zero (q : List Int32 × Nat) (x t : Int32) (hl : q.1.length = 4) (hq : ∀ k, q.2 ≤ k → k < 4 → q.1[k]? = some 0) : ∀ k, (f_st q x t).2 ≤ k → k < 4 → (f_st q x t).1[k]? = some 0 := by
  intro k h1 h2
  unfold f_st at *
  split at h1
  · rename_i h; rw [if_pos h]; simp only at h1 ⊢; rw [List.getElem?_set_ne (by omega)]; exact hq k (by omega) h2
  · rename_i h; rw [if_neg h]; exact hq k h1 h2
theorem v_zero (x0 x1 x2 x3 : Int32) : ∀ k, (f_r4 x0 x1 x2 x3).2 ≤ k → k < 4 → (f_r4 x0 x1 x2 x3).1[k]? = some 0 :=
  v_st_zero _ _ _ (v_len3 _ _ _) (v_st_zero _ _ _ (v_len2 _ _) (v_st_zero _ _ _ (v_len1 _) (v_st_zero _ _ _ v_len0 (by
    intro k _ h; have : k = 0 ∨ k = 1 ∨ k = 2 ∨ k = 3 := by omega
    rcases this with rfl | rfl | rfl | rfl <;> rfl))))
/-- the law's own array and the class's agree on the rooms -/
theorem v_E (A B E1 E2 : List Int32) (r0 r1 n0 n1 : Nat) (hA : A.length = 4) (hB : B.length = 4) (h0 : r0 ≤ 4) (h1 : r1 ≤ 4) (hn0 : n0 ≤ r0) (hn1 : n1 ≤ r1) (zA : ∀ k, n0 ≤ k → k < 4 → A[k]? = some 0) (zB : ∀ k, n1 ≤ k → k < 4 → B[k]? = some 0)
    (P1 : f_P (List.replicate 8 0) E1 0 n0 A) (P2 : f_P E1 E2 r0 n1 B) : ∀ i, i < r0 + r1 → E2[i]? = (List.take r0 A ++ List.take r1 B)[i]? := by
  intro i hi
  obtain ⟨a1, a2, a3⟩ := P1
  obtain ⟨b1, b2, b3⟩ := P2
  by_cases c0 : i < r0
  · rw [v_get0 A B r0 r1 i hA h0 c0, b3 i (Or.inl c0)]
    by_cases c1 : i < n0
    · have := a2 i c1; rwa [Nat.zero_add] at this
    · rw [a3 i (Or.inr (by omega)), zA i (by omega) (by omega), List.getElem?_replicate, if_pos (by omega)]
  · obtain ⟨k, rfl⟩ : ∃ k, i = r0 + k := ⟨i - r0, by omega⟩
    rw [v_get1 A B r0 r1 k hA h0 (by omega)]
    by_cases c1 : k < n1
    · exact b2 k c1
    · rw [b3 _ (Or.inr (by omega)), a3 _ (Or.inr (by omega)), zB k (by omega) (by omega), List.getElem?_replicate, if_pos (by omega)]
theorem v_same (A E : List Int32) (n q : Nat) (w : Int32) (hA : A.length = n) (hE : n ≤ E.length) (h : ∀ i, i < n → E[i]? = A[i]?) : ∀ i, i < n → ∃ v, (A.set q w)[i]? = some v ∧ (E.set q w)[i]? = some v := by
  intro i hi
  by_cases e : q = i
  · subst e; exact ⟨w, by rw [List.getElem?_set_self (by omega)], by rw [List.getElem?_set_self (by omega)]⟩
  · refine ⟨A[i], by rw [List.getElem?_set_ne e, List.getElem?_eq_getElem (by omega)], ?_⟩
    rw [List.getElem?_set_ne e, h i hi, List.getElem?_eq_getElem (by omega)]
theorem v_ad (x z : Int32) (i j : Nat) (hx : x.toInt = i) (hz : z.toInt = j) (hi : i < 100) (hj : j < 100) : (x + z).toInt = ((i + j : Nat) : Int) := by
  rw [Jvm.Kit.i32_add (by omega) (by omega)]; omega
theorem v_sb (x z : Int32) (i j : Nat) (hx : x.toInt = ((i + j : Nat) : Int)) (hz : z.toInt = j) (hi : i < 100) (hj : j < 100) : (x - z).toInt = (i : Int) := by
  rw [Jvm.Kit.i32_sub (by omega) (by omega)]; omega
/-- sixteen rows there are -/
theorem v_all (x0 x1 x2 x3 : Int32) : ∃ b0 b1 b2 b3 : Bool, (0 < x0 ↔ b0 = true) ∧ (0 < x1 ↔ b1 = true) ∧ (0 < x2 ↔ b2 = true) ∧ (0 < x3 ↔ b3 = true) ∧ f_r4 x0 x1 x2 x3 = f_r4 (if b0 then 1 else 0) (if b1 then 1 else 0) (if b2 then 1 else 0) (if b3 then 1 else 0) := by
  have g : ∀ (q : List Int32 × Nat) (x t : Int32), f_st q x t = f_st q (if decide (0 < x) then 1 else 0) t := fun q x t => by
    by_cases h : 0 < x
    · rw [v_yes _ _ _ h, v_yes _ _ _ (by simp [h])]
    · rw [v_no _ _ _ h, v_no _ _ _ (by simp [h])]
  refine ⟨decide (0 < x0), decide (0 < x1), decide (0 < x2), decide (0 < x3), by simp, by simp, by simp, by simp, ?_⟩
  unfold f_r4 f_r3 f_r2 f_r1
  rw [g f_r0 x0, g _ x1, g _ x2, g _ x3]
theorem v_lit4 (x : Int32) (n : Nat) (h : x.toInt = n) (h4 : n ≤ 4) : (x = 0 ∧ n = 0) ∨ (x = 1 ∧ n = 1) ∨ (x = 2 ∧ n = 2) ∨ (x = 3 ∧ n = 3) ∨ (x = 4 ∧ n = 4) := by
  simp only [← Int32.toInt_inj, Int32.reduceToInt]; omega
theorem v_lit8 (x : Int32) (n : Nat) (h : x.toInt = n) (h4 : n ≤ 8) : (x = 0 ∧ n = 0) ∨ (x = 1 ∧ n = 1) ∨ (x = 2 ∧ n = 2) ∨ (x = 3 ∧ n = 3) ∨ (x = 4 ∧ n = 4) ∨ (x = 5 ∧ n = 5) ∨ (x = 6 ∧ n = 6) ∨ (x = 7 ∧ n = 7) ∨ (x = 8 ∧ n = 8) := by
  simp only [← Int32.toInt_inj, Int32.reduceToInt]; omega
theorem v_m (x : Int32) : f_ok (x &&& 3) := by
  have := Jvm.Kit.i32_mask x 3 (k := 2) (by decide) (by decide); unfold f_ok; omega
theorem v_row (x : Int32) : x &&& 1 = 0 ∨ x &&& 1 = 1 := by
  have := Jvm.Kit.i32_mask x 1 (k := 1) (by decide) (by decide)
  simp only [← Int32.toInt_inj, Int32.reduceToInt]; omega
theorem v_top (x : Int32) : x &&& 3 = 0 ∨ x &&& 3 = 1 ∨ x &&& 3 = 2 ∨ x &&& 3 = 3 := by
  have := Jvm.Kit.i32_mask x 3 (k := 2) (by decide) (by decide)
  simp only [← Int32.toInt_inj, Int32.reduceToInt]; omega
theorem v_pos (y : Int32) (h : f_ok y) (hn : ¬ y = 0) : 0 < y := by
  rw [← Int32.toInt_inj, show (0 : Int32).toInt = 0 from rfl] at hn; rw [Int32.lt_iff_toInt_lt, show (0 : Int32).toInt = 0 from rfl]; unfold f_ok at h; omega
theorem v_z (x : Int32) : f_ok (1 + (x &&& 1)) ∧ 0 < 1 + (x &&& 1) := by
  have m := Jvm.Kit.i32_mask x 1 (k := 1) (by decide) (by decide)
  have a := Jvm.Kit.i32_add (p := 1) (q := x &&& 1) (by rw [m, show (1 : Int32).toInt = 1 from rfl]; omega) (by rw [m, show (1 : Int32).toInt = 1 from rfl]; omega)
  rw [m, show (1 : Int32).toInt = 1 from rfl] at a
  rw [Int32.lt_iff_toInt_lt, show (0 : Int32).toInt = 0 from rfl]; unfold f_ok; omega
theorem v_al (A B : List Int32) (r0 r1 q : Nat) (x0 x1 w : Int32) (hA : A.length = 4) (hB : B.length = 4) (h0 : r0 ≤ 4) (h1 : r1 ≤ 4) (e0 : x0.toInt = r0) (e1 : x1.toInt = r1) : Int32.ofNat (List.set (List.take r0 A ++ List.take r1 B) q w).length = x0 + x1 := by
  apply Int32.toInt_inj.mp
  rw [List.length_set, v_tlen A B r0 r1 hA hB h0 h1, Int32.toInt_ofNat_of_lt (by omega), v_ad x0 x1 r0 r1 e0 e1 (by omega) (by omega)]

theorem v_find0 (x0 x1 x2 x3 : Int32) (hy : 0 < x0) : ∃ j : Nat, j < (f_r4 x0 x1 x2 x3).2 ∧ (f_r4 x0 x1 x2 x3).1[j]? = some 0 ∧ ∀ k, k < j → ¬ (f_r4 x0 x1 x2 x3).1[k]? = some 0 := by
  obtain ⟨b0, b1, b2, b3, e0, e1, e2, e3, e⟩ := v_all x0 x1 x2 x3
  rw [e]
  rw [e0] at hy; subst hy
  cases b1 <;> cases b2 <;> cases b3
  all_goals first | exact ⟨0, by decide, by decide, by decide⟩ | exact ⟨1, by decide, by decide, by decide⟩ | exact ⟨2, by decide, by decide, by decide⟩ | exact ⟨3, by decide, by decide, by decide⟩
theorem v_find1 (x0 x1 x2 x3 : Int32) (hy : 0 < x1) : ∃ j : Nat, j < (f_r4 x0 x1 x2 x3).2 ∧ (f_r4 x0 x1 x2 x3).1[j]? = some 1 ∧ ∀ k, k < j → ¬ (f_r4 x0 x1 x2 x3).1[k]? = some 1 := by
  obtain ⟨b0, b1, b2, b3, e0, e1, e2, e3, e⟩ := v_all x0 x1 x2 x3
  rw [e]
  rw [e1] at hy; subst hy
  cases b0 <;> cases b2 <;> cases b3
  all_goals first | exact ⟨0, by decide, by decide, by decide⟩ | exact ⟨1, by decide, by decide, by decide⟩ | exact ⟨2, by decide, by decide, by decide⟩ | exact ⟨3, by decide, by decide, by decide⟩
theorem v_find2 (x0 x1 x2 x3 : Int32) (hy : 0 < x2) : ∃ j : Nat, j < (f_r4 x0 x1 x2 x3).2 ∧ (f_r4 x0 x1 x2 x3).1[j]? = some 2 ∧ ∀ k, k < j → ¬ (f_r4 x0 x1 x2 x3).1[k]? = some 2 := by
  obtain ⟨b0, b1, b2, b3, e0, e1, e2, e3, e⟩ := v_all x0 x1 x2 x3
  rw [e]
  rw [e2] at hy; subst hy
  cases b0 <;> cases b1 <;> cases b3
  all_goals first | exact ⟨0, by decide, by decide, by decide⟩ | exact ⟨1, by decide, by decide, by decide⟩ | exact ⟨2, by decide, by decide, by decide⟩ | exact ⟨3, by decide, by decide, by decide⟩
theorem v_find3 (x0 x1 x2 x3 : Int32) (hy : 0 < x3) : ∃ j : Nat, j < (f_r4 x0 x1 x2 x3).2 ∧ (f_r4 x0 x1 x2 x3).1[j]? = some 3 ∧ ∀ k, k < j → ¬ (f_r4 x0 x1 x2 x3).1[k]? = some 3 := by
  obtain ⟨b0, b1, b2, b3, e0, e1, e2, e3, e⟩ := v_all x0 x1 x2 x3
  rw [e]
  rw [e3] at hy; subst hy
  cases b0 <;> cases b1 <;> cases b2
  all_goals first | exact ⟨0, by decide, by decide, by decide⟩ | exact ⟨1, by decide, by decide, by decide⟩ | exact ⟨2, by decide, by decide, by decide⟩ | exact ⟨3, by decide, by decide, by decide⟩
set_option maxRecDepth 65536 in
set_option maxHeartbeats 40000000 in
theorem c_min (l : Launch) (Z : State) (a0 : Array Value) (hw : ∀ d ∈ tables_1, d.before a0 Z = true) (ws : List Jvm.Cond) (n0 : Nat) (h0 : Heap) (hn0 : n0 ≤ h0.size) (xx : Int32) (xz : Int32) :
    OC l Z (⟨"java/lang/Math", "min", "(II)I"⟩ : MethodName) jdk_29_method_69_code 2 (some .int) ws ({ frames := 0, cells := 0, slots := 0, locals := 0 } : Room) n0 #[(.int xx), (.int xz)] h0 (fun r h => r = some (.int (f_min xx xz)) ∧ h0 = h) := by
  refine OC.of pf_1 hn0 #[.val (.int xx), .val (.int xz)] (fun m => by first | (simp [entryFrame, mkF, argsToLocals, Value.category, maxLocals]; done) | rfl) ?_
  intro p e s m below meth cd0 T0 X0 Q' hQ
  refine o_iloadN X0 d1_0 rfl 1 rfl ?_
  refine o_iloadN X0 d1_1 rfl 2 rfl ?_
  refine o_icmpGt X0 d1_2 9 5 (by decide) (by decide) rfl ?_ ?_
  · intro hc2
    refine o_iloadN X0 d1_9 rfl 10 rfl ?_
    exact o_retI X0 d1_10 (by decide) (by decide) (hQ _ _ ⟨by show some (Value.int xz) = some (Value.int (f_min xx xz)); simp [f_min, hc2], rfl⟩)
  · intro hc2
    refine o_iloadN X0 d1_5 rfl 6 rfl ?_
    refine o_goto X0 d1_6 10 (by decide) (by decide) ?_
    exact o_retI X0 d1_10 (by decide) (by decide) (hQ _ _ ⟨by show some (Value.int xx) = some (Value.int (f_min xx xz)); simp [f_min, hc2], rfl⟩)
set_option maxRecDepth 65536 in
set_option maxHeartbeats 40000000 in
theorem c_minL (l : Launch) (Z : State) (a0 : Array Value) (hw : ∀ d ∈ tables_1, d.before a0 Z = true) (ws : List Jvm.Cond) (n0 : Nat) (h0 : Heap) (hn0 : n0 ≤ h0.size) (xx : Int64) (xz : Int64) :
    OC l Z (⟨"java/lang/Math", "min", "(JJ)J"⟩ : MethodName) jdk_29_method_70_code 4 (some .long) ws ({ frames := 0, cells := 0, slots := 0, locals := 0 } : Room) n0 #[(.long xx), (.long xz)] h0 (fun r h => r = some (.long (f_minL xx xz)) ∧ h0 = h) := by
  refine OC.of pf_7 hn0 #[.val (.long xx), .second, .val (.long xz), .second] (fun m => by first | (simp [entryFrame, mkF, argsToLocals, Value.category, maxLocals]; done) | rfl) ?_
  intro p e s m below meth cd0 T0 X0 Q' hQ
  refine o_lloadN X0 d7_0 rfl 1 rfl ?_
  refine o_lloadN X0 d7_1 rfl 2 rfl ?_
  refine o_lcmp X0 d7_2 3 rfl ?_
  refine o_ifGt X0 d7_3 10 6 (by decide) (by decide) rfl ?_ ?_
  · intro hc3
    refine o_lloadN X0 d7_10 rfl 11 rfl ?_
    exact o_retJ X0 d7_11 (by decide) (by decide) (hQ _ _ ⟨by show some (Value.long xz) = some (Value.long (f_minL xx xz)); simp [f_minL, hc3], rfl⟩)
  · intro hc3
    refine o_lloadN X0 d7_6 rfl 7 rfl ?_
    refine o_goto X0 d7_7 11 (by decide) (by decide) ?_
    exact o_retJ X0 d7_11 (by decide) (by decide) (hQ _ _ ⟨by show some (Value.long xx) = some (Value.long (f_minL xx xz)); simp [f_minL, hc3], rfl⟩)
set_option maxRecDepth 65536 in
set_option maxHeartbeats 40000000 in
theorem c_room (l : Launch) (Z : State) (a0 : Array Value) (hw : ∀ d ∈ tables_1, d.before a0 Z = true) (ws : List Jvm.Cond) (n0 : Nat) (h0 : Heap) (hn0 : n0 ≤ h0.size) (xs : Int64) (xk : Int32) :
    OC l Z (⟨"com/example/palamedes/palamedes/lda/NonzeroTopics", "room", "(JI)I"⟩ : MethodName) prog_40_method_3_code 3 (some .int) ws ({ frames := 1, cells := 0, slots := 0, locals := 15 } : Room) n0 #[(.long xs), (.int xk)] h0 (fun r h => r = some (.int (f_room xs xk)) ∧ h0 = h) := by
  refine OC.of (plainFor_of_name pn_2) hn0 #[.val (.long xs), .second, .val (.int xk)] (fun m => by first | (simp [entryFrame, mkF, argsToLocals, Value.category, maxLocals]; done) | rfl) ?_
  intro p e s m below meth cd0 T0 X0 Q' hQ
  refine o_iloadN X0 d6_0 rfl 1 rfl ?_
  refine o_i2l X0 d6_1 2 rfl ?_
  refine o_lloadN X0 d6_2 rfl 3 rfl ?_
  refine o_callS X0 d6_3 (rest := []) (c_minL l Z a0 hw [] n0 _ X0.size (Int32.toInt64 xk) xs ) (hw _ (List.mem_of_getElem? (i := 28) rfl)) (hw _ (List.mem_of_getElem? (i := 29) rfl)) (hw _ (List.mem_of_getElem? (i := 3) rfl)) (hw _ (List.mem_of_getElem? (i := 30) rfl)) (by decide) 0 (by decide) (by decide) rfl [(.long (Int32.toInt64 xk)), (.long xs)] rfl pd_7 rfl rfl (Nat.le_of_eq rfl) 0 0 rfl rfl (by decide) (by decide) 6 rfl ?_
  rintro _ T1 _ X1 ⟨rfl, rfl⟩
  show OE p e (FE s ({ frames := 1, cells := 0, slots := 0, locals := 15 } : Room)) below n0 Q' T1 (mkF m 6 #[.val (.long xs), .second, .val (.int xk)] [(.long (f_minL (Int32.toInt64 xk) xs))])
  refine o_l2i X1 d6_6 7 rfl ?_
  exact o_retI X1 d6_7 (by decide) (by decide) (hQ _ _ ⟨by show some (Value.int (Int64.toInt32 (f_minL (Int32.toInt64 xk) xs))) = some (Value.int (f_room xs xk)); simp [f_room], rfl⟩)
set_option maxRecDepth 65536 in
set_option maxHeartbeats 40000000 in
theorem c_fill0 (l : Launch) (Z : State) (a0 : Array Value) (hw : ∀ d ∈ tables_1, d.before a0 Z = true) (ws : List Jvm.Cond) (n0 : Nat) (h0 : Heap) (hn0 : n0 ≤ h0.size) (xc xl : Addr) (y0 y1 y2 y3 y4 y5 y6 y7 : Int32) (L' : List (Addr × (Cell → Prop))) (H0 : OL n0 h0 ((xc, OA Z .int [y0, y1, y2, y3, y4, y5, y6, y7]) :: (xl, OA Z .int [(0 : Int32), (0 : Int32), (0 : Int32), (0 : Int32)]) :: L')) :
    OC l Z (⟨"com/example/palamedes/palamedes/lda/NonzeroTopicsRemovePinLaw", "fill", "([II[I)I"⟩ : MethodName) method_2_code 4 (some .int) ws ({ frames := 0, cells := 0, slots := 0, locals := 0 } : Room) n0 #[(.ref xc), (.int (0 : Int32)), (.ref xl)] h0 (fun r h => ∃ p0 p1 p2 p3 xn : Int32, r = some (.int xn) ∧ OL n0 h ((xc, OA Z .int [y0, y1, y2, y3, y4, y5, y6, y7]) :: (xl, OA Z .int [p0, p1, p2, p3]) :: L') ∧ f_F y0 y1 y2 y3 p0 p1 p2 p3 xn) := by
  refine OC.of (plainFor_of_name pn_1) hn0 #[.val (.ref xc), .val (.int (0 : Int32)), .val (.ref xl), .unset] (fun m => by first | (simp [entryFrame, mkF, argsToLocals, Value.category, maxLocals]; done) | rfl) ?_
  intro p e s m below meth cd0 T0 X0 Q' hQ
  refine o_iconst (v := (0 : Int32)) X0 d2_0 rfl 1 rfl ?_
  refine o_istoreN X0 d2_1 #[.val (.ref xc), .val (.int (0 : Int32)), .val (.ref xl), .val (.int (0 : Int32))] rfl 2 rfl ?_
  refine o_aloadN X0 d2_2 rfl rfl 3 rfl ?_
  refine o_iloadN X0 d2_3 rfl 4 rfl ?_
  refine o_iaload X0 H0 0 rfl d2_4 0 rfl y0 rfl 5 rfl ?_
  refine o_ifLe X0 d2_5 15 8 (by decide) (by decide) rfl ?_ ?_
  · intro hc5
    refine o_aloadN X0 d2_15 rfl rfl 16 rfl ?_
    refine o_iloadN X0 d2_16 rfl 17 rfl ?_
    refine o_iconst (v := (1 : Int32)) X0 d2_17 rfl 18 rfl ?_
    refine o_iadd X0 d2_18 19 rfl ?_
    refine o_iaload X0 H0 0 rfl d2_19 1 rfl y1 rfl 20 rfl ?_
    refine o_ifLe X0 d2_20 30 23 (by decide) (by decide) rfl ?_ ?_
    · intro hc20
      refine o_aloadN X0 d2_30 rfl rfl 31 rfl ?_
      refine o_iloadN X0 d2_31 rfl 32 rfl ?_
      refine o_iconst (v := (2 : Int32)) X0 d2_32 rfl 33 rfl ?_
      refine o_iadd X0 d2_33 34 rfl ?_
      refine o_iaload X0 H0 0 rfl d2_34 2 rfl y2 rfl 35 rfl ?_
      refine o_ifLe X0 d2_35 45 38 (by decide) (by decide) rfl ?_ ?_
      · intro hc35
        refine o_aloadN X0 d2_45 rfl rfl 46 rfl ?_
        refine o_iloadN X0 d2_46 rfl 47 rfl ?_
        refine o_iconst (v := (3 : Int32)) X0 d2_47 rfl 48 rfl ?_
        refine o_iadd X0 d2_48 49 rfl ?_
        refine o_iaload X0 H0 0 rfl d2_49 3 rfl y3 rfl 50 rfl ?_
        refine o_ifLe X0 d2_50 60 53 (by decide) (by decide) rfl ?_ ?_
        · intro hc50
          refine o_iloadN X0 d2_60 rfl 61 rfl ?_
          exact o_retI X0 d2_61 (by decide) (by decide) (hQ _ _ ⟨_, _, _, _, _, rfl, H0, by simp [f_F, f_r4, f_r3, f_r2, f_r1, f_r0, f_st, hc5, hc20, hc35, hc50]⟩)
        · intro hc50
          refine o_aloadN X0 d2_53 rfl rfl 54 rfl ?_
          refine o_iloadN X0 d2_54 rfl 55 rfl ?_
          refine o_iconst (v := (3 : Int32)) X0 d2_55 rfl 56 rfl ?_
          refine o_iastore X0 H0 1 rfl d2_56 0 rfl (by show 0 < 4; decide) 57 rfl ?_
          intro T1 h1 X1 H1
          replace H1 : OL n0 h1 ((xc, OA Z .int [y0, y1, y2, y3, y4, y5, y6, y7]) :: (xl, OA Z .int [(3 : Int32), (0 : Int32), (0 : Int32), (0 : Int32)]) :: L') := H1
          refine o_iinc (v := (0 : Int32)) (w := (1 : Int32)) X1 d2_57 rfl rfl #[.val (.ref xc), .val (.int (0 : Int32)), .val (.ref xl), .val (.int (1 : Int32))] rfl 60 rfl ?_
          refine o_iloadN X1 d2_60 rfl 61 rfl ?_
          exact o_retI X1 d2_61 (by decide) (by decide) (hQ _ _ ⟨_, _, _, _, _, rfl, H1, by simp [f_F, f_r4, f_r3, f_r2, f_r1, f_r0, f_st, hc5, hc20, hc35, hc50]⟩)
      · intro hc35
        refine o_aloadN X0 d2_38 rfl rfl 39 rfl ?_
        refine o_iloadN X0 d2_39 rfl 40 rfl ?_
        refine o_iconst (v := (2 : Int32)) X0 d2_40 rfl 41 rfl ?_
        refine o_iastore X0 H0 1 rfl d2_41 0 rfl (by show 0 < 4; decide) 42 rfl ?_
        intro T2 h2 X2 H2
        replace H2 : OL n0 h2 ((xc, OA Z .int [y0, y1, y2, y3, y4, y5, y6, y7]) :: (xl, OA Z .int [(2 : Int32), (0 : Int32), (0 : Int32), (0 : Int32)]) :: L') := H2
        refine o_iinc (v := (0 : Int32)) (w := (1 : Int32)) X2 d2_42 rfl rfl #[.val (.ref xc), .val (.int (0 : Int32)), .val (.ref xl), .val (.int (1 : Int32))] rfl 45 rfl ?_
        refine o_aloadN X2 d2_45 rfl rfl 46 rfl ?_
        refine o_iloadN X2 d2_46 rfl 47 rfl ?_
        refine o_iconst (v := (3 : Int32)) X2 d2_47 rfl 48 rfl ?_
        refine o_iadd X2 d2_48 49 rfl ?_
        refine o_iaload X2 H2 0 rfl d2_49 3 rfl y3 rfl 50 rfl ?_
        refine o_ifLe X2 d2_50 60 53 (by decide) (by decide) rfl ?_ ?_
        · intro hc50
          refine o_iloadN X2 d2_60 rfl 61 rfl ?_
          exact o_retI X2 d2_61 (by decide) (by decide) (hQ _ _ ⟨_, _, _, _, _, rfl, H2, by simp [f_F, f_r4, f_r3, f_r2, f_r1, f_r0, f_st, hc5, hc20, hc35, hc50]⟩)
        · intro hc50
          refine o_aloadN X2 d2_53 rfl rfl 54 rfl ?_
          refine o_iloadN X2 d2_54 rfl 55 rfl ?_
          refine o_iconst (v := (3 : Int32)) X2 d2_55 rfl 56 rfl ?_
          refine o_iastore X2 H2 1 rfl d2_56 1 rfl (by show 1 < 4; decide) 57 rfl ?_
          intro T3 h3 X3 H3
          replace H3 : OL n0 h3 ((xc, OA Z .int [y0, y1, y2, y3, y4, y5, y6, y7]) :: (xl, OA Z .int [(2 : Int32), (3 : Int32), (0 : Int32), (0 : Int32)]) :: L') := H3
          refine o_iinc (v := (1 : Int32)) (w := (2 : Int32)) X3 d2_57 rfl rfl #[.val (.ref xc), .val (.int (0 : Int32)), .val (.ref xl), .val (.int (2 : Int32))] rfl 60 rfl ?_
          refine o_iloadN X3 d2_60 rfl 61 rfl ?_
          exact o_retI X3 d2_61 (by decide) (by decide) (hQ _ _ ⟨_, _, _, _, _, rfl, H3, by simp [f_F, f_r4, f_r3, f_r2, f_r1, f_r0, f_st, hc5, hc20, hc35, hc50]⟩)
    · intro hc20
      refine o_aloadN X0 d2_23 rfl rfl 24 rfl ?_
      refine o_iloadN X0 d2_24 rfl 25 rfl ?_
      refine o_iconst (v := (1 : Int32)) X0 d2_25 rfl 26 rfl ?_
      refine o_iastore X0 H0 1 rfl d2_26 0 rfl (by show 0 < 4; decide) 27 rfl ?_
      intro T4 h4 X4 H4
      replace H4 : OL n0 h4 ((xc, OA Z .int [y0, y1, y2, y3, y4, y5, y6, y7]) :: (xl, OA Z .int [(1 : Int32), (0 : Int32), (0 : Int32), (0 : Int32)]) :: L') := H4
      refine o_iinc (v := (0 : Int32)) (w := (1 : Int32)) X4 d2_27 rfl rfl #[.val (.ref xc), .val (.int (0 : Int32)), .val (.ref xl), .val (.int (1 : Int32))] rfl 30 rfl ?_
      refine o_aloadN X4 d2_30 rfl rfl 31 rfl ?_
      refine o_iloadN X4 d2_31 rfl 32 rfl ?_
      refine o_iconst (v := (2 : Int32)) X4 d2_32 rfl 33 rfl ?_
      refine o_iadd X4 d2_33 34 rfl ?_
      refine o_iaload X4 H4 0 rfl d2_34 2 rfl y2 rfl 35 rfl ?_
      refine o_ifLe X4 d2_35 45 38 (by decide) (by decide) rfl ?_ ?_
      · intro hc35
        refine o_aloadN X4 d2_45 rfl rfl 46 rfl ?_
        refine o_iloadN X4 d2_46 rfl 47 rfl ?_
        refine o_iconst (v := (3 : Int32)) X4 d2_47 rfl 48 rfl ?_
        refine o_iadd X4 d2_48 49 rfl ?_
        refine o_iaload X4 H4 0 rfl d2_49 3 rfl y3 rfl 50 rfl ?_
        refine o_ifLe X4 d2_50 60 53 (by decide) (by decide) rfl ?_ ?_
        · intro hc50
          refine o_iloadN X4 d2_60 rfl 61 rfl ?_
          exact o_retI X4 d2_61 (by decide) (by decide) (hQ _ _ ⟨_, _, _, _, _, rfl, H4, by simp [f_F, f_r4, f_r3, f_r2, f_r1, f_r0, f_st, hc5, hc20, hc35, hc50]⟩)
        · intro hc50
          refine o_aloadN X4 d2_53 rfl rfl 54 rfl ?_
          refine o_iloadN X4 d2_54 rfl 55 rfl ?_
          refine o_iconst (v := (3 : Int32)) X4 d2_55 rfl 56 rfl ?_
          refine o_iastore X4 H4 1 rfl d2_56 1 rfl (by show 1 < 4; decide) 57 rfl ?_
          intro T5 h5 X5 H5
          replace H5 : OL n0 h5 ((xc, OA Z .int [y0, y1, y2, y3, y4, y5, y6, y7]) :: (xl, OA Z .int [(1 : Int32), (3 : Int32), (0 : Int32), (0 : Int32)]) :: L') := H5
          refine o_iinc (v := (1 : Int32)) (w := (2 : Int32)) X5 d2_57 rfl rfl #[.val (.ref xc), .val (.int (0 : Int32)), .val (.ref xl), .val (.int (2 : Int32))] rfl 60 rfl ?_
          refine o_iloadN X5 d2_60 rfl 61 rfl ?_
          exact o_retI X5 d2_61 (by decide) (by decide) (hQ _ _ ⟨_, _, _, _, _, rfl, H5, by simp [f_F, f_r4, f_r3, f_r2, f_r1, f_r0, f_st, hc5, hc20, hc35, hc50]⟩)
      · intro hc35
        refine o_aloadN X4 d2_38 rfl rfl 39 rfl ?_
        refine o_iloadN X4 d2_39 rfl 40 rfl ?_
        refine o_iconst (v := (2 : Int32)) X4 d2_40 rfl 41 rfl ?_
        refine o_iastore X4 H4 1 rfl d2_41 1 rfl (by show 1 < 4; decide) 42 rfl ?_
        intro T6 h6 X6 H6
        replace H6 : OL n0 h6 ((xc, OA Z .int [y0, y1, y2, y3, y4, y5, y6, y7]) :: (xl, OA Z .int [(1 : Int32), (2 : Int32), (0 : Int32), (0 : Int32)]) :: L') := H6
        refine o_iinc (v := (1 : Int32)) (w := (2 : Int32)) X6 d2_42 rfl rfl #[.val (.ref xc), .val (.int (0 : Int32)), .val (.ref xl), .val (.int (2 : Int32))] rfl 45 rfl ?_
        refine o_aloadN X6 d2_45 rfl rfl 46 rfl ?_
        refine o_iloadN X6 d2_46 rfl 47 rfl ?_
        refine o_iconst (v := (3 : Int32)) X6 d2_47 rfl 48 rfl ?_
        refine o_iadd X6 d2_48 49 rfl ?_
        refine o_iaload X6 H6 0 rfl d2_49 3 rfl y3 rfl 50 rfl ?_
        refine o_ifLe X6 d2_50 60 53 (by decide) (by decide) rfl ?_ ?_
        · intro hc50
          refine o_iloadN X6 d2_60 rfl 61 rfl ?_
          exact o_retI X6 d2_61 (by decide) (by decide) (hQ _ _ ⟨_, _, _, _, _, rfl, H6, by simp [f_F, f_r4, f_r3, f_r2, f_r1, f_r0, f_st, hc5, hc20, hc35, hc50]⟩)
        · intro hc50
          refine o_aloadN X6 d2_53 rfl rfl 54 rfl ?_
          refine o_iloadN X6 d2_54 rfl 55 rfl ?_
          refine o_iconst (v := (3 : Int32)) X6 d2_55 rfl 56 rfl ?_
          refine o_iastore X6 H6 1 rfl d2_56 2 rfl (by show 2 < 4; decide) 57 rfl ?_
          intro T7 h7 X7 H7
          replace H7 : OL n0 h7 ((xc, OA Z .int [y0, y1, y2, y3, y4, y5, y6, y7]) :: (xl, OA Z .int [(1 : Int32), (2 : Int32), (3 : Int32), (0 : Int32)]) :: L') := H7
          refine o_iinc (v := (2 : Int32)) (w := (3 : Int32)) X7 d2_57 rfl rfl #[.val (.ref xc), .val (.int (0 : Int32)), .val (.ref xl), .val (.int (3 : Int32))] rfl 60 rfl ?_
          refine o_iloadN X7 d2_60 rfl 61 rfl ?_
          exact o_retI X7 d2_61 (by decide) (by decide) (hQ _ _ ⟨_, _, _, _, _, rfl, H7, by simp [f_F, f_r4, f_r3, f_r2, f_r1, f_r0, f_st, hc5, hc20, hc35, hc50]⟩)
  · intro hc5
    refine o_aloadN X0 d2_8 rfl rfl 9 rfl ?_
    refine o_iloadN X0 d2_9 rfl 10 rfl ?_
    refine o_iconst (v := (0 : Int32)) X0 d2_10 rfl 11 rfl ?_
    refine o_iastore X0 H0 1 rfl d2_11 0 rfl (by show 0 < 4; decide) 12 rfl ?_
    intro T8 h8 X8 H8
    replace H8 : OL n0 h8 ((xc, OA Z .int [y0, y1, y2, y3, y4, y5, y6, y7]) :: (xl, OA Z .int [(0 : Int32), (0 : Int32), (0 : Int32), (0 : Int32)]) :: L') := H8
    refine o_iinc (v := (0 : Int32)) (w := (1 : Int32)) X8 d2_12 rfl rfl #[.val (.ref xc), .val (.int (0 : Int32)), .val (.ref xl), .val (.int (1 : Int32))] rfl 15 rfl ?_
    refine o_aloadN X8 d2_15 rfl rfl 16 rfl ?_
    refine o_iloadN X8 d2_16 rfl 17 rfl ?_
    refine o_iconst (v := (1 : Int32)) X8 d2_17 rfl 18 rfl ?_
    refine o_iadd X8 d2_18 19 rfl ?_
    refine o_iaload X8 H8 0 rfl d2_19 1 rfl y1 rfl 20 rfl ?_
    refine o_ifLe X8 d2_20 30 23 (by decide) (by decide) rfl ?_ ?_
    · intro hc20
      refine o_aloadN X8 d2_30 rfl rfl 31 rfl ?_
      refine o_iloadN X8 d2_31 rfl 32 rfl ?_
      refine o_iconst (v := (2 : Int32)) X8 d2_32 rfl 33 rfl ?_
      refine o_iadd X8 d2_33 34 rfl ?_
      refine o_iaload X8 H8 0 rfl d2_34 2 rfl y2 rfl 35 rfl ?_
      refine o_ifLe X8 d2_35 45 38 (by decide) (by decide) rfl ?_ ?_
      · intro hc35
        refine o_aloadN X8 d2_45 rfl rfl 46 rfl ?_
        refine o_iloadN X8 d2_46 rfl 47 rfl ?_
        refine o_iconst (v := (3 : Int32)) X8 d2_47 rfl 48 rfl ?_
        refine o_iadd X8 d2_48 49 rfl ?_
        refine o_iaload X8 H8 0 rfl d2_49 3 rfl y3 rfl 50 rfl ?_
        refine o_ifLe X8 d2_50 60 53 (by decide) (by decide) rfl ?_ ?_
        · intro hc50
          refine o_iloadN X8 d2_60 rfl 61 rfl ?_
          exact o_retI X8 d2_61 (by decide) (by decide) (hQ _ _ ⟨_, _, _, _, _, rfl, H8, by simp [f_F, f_r4, f_r3, f_r2, f_r1, f_r0, f_st, hc5, hc20, hc35, hc50]⟩)
        · intro hc50
          refine o_aloadN X8 d2_53 rfl rfl 54 rfl ?_
          refine o_iloadN X8 d2_54 rfl 55 rfl ?_
          refine o_iconst (v := (3 : Int32)) X8 d2_55 rfl 56 rfl ?_
          refine o_iastore X8 H8 1 rfl d2_56 1 rfl (by show 1 < 4; decide) 57 rfl ?_
          intro T9 h9 X9 H9
          replace H9 : OL n0 h9 ((xc, OA Z .int [y0, y1, y2, y3, y4, y5, y6, y7]) :: (xl, OA Z .int [(0 : Int32), (3 : Int32), (0 : Int32), (0 : Int32)]) :: L') := H9
          refine o_iinc (v := (1 : Int32)) (w := (2 : Int32)) X9 d2_57 rfl rfl #[.val (.ref xc), .val (.int (0 : Int32)), .val (.ref xl), .val (.int (2 : Int32))] rfl 60 rfl ?_
          refine o_iloadN X9 d2_60 rfl 61 rfl ?_
          exact o_retI X9 d2_61 (by decide) (by decide) (hQ _ _ ⟨_, _, _, _, _, rfl, H9, by simp [f_F, f_r4, f_r3, f_r2, f_r1, f_r0, f_st, hc5, hc20, hc35, hc50]⟩)
      · intro hc35
        refine o_aloadN X8 d2_38 rfl rfl 39 rfl ?_
        refine o_iloadN X8 d2_39 rfl 40 rfl ?_
        refine o_iconst (v := (2 : Int32)) X8 d2_40 rfl 41 rfl ?_
        refine o_iastore X8 H8 1 rfl d2_41 1 rfl (by show 1 < 4; decide) 42 rfl ?_
        intro T10 h10 X10 H10
        replace H10 : OL n0 h10 ((xc, OA Z .int [y0, y1, y2, y3, y4, y5, y6, y7]) :: (xl, OA Z .int [(0 : Int32), (2 : Int32), (0 : Int32), (0 : Int32)]) :: L') := H10
        refine o_iinc (v := (1 : Int32)) (w := (2 : Int32)) X10 d2_42 rfl rfl #[.val (.ref xc), .val (.int (0 : Int32)), .val (.ref xl), .val (.int (2 : Int32))] rfl 45 rfl ?_
        refine o_aloadN X10 d2_45 rfl rfl 46 rfl ?_
        refine o_iloadN X10 d2_46 rfl 47 rfl ?_
        refine o_iconst (v := (3 : Int32)) X10 d2_47 rfl 48 rfl ?_
        refine o_iadd X10 d2_48 49 rfl ?_
        refine o_iaload X10 H10 0 rfl d2_49 3 rfl y3 rfl 50 rfl ?_
        refine o_ifLe X10 d2_50 60 53 (by decide) (by decide) rfl ?_ ?_
        · intro hc50
          refine o_iloadN X10 d2_60 rfl 61 rfl ?_
          exact o_retI X10 d2_61 (by decide) (by decide) (hQ _ _ ⟨_, _, _, _, _, rfl, H10, by simp [f_F, f_r4, f_r3, f_r2, f_r1, f_r0, f_st, hc5, hc20, hc35, hc50]⟩)
        · intro hc50
          refine o_aloadN X10 d2_53 rfl rfl 54 rfl ?_
          refine o_iloadN X10 d2_54 rfl 55 rfl ?_
          refine o_iconst (v := (3 : Int32)) X10 d2_55 rfl 56 rfl ?_
          refine o_iastore X10 H10 1 rfl d2_56 2 rfl (by show 2 < 4; decide) 57 rfl ?_
          intro T11 h11 X11 H11
          replace H11 : OL n0 h11 ((xc, OA Z .int [y0, y1, y2, y3, y4, y5, y6, y7]) :: (xl, OA Z .int [(0 : Int32), (2 : Int32), (3 : Int32), (0 : Int32)]) :: L') := H11
          refine o_iinc (v := (2 : Int32)) (w := (3 : Int32)) X11 d2_57 rfl rfl #[.val (.ref xc), .val (.int (0 : Int32)), .val (.ref xl), .val (.int (3 : Int32))] rfl 60 rfl ?_
          refine o_iloadN X11 d2_60 rfl 61 rfl ?_
          exact o_retI X11 d2_61 (by decide) (by decide) (hQ _ _ ⟨_, _, _, _, _, rfl, H11, by simp [f_F, f_r4, f_r3, f_r2, f_r1, f_r0, f_st, hc5, hc20, hc35, hc50]⟩)
    · intro hc20
      refine o_aloadN X8 d2_23 rfl rfl 24 rfl ?_
      refine o_iloadN X8 d2_24 rfl 25 rfl ?_
      refine o_iconst (v := (1 : Int32)) X8 d2_25 rfl 26 rfl ?_
      refine o_iastore X8 H8 1 rfl d2_26 1 rfl (by show 1 < 4; decide) 27 rfl ?_
      intro T12 h12 X12 H12
      replace H12 : OL n0 h12 ((xc, OA Z .int [y0, y1, y2, y3, y4, y5, y6, y7]) :: (xl, OA Z .int [(0 : Int32), (1 : Int32), (0 : Int32), (0 : Int32)]) :: L') := H12
      refine o_iinc (v := (1 : Int32)) (w := (2 : Int32)) X12 d2_27 rfl rfl #[.val (.ref xc), .val (.int (0 : Int32)), .val (.ref xl), .val (.int (2 : Int32))] rfl 30 rfl ?_
      refine o_aloadN X12 d2_30 rfl rfl 31 rfl ?_
      refine o_iloadN X12 d2_31 rfl 32 rfl ?_
      refine o_iconst (v := (2 : Int32)) X12 d2_32 rfl 33 rfl ?_
      refine o_iadd X12 d2_33 34 rfl ?_
      refine o_iaload X12 H12 0 rfl d2_34 2 rfl y2 rfl 35 rfl ?_
      refine o_ifLe X12 d2_35 45 38 (by decide) (by decide) rfl ?_ ?_
      · intro hc35
        refine o_aloadN X12 d2_45 rfl rfl 46 rfl ?_
        refine o_iloadN X12 d2_46 rfl 47 rfl ?_
        refine o_iconst (v := (3 : Int32)) X12 d2_47 rfl 48 rfl ?_
        refine o_iadd X12 d2_48 49 rfl ?_
        refine o_iaload X12 H12 0 rfl d2_49 3 rfl y3 rfl 50 rfl ?_
        refine o_ifLe X12 d2_50 60 53 (by decide) (by decide) rfl ?_ ?_
        · intro hc50
          refine o_iloadN X12 d2_60 rfl 61 rfl ?_
          exact o_retI X12 d2_61 (by decide) (by decide) (hQ _ _ ⟨_, _, _, _, _, rfl, H12, by simp [f_F, f_r4, f_r3, f_r2, f_r1, f_r0, f_st, hc5, hc20, hc35, hc50]⟩)
        · intro hc50
          refine o_aloadN X12 d2_53 rfl rfl 54 rfl ?_
          refine o_iloadN X12 d2_54 rfl 55 rfl ?_
          refine o_iconst (v := (3 : Int32)) X12 d2_55 rfl 56 rfl ?_
          refine o_iastore X12 H12 1 rfl d2_56 2 rfl (by show 2 < 4; decide) 57 rfl ?_
          intro T13 h13 X13 H13
          replace H13 : OL n0 h13 ((xc, OA Z .int [y0, y1, y2, y3, y4, y5, y6, y7]) :: (xl, OA Z .int [(0 : Int32), (1 : Int32), (3 : Int32), (0 : Int32)]) :: L') := H13
          refine o_iinc (v := (2 : Int32)) (w := (3 : Int32)) X13 d2_57 rfl rfl #[.val (.ref xc), .val (.int (0 : Int32)), .val (.ref xl), .val (.int (3 : Int32))] rfl 60 rfl ?_
          refine o_iloadN X13 d2_60 rfl 61 rfl ?_
          exact o_retI X13 d2_61 (by decide) (by decide) (hQ _ _ ⟨_, _, _, _, _, rfl, H13, by simp [f_F, f_r4, f_r3, f_r2, f_r1, f_r0, f_st, hc5, hc20, hc35, hc50]⟩)
      · intro hc35
        refine o_aloadN X12 d2_38 rfl rfl 39 rfl ?_
        refine o_iloadN X12 d2_39 rfl 40 rfl ?_
        refine o_iconst (v := (2 : Int32)) X12 d2_40 rfl 41 rfl ?_
        refine o_iastore X12 H12 1 rfl d2_41 2 rfl (by show 2 < 4; decide) 42 rfl ?_
        intro T14 h14 X14 H14
        replace H14 : OL n0 h14 ((xc, OA Z .int [y0, y1, y2, y3, y4, y5, y6, y7]) :: (xl, OA Z .int [(0 : Int32), (1 : Int32), (2 : Int32), (0 : Int32)]) :: L') := H14
        refine o_iinc (v := (2 : Int32)) (w := (3 : Int32)) X14 d2_42 rfl rfl #[.val (.ref xc), .val (.int (0 : Int32)), .val (.ref xl), .val (.int (3 : Int32))] rfl 45 rfl ?_
        refine o_aloadN X14 d2_45 rfl rfl 46 rfl ?_
        refine o_iloadN X14 d2_46 rfl 47 rfl ?_
        refine o_iconst (v := (3 : Int32)) X14 d2_47 rfl 48 rfl ?_
        refine o_iadd X14 d2_48 49 rfl ?_
        refine o_iaload X14 H14 0 rfl d2_49 3 rfl y3 rfl 50 rfl ?_
        refine o_ifLe X14 d2_50 60 53 (by decide) (by decide) rfl ?_ ?_
        · intro hc50
          refine o_iloadN X14 d2_60 rfl 61 rfl ?_
          exact o_retI X14 d2_61 (by decide) (by decide) (hQ _ _ ⟨_, _, _, _, _, rfl, H14, by simp [f_F, f_r4, f_r3, f_r2, f_r1, f_r0, f_st, hc5, hc20, hc35, hc50]⟩)
        · intro hc50
          refine o_aloadN X14 d2_53 rfl rfl 54 rfl ?_
          refine o_iloadN X14 d2_54 rfl 55 rfl ?_
          refine o_iconst (v := (3 : Int32)) X14 d2_55 rfl 56 rfl ?_
          refine o_iastore X14 H14 1 rfl d2_56 3 rfl (by show 3 < 4; decide) 57 rfl ?_
          intro T15 h15 X15 H15
          replace H15 : OL n0 h15 ((xc, OA Z .int [y0, y1, y2, y3, y4, y5, y6, y7]) :: (xl, OA Z .int [(0 : Int32), (1 : Int32), (2 : Int32), (3 : Int32)]) :: L') := H15
          refine o_iinc (v := (3 : Int32)) (w := (4 : Int32)) X15 d2_57 rfl rfl #[.val (.ref xc), .val (.int (0 : Int32)), .val (.ref xl), .val (.int (4 : Int32))] rfl 60 rfl ?_
          refine o_iloadN X15 d2_60 rfl 61 rfl ?_
          exact o_retI X15 d2_61 (by decide) (by decide) (hQ _ _ ⟨_, _, _, _, _, rfl, H15, by simp [f_F, f_r4, f_r3, f_r2, f_r1, f_r0, f_st, hc5, hc20, hc35, hc50]⟩)
set_option maxRecDepth 65536 in
set_option maxHeartbeats 40000000 in
theorem c_fill4 (l : Launch) (Z : State) (a0 : Array Value) (hw : ∀ d ∈ tables_1, d.before a0 Z = true) (ws : List Jvm.Cond) (n0 : Nat) (h0 : Heap) (hn0 : n0 ≤ h0.size) (xc xl : Addr) (y0 y1 y2 y3 y4 y5 y6 y7 : Int32) (L' : List (Addr × (Cell → Prop))) (H0 : OL n0 h0 ((xc, OA Z .int [y0, y1, y2, y3, y4, y5, y6, y7]) :: (xl, OA Z .int [(0 : Int32), (0 : Int32), (0 : Int32), (0 : Int32)]) :: L')) :
    OC l Z (⟨"com/example/palamedes/palamedes/lda/NonzeroTopicsRemovePinLaw", "fill", "([II[I)I"⟩ : MethodName) method_2_code 4 (some .int) ws ({ frames := 0, cells := 0, slots := 0, locals := 0 } : Room) n0 #[(.ref xc), (.int (4 : Int32)), (.ref xl)] h0 (fun r h => ∃ p0 p1 p2 p3 xn : Int32, r = some (.int xn) ∧ OL n0 h ((xc, OA Z .int [y0, y1, y2, y3, y4, y5, y6, y7]) :: (xl, OA Z .int [p0, p1, p2, p3]) :: L') ∧ f_F y4 y5 y6 y7 p0 p1 p2 p3 xn) := by
  refine OC.of (plainFor_of_name pn_1) hn0 #[.val (.ref xc), .val (.int (4 : Int32)), .val (.ref xl), .unset] (fun m => by first | (simp [entryFrame, mkF, argsToLocals, Value.category, maxLocals]; done) | rfl) ?_
  intro p e s m below meth cd0 T0 X0 Q' hQ
  refine o_iconst (v := (0 : Int32)) X0 d2_0 rfl 1 rfl ?_
  refine o_istoreN X0 d2_1 #[.val (.ref xc), .val (.int (4 : Int32)), .val (.ref xl), .val (.int (0 : Int32))] rfl 2 rfl ?_
  refine o_aloadN X0 d2_2 rfl rfl 3 rfl ?_
  refine o_iloadN X0 d2_3 rfl 4 rfl ?_
  refine o_iaload X0 H0 0 rfl d2_4 4 rfl y4 rfl 5 rfl ?_
  refine o_ifLe X0 d2_5 15 8 (by decide) (by decide) rfl ?_ ?_
  · intro hc5
    refine o_aloadN X0 d2_15 rfl rfl 16 rfl ?_
    refine o_iloadN X0 d2_16 rfl 17 rfl ?_
    refine o_iconst (v := (1 : Int32)) X0 d2_17 rfl 18 rfl ?_
    refine o_iadd X0 d2_18 19 rfl ?_
    refine o_iaload X0 H0 0 rfl d2_19 5 rfl y5 rfl 20 rfl ?_
    refine o_ifLe X0 d2_20 30 23 (by decide) (by decide) rfl ?_ ?_
    · intro hc20
      refine o_aloadN X0 d2_30 rfl rfl 31 rfl ?_
      refine o_iloadN X0 d2_31 rfl 32 rfl ?_
      refine o_iconst (v := (2 : Int32)) X0 d2_32 rfl 33 rfl ?_
      refine o_iadd X0 d2_33 34 rfl ?_
      refine o_iaload X0 H0 0 rfl d2_34 6 rfl y6 rfl 35 rfl ?_
      refine o_ifLe X0 d2_35 45 38 (by decide) (by decide) rfl ?_ ?_
      · intro hc35
        refine o_aloadN X0 d2_45 rfl rfl 46 rfl ?_
        refine o_iloadN X0 d2_46 rfl 47 rfl ?_
        refine o_iconst (v := (3 : Int32)) X0 d2_47 rfl 48 rfl ?_
        refine o_iadd X0 d2_48 49 rfl ?_
        refine o_iaload X0 H0 0 rfl d2_49 7 rfl y7 rfl 50 rfl ?_
        refine o_ifLe X0 d2_50 60 53 (by decide) (by decide) rfl ?_ ?_
        · intro hc50
          refine o_iloadN X0 d2_60 rfl 61 rfl ?_
          exact o_retI X0 d2_61 (by decide) (by decide) (hQ _ _ ⟨_, _, _, _, _, rfl, H0, by simp [f_F, f_r4, f_r3, f_r2, f_r1, f_r0, f_st, hc5, hc20, hc35, hc50]⟩)
        · intro hc50
          refine o_aloadN X0 d2_53 rfl rfl 54 rfl ?_
          refine o_iloadN X0 d2_54 rfl 55 rfl ?_
          refine o_iconst (v := (3 : Int32)) X0 d2_55 rfl 56 rfl ?_
          refine o_iastore X0 H0 1 rfl d2_56 0 rfl (by show 0 < 4; decide) 57 rfl ?_
          intro T1 h1 X1 H1
          replace H1 : OL n0 h1 ((xc, OA Z .int [y0, y1, y2, y3, y4, y5, y6, y7]) :: (xl, OA Z .int [(3 : Int32), (0 : Int32), (0 : Int32), (0 : Int32)]) :: L') := H1
          refine o_iinc (v := (0 : Int32)) (w := (1 : Int32)) X1 d2_57 rfl rfl #[.val (.ref xc), .val (.int (4 : Int32)), .val (.ref xl), .val (.int (1 : Int32))] rfl 60 rfl ?_
          refine o_iloadN X1 d2_60 rfl 61 rfl ?_
          exact o_retI X1 d2_61 (by decide) (by decide) (hQ _ _ ⟨_, _, _, _, _, rfl, H1, by simp [f_F, f_r4, f_r3, f_r2, f_r1, f_r0, f_st, hc5, hc20, hc35, hc50]⟩)
      · intro hc35
        refine o_aloadN X0 d2_38 rfl rfl 39 rfl ?_
        refine o_iloadN X0 d2_39 rfl 40 rfl ?_
        refine o_iconst (v := (2 : Int32)) X0 d2_40 rfl 41 rfl ?_
        refine o_iastore X0 H0 1 rfl d2_41 0 rfl (by show 0 < 4; decide) 42 rfl ?_
        intro T2 h2 X2 H2
        replace H2 : OL n0 h2 ((xc, OA Z .int [y0, y1, y2, y3, y4, y5, y6, y7]) :: (xl, OA Z .int [(2 : Int32), (0 : Int32), (0 : Int32), (0 : Int32)]) :: L') := H2
        refine o_iinc (v := (0 : Int32)) (w := (1 : Int32)) X2 d2_42 rfl rfl #[.val (.ref xc), .val (.int (4 : Int32)), .val (.ref xl), .val (.int (1 : Int32))] rfl 45 rfl ?_
        refine o_aloadN X2 d2_45 rfl rfl 46 rfl ?_
        refine o_iloadN X2 d2_46 rfl 47 rfl ?_
        refine o_iconst (v := (3 : Int32)) X2 d2_47 rfl 48 rfl ?_
        refine o_iadd X2 d2_48 49 rfl ?_
        refine o_iaload X2 H2 0 rfl d2_49 7 rfl y7 rfl 50 rfl ?_
        refine o_ifLe X2 d2_50 60 53 (by decide) (by decide) rfl ?_ ?_
        · intro hc50
          refine o_iloadN X2 d2_60 rfl 61 rfl ?_
          exact o_retI X2 d2_61 (by decide) (by decide) (hQ _ _ ⟨_, _, _, _, _, rfl, H2, by simp [f_F, f_r4, f_r3, f_r2, f_r1, f_r0, f_st, hc5, hc20, hc35, hc50]⟩)
        · intro hc50
          refine o_aloadN X2 d2_53 rfl rfl 54 rfl ?_
          refine o_iloadN X2 d2_54 rfl 55 rfl ?_
          refine o_iconst (v := (3 : Int32)) X2 d2_55 rfl 56 rfl ?_
          refine o_iastore X2 H2 1 rfl d2_56 1 rfl (by show 1 < 4; decide) 57 rfl ?_
          intro T3 h3 X3 H3
          replace H3 : OL n0 h3 ((xc, OA Z .int [y0, y1, y2, y3, y4, y5, y6, y7]) :: (xl, OA Z .int [(2 : Int32), (3 : Int32), (0 : Int32), (0 : Int32)]) :: L') := H3
          refine o_iinc (v := (1 : Int32)) (w := (2 : Int32)) X3 d2_57 rfl rfl #[.val (.ref xc), .val (.int (4 : Int32)), .val (.ref xl), .val (.int (2 : Int32))] rfl 60 rfl ?_
          refine o_iloadN X3 d2_60 rfl 61 rfl ?_
          exact o_retI X3 d2_61 (by decide) (by decide) (hQ _ _ ⟨_, _, _, _, _, rfl, H3, by simp [f_F, f_r4, f_r3, f_r2, f_r1, f_r0, f_st, hc5, hc20, hc35, hc50]⟩)
    · intro hc20
      refine o_aloadN X0 d2_23 rfl rfl 24 rfl ?_
      refine o_iloadN X0 d2_24 rfl 25 rfl ?_
      refine o_iconst (v := (1 : Int32)) X0 d2_25 rfl 26 rfl ?_
      refine o_iastore X0 H0 1 rfl d2_26 0 rfl (by show 0 < 4; decide) 27 rfl ?_
      intro T4 h4 X4 H4
      replace H4 : OL n0 h4 ((xc, OA Z .int [y0, y1, y2, y3, y4, y5, y6, y7]) :: (xl, OA Z .int [(1 : Int32), (0 : Int32), (0 : Int32), (0 : Int32)]) :: L') := H4
      refine o_iinc (v := (0 : Int32)) (w := (1 : Int32)) X4 d2_27 rfl rfl #[.val (.ref xc), .val (.int (4 : Int32)), .val (.ref xl), .val (.int (1 : Int32))] rfl 30 rfl ?_
      refine o_aloadN X4 d2_30 rfl rfl 31 rfl ?_
      refine o_iloadN X4 d2_31 rfl 32 rfl ?_
      refine o_iconst (v := (2 : Int32)) X4 d2_32 rfl 33 rfl ?_
      refine o_iadd X4 d2_33 34 rfl ?_
      refine o_iaload X4 H4 0 rfl d2_34 6 rfl y6 rfl 35 rfl ?_
      refine o_ifLe X4 d2_35 45 38 (by decide) (by decide) rfl ?_ ?_
      · intro hc35
        refine o_aloadN X4 d2_45 rfl rfl 46 rfl ?_
        refine o_iloadN X4 d2_46 rfl 47 rfl ?_
        refine o_iconst (v := (3 : Int32)) X4 d2_47 rfl 48 rfl ?_
        refine o_iadd X4 d2_48 49 rfl ?_
        refine o_iaload X4 H4 0 rfl d2_49 7 rfl y7 rfl 50 rfl ?_
        refine o_ifLe X4 d2_50 60 53 (by decide) (by decide) rfl ?_ ?_
        · intro hc50
          refine o_iloadN X4 d2_60 rfl 61 rfl ?_
          exact o_retI X4 d2_61 (by decide) (by decide) (hQ _ _ ⟨_, _, _, _, _, rfl, H4, by simp [f_F, f_r4, f_r3, f_r2, f_r1, f_r0, f_st, hc5, hc20, hc35, hc50]⟩)
        · intro hc50
          refine o_aloadN X4 d2_53 rfl rfl 54 rfl ?_
          refine o_iloadN X4 d2_54 rfl 55 rfl ?_
          refine o_iconst (v := (3 : Int32)) X4 d2_55 rfl 56 rfl ?_
          refine o_iastore X4 H4 1 rfl d2_56 1 rfl (by show 1 < 4; decide) 57 rfl ?_
          intro T5 h5 X5 H5
          replace H5 : OL n0 h5 ((xc, OA Z .int [y0, y1, y2, y3, y4, y5, y6, y7]) :: (xl, OA Z .int [(1 : Int32), (3 : Int32), (0 : Int32), (0 : Int32)]) :: L') := H5
          refine o_iinc (v := (1 : Int32)) (w := (2 : Int32)) X5 d2_57 rfl rfl #[.val (.ref xc), .val (.int (4 : Int32)), .val (.ref xl), .val (.int (2 : Int32))] rfl 60 rfl ?_
          refine o_iloadN X5 d2_60 rfl 61 rfl ?_
          exact o_retI X5 d2_61 (by decide) (by decide) (hQ _ _ ⟨_, _, _, _, _, rfl, H5, by simp [f_F, f_r4, f_r3, f_r2, f_r1, f_r0, f_st, hc5, hc20, hc35, hc50]⟩)
      · intro hc35
        refine o_aloadN X4 d2_38 rfl rfl 39 rfl ?_
        refine o_iloadN X4 d2_39 rfl 40 rfl ?_
        refine o_iconst (v := (2 : Int32)) X4 d2_40 rfl 41 rfl ?_
        refine o_iastore X4 H4 1 rfl d2_41 1 rfl (by show 1 < 4; decide) 42 rfl ?_
        intro T6 h6 X6 H6
        replace H6 : OL n0 h6 ((xc, OA Z .int [y0, y1, y2, y3, y4, y5, y6, y7]) :: (xl, OA Z .int [(1 : Int32), (2 : Int32), (0 : Int32), (0 : Int32)]) :: L') := H6
        refine o_iinc (v := (1 : Int32)) (w := (2 : Int32)) X6 d2_42 rfl rfl #[.val (.ref xc), .val (.int (4 : Int32)), .val (.ref xl), .val (.int (2 : Int32))] rfl 45 rfl ?_
        refine o_aloadN X6 d2_45 rfl rfl 46 rfl ?_
        refine o_iloadN X6 d2_46 rfl 47 rfl ?_
        refine o_iconst (v := (3 : Int32)) X6 d2_47 rfl 48 rfl ?_
        refine o_iadd X6 d2_48 49 rfl ?_
        refine o_iaload X6 H6 0 rfl d2_49 7 rfl y7 rfl 50 rfl ?_
        refine o_ifLe X6 d2_50 60 53 (by decide) (by decide) rfl ?_ ?_
        · intro hc50
          refine o_iloadN X6 d2_60 rfl 61 rfl ?_
          exact o_retI X6 d2_61 (by decide) (by decide) (hQ _ _ ⟨_, _, _, _, _, rfl, H6, by simp [f_F, f_r4, f_r3, f_r2, f_r1, f_r0, f_st, hc5, hc20, hc35, hc50]⟩)
        · intro hc50
          refine o_aloadN X6 d2_53 rfl rfl 54 rfl ?_
          refine o_iloadN X6 d2_54 rfl 55 rfl ?_
          refine o_iconst (v := (3 : Int32)) X6 d2_55 rfl 56 rfl ?_
          refine o_iastore X6 H6 1 rfl d2_56 2 rfl (by show 2 < 4; decide) 57 rfl ?_
          intro T7 h7 X7 H7
          replace H7 : OL n0 h7 ((xc, OA Z .int [y0, y1, y2, y3, y4, y5, y6, y7]) :: (xl, OA Z .int [(1 : Int32), (2 : Int32), (3 : Int32), (0 : Int32)]) :: L') := H7
          refine o_iinc (v := (2 : Int32)) (w := (3 : Int32)) X7 d2_57 rfl rfl #[.val (.ref xc), .val (.int (4 : Int32)), .val (.ref xl), .val (.int (3 : Int32))] rfl 60 rfl ?_
          refine o_iloadN X7 d2_60 rfl 61 rfl ?_
          exact o_retI X7 d2_61 (by decide) (by decide) (hQ _ _ ⟨_, _, _, _, _, rfl, H7, by simp [f_F, f_r4, f_r3, f_r2, f_r1, f_r0, f_st, hc5, hc20, hc35, hc50]⟩)
  · intro hc5
    refine o_aloadN X0 d2_8 rfl rfl 9 rfl ?_
    refine o_iloadN X0 d2_9 rfl 10 rfl ?_
    refine o_iconst (v := (0 : Int32)) X0 d2_10 rfl 11 rfl ?_
    refine o_iastore X0 H0 1 rfl d2_11 0 rfl (by show 0 < 4; decide) 12 rfl ?_
    intro T8 h8 X8 H8
    replace H8 : OL n0 h8 ((xc, OA Z .int [y0, y1, y2, y3, y4, y5, y6, y7]) :: (xl, OA Z .int [(0 : Int32), (0 : Int32), (0 : Int32), (0 : Int32)]) :: L') := H8
    refine o_iinc (v := (0 : Int32)) (w := (1 : Int32)) X8 d2_12 rfl rfl #[.val (.ref xc), .val (.int (4 : Int32)), .val (.ref xl), .val (.int (1 : Int32))] rfl 15 rfl ?_
    refine o_aloadN X8 d2_15 rfl rfl 16 rfl ?_
    refine o_iloadN X8 d2_16 rfl 17 rfl ?_
    refine o_iconst (v := (1 : Int32)) X8 d2_17 rfl 18 rfl ?_
    refine o_iadd X8 d2_18 19 rfl ?_
    refine o_iaload X8 H8 0 rfl d2_19 5 rfl y5 rfl 20 rfl ?_
    refine o_ifLe X8 d2_20 30 23 (by decide) (by decide) rfl ?_ ?_
    · intro hc20
      refine o_aloadN X8 d2_30 rfl rfl 31 rfl ?_
      refine o_iloadN X8 d2_31 rfl 32 rfl ?_
      refine o_iconst (v := (2 : Int32)) X8 d2_32 rfl 33 rfl ?_
      refine o_iadd X8 d2_33 34 rfl ?_
      refine o_iaload X8 H8 0 rfl d2_34 6 rfl y6 rfl 35 rfl ?_
      refine o_ifLe X8 d2_35 45 38 (by decide) (by decide) rfl ?_ ?_
      · intro hc35
        refine o_aloadN X8 d2_45 rfl rfl 46 rfl ?_
        refine o_iloadN X8 d2_46 rfl 47 rfl ?_
        refine o_iconst (v := (3 : Int32)) X8 d2_47 rfl 48 rfl ?_
        refine o_iadd X8 d2_48 49 rfl ?_
        refine o_iaload X8 H8 0 rfl d2_49 7 rfl y7 rfl 50 rfl ?_
        refine o_ifLe X8 d2_50 60 53 (by decide) (by decide) rfl ?_ ?_
        · intro hc50
          refine o_iloadN X8 d2_60 rfl 61 rfl ?_
          exact o_retI X8 d2_61 (by decide) (by decide) (hQ _ _ ⟨_, _, _, _, _, rfl, H8, by simp [f_F, f_r4, f_r3, f_r2, f_r1, f_r0, f_st, hc5, hc20, hc35, hc50]⟩)
        · intro hc50
          refine o_aloadN X8 d2_53 rfl rfl 54 rfl ?_
          refine o_iloadN X8 d2_54 rfl 55 rfl ?_
          refine o_iconst (v := (3 : Int32)) X8 d2_55 rfl 56 rfl ?_
          refine o_iastore X8 H8 1 rfl d2_56 1 rfl (by show 1 < 4; decide) 57 rfl ?_
          intro T9 h9 X9 H9
          replace H9 : OL n0 h9 ((xc, OA Z .int [y0, y1, y2, y3, y4, y5, y6, y7]) :: (xl, OA Z .int [(0 : Int32), (3 : Int32), (0 : Int32), (0 : Int32)]) :: L') := H9
          refine o_iinc (v := (1 : Int32)) (w := (2 : Int32)) X9 d2_57 rfl rfl #[.val (.ref xc), .val (.int (4 : Int32)), .val (.ref xl), .val (.int (2 : Int32))] rfl 60 rfl ?_
          refine o_iloadN X9 d2_60 rfl 61 rfl ?_
          exact o_retI X9 d2_61 (by decide) (by decide) (hQ _ _ ⟨_, _, _, _, _, rfl, H9, by simp [f_F, f_r4, f_r3, f_r2, f_r1, f_r0, f_st, hc5, hc20, hc35, hc50]⟩)
      · intro hc35
        refine o_aloadN X8 d2_38 rfl rfl 39 rfl ?_
        refine o_iloadN X8 d2_39 rfl 40 rfl ?_
        refine o_iconst (v := (2 : Int32)) X8 d2_40 rfl 41 rfl ?_
        refine o_iastore X8 H8 1 rfl d2_41 1 rfl (by show 1 < 4; decide) 42 rfl ?_
        intro T10 h10 X10 H10
        replace H10 : OL n0 h10 ((xc, OA Z .int [y0, y1, y2, y3, y4, y5, y6, y7]) :: (xl, OA Z .int [(0 : Int32), (2 : Int32), (0 : Int32), (0 : Int32)]) :: L') := H10
        refine o_iinc (v := (1 : Int32)) (w := (2 : Int32)) X10 d2_42 rfl rfl #[.val (.ref xc), .val (.int (4 : Int32)), .val (.ref xl), .val (.int (2 : Int32))] rfl 45 rfl ?_
        refine o_aloadN X10 d2_45 rfl rfl 46 rfl ?_
        refine o_iloadN X10 d2_46 rfl 47 rfl ?_
        refine o_iconst (v := (3 : Int32)) X10 d2_47 rfl 48 rfl ?_
        refine o_iadd X10 d2_48 49 rfl ?_
        refine o_iaload X10 H10 0 rfl d2_49 7 rfl y7 rfl 50 rfl ?_
        refine o_ifLe X10 d2_50 60 53 (by decide) (by decide) rfl ?_ ?_
        · intro hc50
          refine o_iloadN X10 d2_60 rfl 61 rfl ?_
          exact o_retI X10 d2_61 (by decide) (by decide) (hQ _ _ ⟨_, _, _, _, _, rfl, H10, by simp [f_F, f_r4, f_r3, f_r2, f_r1, f_r0, f_st, hc5, hc20, hc35, hc50]⟩)
        · intro hc50
          refine o_aloadN X10 d2_53 rfl rfl 54 rfl ?_
          refine o_iloadN X10 d2_54 rfl 55 rfl ?_
          refine o_iconst (v := (3 : Int32)) X10 d2_55 rfl 56 rfl ?_
          refine o_iastore X10 H10 1 rfl d2_56 2 rfl (by show 2 < 4; decide) 57 rfl ?_
          intro T11 h11 X11 H11
          replace H11 : OL n0 h11 ((xc, OA Z .int [y0, y1, y2, y3, y4, y5, y6, y7]) :: (xl, OA Z .int [(0 : Int32), (2 : Int32), (3 : Int32), (0 : Int32)]) :: L') := H11
          refine o_iinc (v := (2 : Int32)) (w := (3 : Int32)) X11 d2_57 rfl rfl #[.val (.ref xc), .val (.int (4 : Int32)), .val (.ref xl), .val (.int (3 : Int32))] rfl 60 rfl ?_
          refine o_iloadN X11 d2_60 rfl 61 rfl ?_
          exact o_retI X11 d2_61 (by decide) (by decide) (hQ _ _ ⟨_, _, _, _, _, rfl, H11, by simp [f_F, f_r4, f_r3, f_r2, f_r1, f_r0, f_st, hc5, hc20, hc35, hc50]⟩)
    · intro hc20
      refine o_aloadN X8 d2_23 rfl rfl 24 rfl ?_
      refine o_iloadN X8 d2_24 rfl 25 rfl ?_
      refine o_iconst (v := (1 : Int32)) X8 d2_25 rfl 26 rfl ?_
      refine o_iastore X8 H8 1 rfl d2_26 1 rfl (by show 1 < 4; decide) 27 rfl ?_
      intro T12 h12 X12 H12
      replace H12 : OL n0 h12 ((xc, OA Z .int [y0, y1, y2, y3, y4, y5, y6, y7]) :: (xl, OA Z .int [(0 : Int32), (1 : Int32), (0 : Int32), (0 : Int32)]) :: L') := H12
      refine o_iinc (v := (1 : Int32)) (w := (2 : Int32)) X12 d2_27 rfl rfl #[.val (.ref xc), .val (.int (4 : Int32)), .val (.ref xl), .val (.int (2 : Int32))] rfl 30 rfl ?_
      refine o_aloadN X12 d2_30 rfl rfl 31 rfl ?_
      refine o_iloadN X12 d2_31 rfl 32 rfl ?_
      refine o_iconst (v := (2 : Int32)) X12 d2_32 rfl 33 rfl ?_
      refine o_iadd X12 d2_33 34 rfl ?_
      refine o_iaload X12 H12 0 rfl d2_34 6 rfl y6 rfl 35 rfl ?_
      refine o_ifLe X12 d2_35 45 38 (by decide) (by decide) rfl ?_ ?_
      · intro hc35
        refine o_aloadN X12 d2_45 rfl rfl 46 rfl ?_
        refine o_iloadN X12 d2_46 rfl 47 rfl ?_
        refine o_iconst (v := (3 : Int32)) X12 d2_47 rfl 48 rfl ?_
        refine o_iadd X12 d2_48 49 rfl ?_
        refine o_iaload X12 H12 0 rfl d2_49 7 rfl y7 rfl 50 rfl ?_
        refine o_ifLe X12 d2_50 60 53 (by decide) (by decide) rfl ?_ ?_
        · intro hc50
          refine o_iloadN X12 d2_60 rfl 61 rfl ?_
          exact o_retI X12 d2_61 (by decide) (by decide) (hQ _ _ ⟨_, _, _, _, _, rfl, H12, by simp [f_F, f_r4, f_r3, f_r2, f_r1, f_r0, f_st, hc5, hc20, hc35, hc50]⟩)
        · intro hc50
          refine o_aloadN X12 d2_53 rfl rfl 54 rfl ?_
          refine o_iloadN X12 d2_54 rfl 55 rfl ?_
          refine o_iconst (v := (3 : Int32)) X12 d2_55 rfl 56 rfl ?_
          refine o_iastore X12 H12 1 rfl d2_56 2 rfl (by show 2 < 4; decide) 57 rfl ?_
          intro T13 h13 X13 H13
          replace H13 : OL n0 h13 ((xc, OA Z .int [y0, y1, y2, y3, y4, y5, y6, y7]) :: (xl, OA Z .int [(0 : Int32), (1 : Int32), (3 : Int32), (0 : Int32)]) :: L') := H13
          refine o_iinc (v := (2 : Int32)) (w := (3 : Int32)) X13 d2_57 rfl rfl #[.val (.ref xc), .val (.int (4 : Int32)), .val (.ref xl), .val (.int (3 : Int32))] rfl 60 rfl ?_
          refine o_iloadN X13 d2_60 rfl 61 rfl ?_
          exact o_retI X13 d2_61 (by decide) (by decide) (hQ _ _ ⟨_, _, _, _, _, rfl, H13, by simp [f_F, f_r4, f_r3, f_r2, f_r1, f_r0, f_st, hc5, hc20, hc35, hc50]⟩)
      · intro hc35
        refine o_aloadN X12 d2_38 rfl rfl 39 rfl ?_
        refine o_iloadN X12 d2_39 rfl 40 rfl ?_
        refine o_iconst (v := (2 : Int32)) X12 d2_40 rfl 41 rfl ?_
        refine o_iastore X12 H12 1 rfl d2_41 2 rfl (by show 2 < 4; decide) 42 rfl ?_
        intro T14 h14 X14 H14
        replace H14 : OL n0 h14 ((xc, OA Z .int [y0, y1, y2, y3, y4, y5, y6, y7]) :: (xl, OA Z .int [(0 : Int32), (1 : Int32), (2 : Int32), (0 : Int32)]) :: L') := H14
        refine o_iinc (v := (2 : Int32)) (w := (3 : Int32)) X14 d2_42 rfl rfl #[.val (.ref xc), .val (.int (4 : Int32)), .val (.ref xl), .val (.int (3 : Int32))] rfl 45 rfl ?_
        refine o_aloadN X14 d2_45 rfl rfl 46 rfl ?_
        refine o_iloadN X14 d2_46 rfl 47 rfl ?_
        refine o_iconst (v := (3 : Int32)) X14 d2_47 rfl 48 rfl ?_
        refine o_iadd X14 d2_48 49 rfl ?_
        refine o_iaload X14 H14 0 rfl d2_49 7 rfl y7 rfl 50 rfl ?_
        refine o_ifLe X14 d2_50 60 53 (by decide) (by decide) rfl ?_ ?_
        · intro hc50
          refine o_iloadN X14 d2_60 rfl 61 rfl ?_
          exact o_retI X14 d2_61 (by decide) (by decide) (hQ _ _ ⟨_, _, _, _, _, rfl, H14, by simp [f_F, f_r4, f_r3, f_r2, f_r1, f_r0, f_st, hc5, hc20, hc35, hc50]⟩)
        · intro hc50
          refine o_aloadN X14 d2_53 rfl rfl 54 rfl ?_
          refine o_iloadN X14 d2_54 rfl 55 rfl ?_
          refine o_iconst (v := (3 : Int32)) X14 d2_55 rfl 56 rfl ?_
          refine o_iastore X14 H14 1 rfl d2_56 3 rfl (by show 3 < 4; decide) 57 rfl ?_
          intro T15 h15 X15 H15
          replace H15 : OL n0 h15 ((xc, OA Z .int [y0, y1, y2, y3, y4, y5, y6, y7]) :: (xl, OA Z .int [(0 : Int32), (1 : Int32), (2 : Int32), (3 : Int32)]) :: L') := H15
          refine o_iinc (v := (3 : Int32)) (w := (4 : Int32)) X15 d2_57 rfl rfl #[.val (.ref xc), .val (.int (4 : Int32)), .val (.ref xl), .val (.int (4 : Int32))] rfl 60 rfl ?_
          refine o_iloadN X15 d2_60 rfl 61 rfl ?_
          exact o_retI X15 d2_61 (by decide) (by decide) (hQ _ _ ⟨_, _, _, _, _, rfl, H15, by simp [f_F, f_r4, f_r3, f_r2, f_r1, f_r0, f_st, hc5, hc20, hc35, hc50]⟩)
set_option maxRecDepth 65536 in
set_option maxHeartbeats 40000000 in
theorem c_put (l : Launch) (Z : State) (a0 : Array Value) (hw : ∀ d ∈ tables_1, d.before a0 Z = true) (ws : List Jvm.Cond) (n0 : Nat) (h0 : Heap) (hn0 : n0 ≤ h0.size) (xe : Addr) (xo : Int32) (xl : Addr) (xn : Int32) (E : List Int32) (p0 p1 p2 p3 : Int32) (L' : List (Addr × (Cell → Prop))) (H0 : OL n0 h0 ((xe, OA Z .int E) :: (xl, OA Z .int [p0, p1, p2, p3]) :: L')) (o n : Nat) (ho : xo.toInt = o) (hn : xn.toInt = n) (hn4 : n ≤ 4) (hl : o + n ≤ E.length) (hb : o < 50) :
    OC l Z (⟨"com/example/palamedes/palamedes/lda/NonzeroTopicsRemovePinLaw", "put", "([II[II)V"⟩ : MethodName) method_3_code 4 none ws ({ frames := 0, cells := 0, slots := 0, locals := 0 } : Room) n0 #[(.ref xe), (.int xo), (.ref xl), (.int xn)] h0 (fun r h => ∃ E' : List Int32, r = none ∧ OL n0 h ((xe, OA Z .int E') :: (xl, OA Z .int [p0, p1, p2, p3]) :: L') ∧ f_P E E' o n [p0, p1, p2, p3]) := by
  refine OC.of (plainFor_of_name pn_1) hn0 #[.val (.ref xe), .val (.int xo), .val (.ref xl), .val (.int xn)] (fun m => by first | (simp [entryFrame, mkF, argsToLocals, Value.category, maxLocals]; done) | rfl) ?_
  intro p e s m below meth cd0 T0 X0 Q' hQ
  rcases v_lit4 xn n hn hn4 with ⟨rfl, rfl⟩ | ⟨rfl, rfl⟩ | ⟨rfl, rfl⟩ | ⟨rfl, rfl⟩ | ⟨rfl, rfl⟩
  · skip
    refine o_iloadN X0 d3_0 rfl 1 rfl ?_
    refine o_ifLe X0 d3_1 10 4 (by decide) (by decide) rfl ?_ (fun q => by exfalso; exact absurd q (by decide))
    intro hc1
    refine o_iloadN X0 d3_10 rfl 11 rfl ?_
    refine o_iconst (v := (1 : Int32)) X0 d3_11 rfl 12 rfl ?_
    refine o_icmpLe X0 d3_12 23 15 (by decide) (by decide) rfl ?_ (fun q => by exfalso; exact absurd q (by decide))
    intro hc12
    refine o_iloadN X0 d3_23 rfl 24 rfl ?_
    refine o_iconst (v := (2 : Int32)) X0 d3_24 rfl 25 rfl ?_
    refine o_icmpLe X0 d3_25 36 28 (by decide) (by decide) rfl ?_ (fun q => by exfalso; exact absurd q (by decide))
    intro hc25
    refine o_iloadN X0 d3_36 rfl 37 rfl ?_
    refine o_iconst (v := (3 : Int32)) X0 d3_37 rfl 38 rfl ?_
    refine o_icmpLe X0 d3_38 49 41 (by decide) (by decide) rfl ?_ (fun q => by exfalso; exact absurd q (by decide))
    intro hc38
    exact o_ret X0 d3_49 (by decide) (by decide) (hQ _ _ ⟨_, rfl, H0, (v_P0 _ _ _)⟩)
  · skip
    refine o_iloadN X0 d3_0 rfl 1 rfl ?_
    refine o_ifLe X0 d3_1 10 4 (by decide) (by decide) rfl (fun q => by exfalso; exact absurd q (by decide)) ?_
    intro hc1
    refine o_aloadN X0 d3_4 rfl rfl 5 rfl ?_
    refine o_iloadN X0 d3_5 rfl 6 rfl ?_
    refine o_aloadN X0 d3_6 rfl rfl 7 rfl ?_
    refine o_iconst (v := (0 : Int32)) X0 d3_7 rfl 8 rfl ?_
    refine o_iaload X0 H0 1 rfl d3_8 0 rfl p0 rfl 9 rfl ?_
    refine o_iastore X0 H0 0 rfl d3_9 (o + 0) ho (by first | omega | (simp; omega)) 10 rfl ?_
    intro T1 h1 X1 H1
    replace H1 : OL n0 h1 ((xe, OA Z .int (List.set E (o + 0) p0)) :: (xl, OA Z .int [p0, p1, p2, p3]) :: L') := H1
    refine o_iloadN X1 d3_10 rfl 11 rfl ?_
    refine o_iconst (v := (1 : Int32)) X1 d3_11 rfl 12 rfl ?_
    refine o_icmpLe X1 d3_12 23 15 (by decide) (by decide) rfl ?_ (fun q => by exfalso; exact absurd q (by decide))
    intro hc12
    refine o_iloadN X1 d3_23 rfl 24 rfl ?_
    refine o_iconst (v := (2 : Int32)) X1 d3_24 rfl 25 rfl ?_
    refine o_icmpLe X1 d3_25 36 28 (by decide) (by decide) rfl ?_ (fun q => by exfalso; exact absurd q (by decide))
    intro hc25
    refine o_iloadN X1 d3_36 rfl 37 rfl ?_
    refine o_iconst (v := (3 : Int32)) X1 d3_37 rfl 38 rfl ?_
    refine o_icmpLe X1 d3_38 49 41 (by decide) (by decide) rfl ?_ (fun q => by exfalso; exact absurd q (by decide))
    intro hc38
    exact o_ret X1 d3_49 (by decide) (by decide) (hQ _ _ ⟨_, rfl, H1, (v_PS _ _ _ 0 _ _ (v_P0 _ _ _) rfl (by omega))⟩)
  · skip
    refine o_iloadN X0 d3_0 rfl 1 rfl ?_
    refine o_ifLe X0 d3_1 10 4 (by decide) (by decide) rfl (fun q => by exfalso; exact absurd q (by decide)) ?_
    intro hc1
    refine o_aloadN X0 d3_4 rfl rfl 5 rfl ?_
    refine o_iloadN X0 d3_5 rfl 6 rfl ?_
    refine o_aloadN X0 d3_6 rfl rfl 7 rfl ?_
    refine o_iconst (v := (0 : Int32)) X0 d3_7 rfl 8 rfl ?_
    refine o_iaload X0 H0 1 rfl d3_8 0 rfl p0 rfl 9 rfl ?_
    refine o_iastore X0 H0 0 rfl d3_9 (o + 0) ho (by first | omega | (simp; omega)) 10 rfl ?_
    intro T2 h2 X2 H2
    replace H2 : OL n0 h2 ((xe, OA Z .int (List.set E (o + 0) p0)) :: (xl, OA Z .int [p0, p1, p2, p3]) :: L') := H2
    refine o_iloadN X2 d3_10 rfl 11 rfl ?_
    refine o_iconst (v := (1 : Int32)) X2 d3_11 rfl 12 rfl ?_
    refine o_icmpLe X2 d3_12 23 15 (by decide) (by decide) rfl (fun q => by exfalso; exact absurd q (by decide)) ?_
    intro hc12
    refine o_aloadN X2 d3_15 rfl rfl 16 rfl ?_
    refine o_iloadN X2 d3_16 rfl 17 rfl ?_
    refine o_iconst (v := (1 : Int32)) X2 d3_17 rfl 18 rfl ?_
    refine o_iadd X2 d3_18 19 rfl ?_
    refine o_aloadN X2 d3_19 rfl rfl 20 rfl ?_
    refine o_iconst (v := (1 : Int32)) X2 d3_20 rfl 21 rfl ?_
    refine o_iaload X2 H2 1 rfl d3_21 1 rfl p1 rfl 22 rfl ?_
    refine o_iastore X2 H2 0 rfl d3_22 (o + 1) (v_ad xo 1 o 1 ho rfl (by omega) (by decide)) (by first | omega | (simp; omega)) 23 rfl ?_
    intro T3 h3 X3 H3
    replace H3 : OL n0 h3 ((xe, OA Z .int (List.set (List.set E (o + 0) p0) (o + 1) p1)) :: (xl, OA Z .int [p0, p1, p2, p3]) :: L') := H3
    refine o_iloadN X3 d3_23 rfl 24 rfl ?_
    refine o_iconst (v := (2 : Int32)) X3 d3_24 rfl 25 rfl ?_
    refine o_icmpLe X3 d3_25 36 28 (by decide) (by decide) rfl ?_ (fun q => by exfalso; exact absurd q (by decide))
    intro hc25
    refine o_iloadN X3 d3_36 rfl 37 rfl ?_
    refine o_iconst (v := (3 : Int32)) X3 d3_37 rfl 38 rfl ?_
    refine o_icmpLe X3 d3_38 49 41 (by decide) (by decide) rfl ?_ (fun q => by exfalso; exact absurd q (by decide))
    intro hc38
    exact o_ret X3 d3_49 (by decide) (by decide) (hQ _ _ ⟨_, rfl, H3, (v_PS _ _ _ 1 _ _ (v_PS _ _ _ 0 _ _ (v_P0 _ _ _) rfl (by omega)) rfl (by omega))⟩)
  · skip
    refine o_iloadN X0 d3_0 rfl 1 rfl ?_
    refine o_ifLe X0 d3_1 10 4 (by decide) (by decide) rfl (fun q => by exfalso; exact absurd q (by decide)) ?_
    intro hc1
    refine o_aloadN X0 d3_4 rfl rfl 5 rfl ?_
    refine o_iloadN X0 d3_5 rfl 6 rfl ?_
    refine o_aloadN X0 d3_6 rfl rfl 7 rfl ?_
    refine o_iconst (v := (0 : Int32)) X0 d3_7 rfl 8 rfl ?_
    refine o_iaload X0 H0 1 rfl d3_8 0 rfl p0 rfl 9 rfl ?_
    refine o_iastore X0 H0 0 rfl d3_9 (o + 0) ho (by first | omega | (simp; omega)) 10 rfl ?_
    intro T4 h4 X4 H4
    replace H4 : OL n0 h4 ((xe, OA Z .int (List.set E (o + 0) p0)) :: (xl, OA Z .int [p0, p1, p2, p3]) :: L') := H4
    refine o_iloadN X4 d3_10 rfl 11 rfl ?_
    refine o_iconst (v := (1 : Int32)) X4 d3_11 rfl 12 rfl ?_
    refine o_icmpLe X4 d3_12 23 15 (by decide) (by decide) rfl (fun q => by exfalso; exact absurd q (by decide)) ?_
    intro hc12
    refine o_aloadN X4 d3_15 rfl rfl 16 rfl ?_
    refine o_iloadN X4 d3_16 rfl 17 rfl ?_
    refine o_iconst (v := (1 : Int32)) X4 d3_17 rfl 18 rfl ?_
    refine o_iadd X4 d3_18 19 rfl ?_
    refine o_aloadN X4 d3_19 rfl rfl 20 rfl ?_
    refine o_iconst (v := (1 : Int32)) X4 d3_20 rfl 21 rfl ?_
    refine o_iaload X4 H4 1 rfl d3_21 1 rfl p1 rfl 22 rfl ?_
    refine o_iastore X4 H4 0 rfl d3_22 (o + 1) (v_ad xo 1 o 1 ho rfl (by omega) (by decide)) (by first | omega | (simp; omega)) 23 rfl ?_
    intro T5 h5 X5 H5
    replace H5 : OL n0 h5 ((xe, OA Z .int (List.set (List.set E (o + 0) p0) (o + 1) p1)) :: (xl, OA Z .int [p0, p1, p2, p3]) :: L') := H5
    refine o_iloadN X5 d3_23 rfl 24 rfl ?_
    refine o_iconst (v := (2 : Int32)) X5 d3_24 rfl 25 rfl ?_
    refine o_icmpLe X5 d3_25 36 28 (by decide) (by decide) rfl (fun q => by exfalso; exact absurd q (by decide)) ?_
    intro hc25
    refine o_aloadN X5 d3_28 rfl rfl 29 rfl ?_
    refine o_iloadN X5 d3_29 rfl 30 rfl ?_
    refine o_iconst (v := (2 : Int32)) X5 d3_30 rfl 31 rfl ?_
    refine o_iadd X5 d3_31 32 rfl ?_
    refine o_aloadN X5 d3_32 rfl rfl 33 rfl ?_
    refine o_iconst (v := (2 : Int32)) X5 d3_33 rfl 34 rfl ?_
    refine o_iaload X5 H5 1 rfl d3_34 2 rfl p2 rfl 35 rfl ?_
    refine o_iastore X5 H5 0 rfl d3_35 (o + 2) (v_ad xo 2 o 2 ho rfl (by omega) (by decide)) (by first | omega | (simp; omega)) 36 rfl ?_
    intro T6 h6 X6 H6
    replace H6 : OL n0 h6 ((xe, OA Z .int (List.set (List.set (List.set E (o + 0) p0) (o + 1) p1) (o + 2) p2)) :: (xl, OA Z .int [p0, p1, p2, p3]) :: L') := H6
    refine o_iloadN X6 d3_36 rfl 37 rfl ?_
    refine o_iconst (v := (3 : Int32)) X6 d3_37 rfl 38 rfl ?_
    refine o_icmpLe X6 d3_38 49 41 (by decide) (by decide) rfl ?_ (fun q => by exfalso; exact absurd q (by decide))
    intro hc38
    exact o_ret X6 d3_49 (by decide) (by decide) (hQ _ _ ⟨_, rfl, H6, (v_PS _ _ _ 2 _ _ (v_PS _ _ _ 1 _ _ (v_PS _ _ _ 0 _ _ (v_P0 _ _ _) rfl (by omega)) rfl (by omega)) rfl (by omega))⟩)
  · skip
    refine o_iloadN X0 d3_0 rfl 1 rfl ?_
    refine o_ifLe X0 d3_1 10 4 (by decide) (by decide) rfl (fun q => by exfalso; exact absurd q (by decide)) ?_
    intro hc1
    refine o_aloadN X0 d3_4 rfl rfl 5 rfl ?_
    refine o_iloadN X0 d3_5 rfl 6 rfl ?_
    refine o_aloadN X0 d3_6 rfl rfl 7 rfl ?_
    refine o_iconst (v := (0 : Int32)) X0 d3_7 rfl 8 rfl ?_
    refine o_iaload X0 H0 1 rfl d3_8 0 rfl p0 rfl 9 rfl ?_
    refine o_iastore X0 H0 0 rfl d3_9 (o + 0) ho (by first | omega | (simp; omega)) 10 rfl ?_
    intro T7 h7 X7 H7
    replace H7 : OL n0 h7 ((xe, OA Z .int (List.set E (o + 0) p0)) :: (xl, OA Z .int [p0, p1, p2, p3]) :: L') := H7
    refine o_iloadN X7 d3_10 rfl 11 rfl ?_
    refine o_iconst (v := (1 : Int32)) X7 d3_11 rfl 12 rfl ?_
    refine o_icmpLe X7 d3_12 23 15 (by decide) (by decide) rfl (fun q => by exfalso; exact absurd q (by decide)) ?_
    intro hc12
    refine o_aloadN X7 d3_15 rfl rfl 16 rfl ?_
    refine o_iloadN X7 d3_16 rfl 17 rfl ?_
    refine o_iconst (v := (1 : Int32)) X7 d3_17 rfl 18 rfl ?_
    refine o_iadd X7 d3_18 19 rfl ?_
    refine o_aloadN X7 d3_19 rfl rfl 20 rfl ?_
    refine o_iconst (v := (1 : Int32)) X7 d3_20 rfl 21 rfl ?_
    refine o_iaload X7 H7 1 rfl d3_21 1 rfl p1 rfl 22 rfl ?_
    refine o_iastore X7 H7 0 rfl d3_22 (o + 1) (v_ad xo 1 o 1 ho rfl (by omega) (by decide)) (by first | omega | (simp; omega)) 23 rfl ?_
    intro T8 h8 X8 H8
    replace H8 : OL n0 h8 ((xe, OA Z .int (List.set (List.set E (o + 0) p0) (o + 1) p1)) :: (xl, OA Z .int [p0, p1, p2, p3]) :: L') := H8
    refine o_iloadN X8 d3_23 rfl 24 rfl ?_
    refine o_iconst (v := (2 : Int32)) X8 d3_24 rfl 25 rfl ?_
    refine o_icmpLe X8 d3_25 36 28 (by decide) (by decide) rfl (fun q => by exfalso; exact absurd q (by decide)) ?_
    intro hc25
    refine o_aloadN X8 d3_28 rfl rfl 29 rfl ?_
    refine o_iloadN X8 d3_29 rfl 30 rfl ?_
    refine o_iconst (v := (2 : Int32)) X8 d3_30 rfl 31 rfl ?_
    refine o_iadd X8 d3_31 32 rfl ?_
    refine o_aloadN X8 d3_32 rfl rfl 33 rfl ?_
    refine o_iconst (v := (2 : Int32)) X8 d3_33 rfl 34 rfl ?_
    refine o_iaload X8 H8 1 rfl d3_34 2 rfl p2 rfl 35 rfl ?_
    refine o_iastore X8 H8 0 rfl d3_35 (o + 2) (v_ad xo 2 o 2 ho rfl (by omega) (by decide)) (by first | omega | (simp; omega)) 36 rfl ?_
    intro T9 h9 X9 H9
    replace H9 : OL n0 h9 ((xe, OA Z .int (List.set (List.set (List.set E (o + 0) p0) (o + 1) p1) (o + 2) p2)) :: (xl, OA Z .int [p0, p1, p2, p3]) :: L') := H9
    refine o_iloadN X9 d3_36 rfl 37 rfl ?_
    refine o_iconst (v := (3 : Int32)) X9 d3_37 rfl 38 rfl ?_
    refine o_icmpLe X9 d3_38 49 41 (by decide) (by decide) rfl (fun q => by exfalso; exact absurd q (by decide)) ?_
    intro hc38
    refine o_aloadN X9 d3_41 rfl rfl 42 rfl ?_
    refine o_iloadN X9 d3_42 rfl 43 rfl ?_
    refine o_iconst (v := (3 : Int32)) X9 d3_43 rfl 44 rfl ?_
    refine o_iadd X9 d3_44 45 rfl ?_
    refine o_aloadN X9 d3_45 rfl rfl 46 rfl ?_
    refine o_iconst (v := (3 : Int32)) X9 d3_46 rfl 47 rfl ?_
    refine o_iaload X9 H9 1 rfl d3_47 3 rfl p3 rfl 48 rfl ?_
    refine o_iastore X9 H9 0 rfl d3_48 (o + 3) (v_ad xo 3 o 3 ho rfl (by omega) (by decide)) (by first | omega | (simp; omega)) 49 rfl ?_
    intro T10 h10 X10 H10
    replace H10 : OL n0 h10 ((xe, OA Z .int (List.set (List.set (List.set (List.set E (o + 0) p0) (o + 1) p1) (o + 2) p2) (o + 3) p3)) :: (xl, OA Z .int [p0, p1, p2, p3]) :: L') := H10
    exact o_ret X10 d3_49 (by decide) (by decide) (hQ _ _ ⟨_, rfl, H10, (v_PS _ _ _ 3 _ _ (v_PS _ _ _ 2 _ _ (v_PS _ _ _ 1 _ _ (v_PS _ _ _ 0 _ _ (v_P0 _ _ _) rfl (by omega)) rfl (by omega)) rfl (by omega)) rfl (by omega))⟩)
set_option maxRecDepth 65536 in
set_option maxHeartbeats 40000000 in
theorem c_add0 (l : Launch) (Z : State) (a0 : Array Value) (hw : ∀ d ∈ tables_1, d.before a0 Z = true) (ws : List Jvm.Cond) (n0 : Nat) (h0 : Heap) (hn0 : n0 ≤ h0.size) (xo xs xl xt : Addr) (s0 s1 s2 m0 m1 : Int32) (tl : List Int32) (L' : List (Addr × (Cell → Prop))) (H0 : OL n0 h0 ((xo, OO Z "com/example/palamedes/palamedes/lda/NonzeroTopics" [("com/example/palamedes/palamedes/lda/NonzeroTopics", "starts", "[I", .ref xs), ("com/example/palamedes/palamedes/lda/NonzeroTopics", "lengths", "[I", .ref xl), ("com/example/palamedes/palamedes/lda/NonzeroTopics", "topics", "[I", .ref xt)]) :: (xs, OA Z .int [s0, s1, s2]) :: (xl, OA Z .int [m0, m1]) :: (xt, OA Z .int tl) :: L')) (xj : Int32) (q : Nat) (hq : (s0 + m0).toInt = q) (hq2 : q < tl.length) :
    OC l Z (⟨"com/example/palamedes/palamedes/lda/NonzeroTopics", "add", "(II)V"⟩ : MethodName) prog_40_method_6_code 3 none ws ({ frames := 0, cells := 0, slots := 0, locals := 0 } : Room) n0 #[(.ref xo), (.int (0 : Int32)), (.int xj)] h0 (fun r h => r = none ∧ OL n0 h ((xo, OO Z "com/example/palamedes/palamedes/lda/NonzeroTopics" [("com/example/palamedes/palamedes/lda/NonzeroTopics", "starts", "[I", .ref xs), ("com/example/palamedes/palamedes/lda/NonzeroTopics", "lengths", "[I", .ref xl), ("com/example/palamedes/palamedes/lda/NonzeroTopics", "topics", "[I", .ref xt)]) :: (xs, OA Z .int [s0, s1, s2]) :: (xl, OA Z .int [(m0 + (1 : Int32)), m1]) :: (xt, OA Z .int (List.set tl q xj)) :: L')) := by
  refine OC.of (plainFor_of_name pn_2) hn0 #[.val (.ref xo), .val (.int (0 : Int32)), .val (.int xj)] (fun m => by first | (simp [entryFrame, mkF, argsToLocals, Value.category, maxLocals]; done) | rfl) ?_
  intro p e s m below meth cd0 T0 X0 Q' hQ
  refine o_aloadN X0 d8_0 rfl rfl 1 rfl ?_
  refine o_getF X0 H0 0 rfl d8_1 2 rfl (hw _ (List.mem_of_getElem? (i := 31) rfl)) 4 rfl ?_
  intro T1 X1
  refine o_aloadN X1 d8_4 rfl rfl 5 rfl ?_
  refine o_getF X1 H0 0 rfl d8_5 0 rfl (hw _ (List.mem_of_getElem? (i := 21) rfl)) 8 rfl ?_
  intro T2 X2
  refine o_iloadN X2 d8_8 rfl 9 rfl ?_
  refine o_iaload X2 H0 1 rfl d8_9 0 rfl s0 rfl 10 rfl ?_
  refine o_aloadN X2 d8_10 rfl rfl 11 rfl ?_
  refine o_getF X2 H0 0 rfl d8_11 1 rfl (hw _ (List.mem_of_getElem? (i := 23) rfl)) 14 rfl ?_
  intro T3 X3
  refine o_iloadN X3 d8_14 rfl 15 rfl ?_
  refine o_iaload X3 H0 2 rfl d8_15 0 rfl m0 rfl 16 rfl ?_
  refine o_iadd X3 d8_16 17 rfl ?_
  refine o_iloadN X3 d8_17 rfl 18 rfl ?_
  refine o_iastore X3 H0 3 rfl d8_18 q hq hq2 19 rfl ?_
  intro T4 h4 X4 H4
  replace H4 : OL n0 h4 ((xo, OO Z "com/example/palamedes/palamedes/lda/NonzeroTopics" [("com/example/palamedes/palamedes/lda/NonzeroTopics", "starts", "[I", .ref xs), ("com/example/palamedes/palamedes/lda/NonzeroTopics", "lengths", "[I", .ref xl), ("com/example/palamedes/palamedes/lda/NonzeroTopics", "topics", "[I", .ref xt)]) :: (xs, OA Z .int [s0, s1, s2]) :: (xl, OA Z .int [m0, m1]) :: (xt, OA Z .int (List.set tl q xj)) :: L') := H4
  refine o_aloadN X4 d8_19 rfl rfl 20 rfl ?_
  refine o_getF X4 H4 0 rfl d8_20 1 rfl (hw _ (List.mem_of_getElem? (i := 23) rfl)) 23 rfl ?_
  intro T5 X5
  refine o_iloadN X5 d8_23 rfl 24 rfl ?_
  refine o_dup2 X5 d8_24 rfl rfl 25 rfl ?_
  refine o_iaload X5 H4 2 rfl d8_25 0 rfl m0 rfl 26 rfl ?_
  refine o_iconst (v := (1 : Int32)) X5 d8_26 rfl 27 rfl ?_
  refine o_iadd X5 d8_27 28 rfl ?_
  refine o_iastore X5 H4 2 rfl d8_28 0 rfl (by show 0 < 2; decide) 29 rfl ?_
  intro T6 h6 X6 H6
  replace H6 : OL n0 h6 ((xo, OO Z "com/example/palamedes/palamedes/lda/NonzeroTopics" [("com/example/palamedes/palamedes/lda/NonzeroTopics", "starts", "[I", .ref xs), ("com/example/palamedes/palamedes/lda/NonzeroTopics", "lengths", "[I", .ref xl), ("com/example/palamedes/palamedes/lda/NonzeroTopics", "topics", "[I", .ref xt)]) :: (xs, OA Z .int [s0, s1, s2]) :: (xl, OA Z .int [(m0 + (1 : Int32)), m1]) :: (xt, OA Z .int (List.set tl q xj)) :: L') := H6
  exact o_ret X6 d8_29 (by decide) (by decide) (hQ _ _ ⟨rfl, H6⟩)
set_option maxRecDepth 65536 in
set_option maxHeartbeats 40000000 in
theorem c_add1 (l : Launch) (Z : State) (a0 : Array Value) (hw : ∀ d ∈ tables_1, d.before a0 Z = true) (ws : List Jvm.Cond) (n0 : Nat) (h0 : Heap) (hn0 : n0 ≤ h0.size) (xo xs xl xt : Addr) (s0 s1 s2 m0 m1 : Int32) (tl : List Int32) (L' : List (Addr × (Cell → Prop))) (H0 : OL n0 h0 ((xo, OO Z "com/example/palamedes/palamedes/lda/NonzeroTopics" [("com/example/palamedes/palamedes/lda/NonzeroTopics", "starts", "[I", .ref xs), ("com/example/palamedes/palamedes/lda/NonzeroTopics", "lengths", "[I", .ref xl), ("com/example/palamedes/palamedes/lda/NonzeroTopics", "topics", "[I", .ref xt)]) :: (xs, OA Z .int [s0, s1, s2]) :: (xl, OA Z .int [m0, m1]) :: (xt, OA Z .int tl) :: L')) (xj : Int32) (q : Nat) (hq : (s1 + m1).toInt = q) (hq2 : q < tl.length) :
    OC l Z (⟨"com/example/palamedes/palamedes/lda/NonzeroTopics", "add", "(II)V"⟩ : MethodName) prog_40_method_6_code 3 none ws ({ frames := 0, cells := 0, slots := 0, locals := 0 } : Room) n0 #[(.ref xo), (.int (1 : Int32)), (.int xj)] h0 (fun r h => r = none ∧ OL n0 h ((xo, OO Z "com/example/palamedes/palamedes/lda/NonzeroTopics" [("com/example/palamedes/palamedes/lda/NonzeroTopics", "starts", "[I", .ref xs), ("com/example/palamedes/palamedes/lda/NonzeroTopics", "lengths", "[I", .ref xl), ("com/example/palamedes/palamedes/lda/NonzeroTopics", "topics", "[I", .ref xt)]) :: (xs, OA Z .int [s0, s1, s2]) :: (xl, OA Z .int [m0, (m1 + (1 : Int32))]) :: (xt, OA Z .int (List.set tl q xj)) :: L')) := by
  refine OC.of (plainFor_of_name pn_2) hn0 #[.val (.ref xo), .val (.int (1 : Int32)), .val (.int xj)] (fun m => by first | (simp [entryFrame, mkF, argsToLocals, Value.category, maxLocals]; done) | rfl) ?_
  intro p e s m below meth cd0 T0 X0 Q' hQ
  refine o_aloadN X0 d8_0 rfl rfl 1 rfl ?_
  refine o_getF X0 H0 0 rfl d8_1 2 rfl (hw _ (List.mem_of_getElem? (i := 31) rfl)) 4 rfl ?_
  intro T1 X1
  refine o_aloadN X1 d8_4 rfl rfl 5 rfl ?_
  refine o_getF X1 H0 0 rfl d8_5 0 rfl (hw _ (List.mem_of_getElem? (i := 21) rfl)) 8 rfl ?_
  intro T2 X2
  refine o_iloadN X2 d8_8 rfl 9 rfl ?_
  refine o_iaload X2 H0 1 rfl d8_9 1 rfl s1 rfl 10 rfl ?_
  refine o_aloadN X2 d8_10 rfl rfl 11 rfl ?_
  refine o_getF X2 H0 0 rfl d8_11 1 rfl (hw _ (List.mem_of_getElem? (i := 23) rfl)) 14 rfl ?_
  intro T3 X3
  refine o_iloadN X3 d8_14 rfl 15 rfl ?_
  refine o_iaload X3 H0 2 rfl d8_15 1 rfl m1 rfl 16 rfl ?_
  refine o_iadd X3 d8_16 17 rfl ?_
  refine o_iloadN X3 d8_17 rfl 18 rfl ?_
  refine o_iastore X3 H0 3 rfl d8_18 q hq hq2 19 rfl ?_
  intro T4 h4 X4 H4
  replace H4 : OL n0 h4 ((xo, OO Z "com/example/palamedes/palamedes/lda/NonzeroTopics" [("com/example/palamedes/palamedes/lda/NonzeroTopics", "starts", "[I", .ref xs), ("com/example/palamedes/palamedes/lda/NonzeroTopics", "lengths", "[I", .ref xl), ("com/example/palamedes/palamedes/lda/NonzeroTopics", "topics", "[I", .ref xt)]) :: (xs, OA Z .int [s0, s1, s2]) :: (xl, OA Z .int [m0, m1]) :: (xt, OA Z .int (List.set tl q xj)) :: L') := H4
  refine o_aloadN X4 d8_19 rfl rfl 20 rfl ?_
  refine o_getF X4 H4 0 rfl d8_20 1 rfl (hw _ (List.mem_of_getElem? (i := 23) rfl)) 23 rfl ?_
  intro T5 X5
  refine o_iloadN X5 d8_23 rfl 24 rfl ?_
  refine o_dup2 X5 d8_24 rfl rfl 25 rfl ?_
  refine o_iaload X5 H4 2 rfl d8_25 1 rfl m1 rfl 26 rfl ?_
  refine o_iconst (v := (1 : Int32)) X5 d8_26 rfl 27 rfl ?_
  refine o_iadd X5 d8_27 28 rfl ?_
  refine o_iastore X5 H4 2 rfl d8_28 1 rfl (by show 1 < 2; decide) 29 rfl ?_
  intro T6 h6 X6 H6
  replace H6 : OL n0 h6 ((xo, OO Z "com/example/palamedes/palamedes/lda/NonzeroTopics" [("com/example/palamedes/palamedes/lda/NonzeroTopics", "starts", "[I", .ref xs), ("com/example/palamedes/palamedes/lda/NonzeroTopics", "lengths", "[I", .ref xl), ("com/example/palamedes/palamedes/lda/NonzeroTopics", "topics", "[I", .ref xt)]) :: (xs, OA Z .int [s0, s1, s2]) :: (xl, OA Z .int [m0, (m1 + (1 : Int32))]) :: (xt, OA Z .int (List.set tl q xj)) :: L') := H6
  exact o_ret X6 d8_29 (by decide) (by decide) (hQ _ _ ⟨rfl, H6⟩)
set_option maxRecDepth 65536 in
set_option maxHeartbeats 40000000 in
theorem c_len0 (l : Launch) (Z : State) (a0 : Array Value) (hw : ∀ d ∈ tables_1, d.before a0 Z = true) (ws : List Jvm.Cond) (n0 : Nat) (h0 : Heap) (hn0 : n0 ≤ h0.size) (xo xs xl xt : Addr) (s0 s1 s2 m0 m1 : Int32) (tl : List Int32) (L' : List (Addr × (Cell → Prop))) (H0 : OL n0 h0 ((xo, OO Z "com/example/palamedes/palamedes/lda/NonzeroTopics" [("com/example/palamedes/palamedes/lda/NonzeroTopics", "starts", "[I", .ref xs), ("com/example/palamedes/palamedes/lda/NonzeroTopics", "lengths", "[I", .ref xl), ("com/example/palamedes/palamedes/lda/NonzeroTopics", "topics", "[I", .ref xt)]) :: (xs, OA Z .int [s0, s1, s2]) :: (xl, OA Z .int [m0, m1]) :: (xt, OA Z .int tl) :: L')) :
    OC l Z (⟨"com/example/palamedes/palamedes/lda/NonzeroTopics", "length", "(I)I"⟩ : MethodName) prog_40_method_5_code 2 (some .int) ws ({ frames := 0, cells := 0, slots := 0, locals := 0 } : Room) n0 #[(.ref xo), (.int (0 : Int32))] h0 (fun r h => r = some (.int m0) ∧ h0 = h) := by
  refine OC.of (plainFor_of_name pn_2) hn0 #[.val (.ref xo), .val (.int (0 : Int32))] (fun m => by first | (simp [entryFrame, mkF, argsToLocals, Value.category, maxLocals]; done) | rfl) ?_
  intro p e s m below meth cd0 T0 X0 Q' hQ
  refine o_aloadN X0 d11_0 rfl rfl 1 rfl ?_
  refine o_getF X0 H0 0 rfl d11_1 1 rfl (hw _ (List.mem_of_getElem? (i := 23) rfl)) 4 rfl ?_
  intro T1 X1
  refine o_iloadN X1 d11_4 rfl 5 rfl ?_
  refine o_iaload X1 H0 2 rfl d11_5 0 rfl m0 rfl 6 rfl ?_
  exact o_retI X1 d11_6 (by decide) (by decide) (hQ _ _ ⟨rfl, rfl⟩)
set_option maxRecDepth 65536 in
set_option maxHeartbeats 40000000 in
theorem c_sta0 (l : Launch) (Z : State) (a0 : Array Value) (hw : ∀ d ∈ tables_1, d.before a0 Z = true) (ws : List Jvm.Cond) (n0 : Nat) (h0 : Heap) (hn0 : n0 ≤ h0.size) (xo xs xl xt : Addr) (s0 s1 s2 m0 m1 : Int32) (tl : List Int32) (L' : List (Addr × (Cell → Prop))) (H0 : OL n0 h0 ((xo, OO Z "com/example/palamedes/palamedes/lda/NonzeroTopics" [("com/example/palamedes/palamedes/lda/NonzeroTopics", "starts", "[I", .ref xs), ("com/example/palamedes/palamedes/lda/NonzeroTopics", "lengths", "[I", .ref xl), ("com/example/palamedes/palamedes/lda/NonzeroTopics", "topics", "[I", .ref xt)]) :: (xs, OA Z .int [s0, s1, s2]) :: (xl, OA Z .int [m0, m1]) :: (xt, OA Z .int tl) :: L')) :
    OC l Z (⟨"com/example/palamedes/palamedes/lda/NonzeroTopics", "start", "(I)I"⟩ : MethodName) prog_40_method_4_code 2 (some .int) ws ({ frames := 0, cells := 0, slots := 0, locals := 0 } : Room) n0 #[(.ref xo), (.int (0 : Int32))] h0 (fun r h => r = some (.int s0) ∧ h0 = h) := by
  refine OC.of (plainFor_of_name pn_2) hn0 #[.val (.ref xo), .val (.int (0 : Int32))] (fun m => by first | (simp [entryFrame, mkF, argsToLocals, Value.category, maxLocals]; done) | rfl) ?_
  intro p e s m below meth cd0 T0 X0 Q' hQ
  refine o_aloadN X0 d12_0 rfl rfl 1 rfl ?_
  refine o_getF X0 H0 0 rfl d12_1 0 rfl (hw _ (List.mem_of_getElem? (i := 21) rfl)) 4 rfl ?_
  intro T1 X1
  refine o_iloadN X1 d12_4 rfl 5 rfl ?_
  refine o_iaload X1 H0 1 rfl d12_5 0 rfl s0 rfl 6 rfl ?_
  exact o_retI X1 d12_6 (by decide) (by decide) (hQ _ _ ⟨rfl, rfl⟩)
set_option maxRecDepth 65536 in
set_option maxHeartbeats 40000000 in
theorem c_len1 (l : Launch) (Z : State) (a0 : Array Value) (hw : ∀ d ∈ tables_1, d.before a0 Z = true) (ws : List Jvm.Cond) (n0 : Nat) (h0 : Heap) (hn0 : n0 ≤ h0.size) (xo xs xl xt : Addr) (s0 s1 s2 m0 m1 : Int32) (tl : List Int32) (L' : List (Addr × (Cell → Prop))) (H0 : OL n0 h0 ((xo, OO Z "com/example/palamedes/palamedes/lda/NonzeroTopics" [("com/example/palamedes/palamedes/lda/NonzeroTopics", "starts", "[I", .ref xs), ("com/example/palamedes/palamedes/lda/NonzeroTopics", "lengths", "[I", .ref xl), ("com/example/palamedes/palamedes/lda/NonzeroTopics", "topics", "[I", .ref xt)]) :: (xs, OA Z .int [s0, s1, s2]) :: (xl, OA Z .int [m0, m1]) :: (xt, OA Z .int tl) :: L')) :
    OC l Z (⟨"com/example/palamedes/palamedes/lda/NonzeroTopics", "length", "(I)I"⟩ : MethodName) prog_40_method_5_code 2 (some .int) ws ({ frames := 0, cells := 0, slots := 0, locals := 0 } : Room) n0 #[(.ref xo), (.int (1 : Int32))] h0 (fun r h => r = some (.int m1) ∧ h0 = h) := by
  refine OC.of (plainFor_of_name pn_2) hn0 #[.val (.ref xo), .val (.int (1 : Int32))] (fun m => by first | (simp [entryFrame, mkF, argsToLocals, Value.category, maxLocals]; done) | rfl) ?_
  intro p e s m below meth cd0 T0 X0 Q' hQ
  refine o_aloadN X0 d11_0 rfl rfl 1 rfl ?_
  refine o_getF X0 H0 0 rfl d11_1 1 rfl (hw _ (List.mem_of_getElem? (i := 23) rfl)) 4 rfl ?_
  intro T1 X1
  refine o_iloadN X1 d11_4 rfl 5 rfl ?_
  refine o_iaload X1 H0 2 rfl d11_5 1 rfl m1 rfl 6 rfl ?_
  exact o_retI X1 d11_6 (by decide) (by decide) (hQ _ _ ⟨rfl, rfl⟩)
set_option maxRecDepth 65536 in
set_option maxHeartbeats 40000000 in
theorem c_sta1 (l : Launch) (Z : State) (a0 : Array Value) (hw : ∀ d ∈ tables_1, d.before a0 Z = true) (ws : List Jvm.Cond) (n0 : Nat) (h0 : Heap) (hn0 : n0 ≤ h0.size) (xo xs xl xt : Addr) (s0 s1 s2 m0 m1 : Int32) (tl : List Int32) (L' : List (Addr × (Cell → Prop))) (H0 : OL n0 h0 ((xo, OO Z "com/example/palamedes/palamedes/lda/NonzeroTopics" [("com/example/palamedes/palamedes/lda/NonzeroTopics", "starts", "[I", .ref xs), ("com/example/palamedes/palamedes/lda/NonzeroTopics", "lengths", "[I", .ref xl), ("com/example/palamedes/palamedes/lda/NonzeroTopics", "topics", "[I", .ref xt)]) :: (xs, OA Z .int [s0, s1, s2]) :: (xl, OA Z .int [m0, m1]) :: (xt, OA Z .int tl) :: L')) :
    OC l Z (⟨"com/example/palamedes/palamedes/lda/NonzeroTopics", "start", "(I)I"⟩ : MethodName) prog_40_method_4_code 2 (some .int) ws ({ frames := 0, cells := 0, slots := 0, locals := 0 } : Room) n0 #[(.ref xo), (.int (1 : Int32))] h0 (fun r h => r = some (.int s1) ∧ h0 = h) := by
  refine OC.of (plainFor_of_name pn_2) hn0 #[.val (.ref xo), .val (.int (1 : Int32))] (fun m => by first | (simp [entryFrame, mkF, argsToLocals, Value.category, maxLocals]; done) | rfl) ?_
  intro p e s m below meth cd0 T0 X0 Q' hQ
  refine o_aloadN X0 d12_0 rfl rfl 1 rfl ?_
  refine o_getF X0 H0 0 rfl d12_1 0 rfl (hw _ (List.mem_of_getElem? (i := 21) rfl)) 4 rfl ?_
  intro T1 X1
  refine o_iloadN X1 d12_4 rfl 5 rfl ?_
  refine o_iaload X1 H0 1 rfl d12_5 1 rfl s1 rfl 6 rfl ?_
  exact o_retI X1 d12_6 (by decide) (by decide) (hQ _ _ ⟨rfl, rfl⟩)
set_option maxRecDepth 65536 in
set_option maxHeartbeats 40000000 in
theorem c_rem0 (l : Launch) (Z : State) (a0 : Array Value) (hw : ∀ d ∈ tables_1, d.before a0 Z = true) (ws : List Jvm.Cond) (n0 : Nat) (h0 : Heap) (hn0 : n0 ≤ h0.size) (xo xs xl xt : Addr) (s0 s1 s2 m0 m1 : Int32) (tl : List Int32) (L' : List (Addr × (Cell → Prop))) (H0 : OL n0 h0 ((xo, OO Z "com/example/palamedes/palamedes/lda/NonzeroTopics" [("com/example/palamedes/palamedes/lda/NonzeroTopics", "starts", "[I", .ref xs), ("com/example/palamedes/palamedes/lda/NonzeroTopics", "lengths", "[I", .ref xl), ("com/example/palamedes/palamedes/lda/NonzeroTopics", "topics", "[I", .ref xt)]) :: (xs, OA Z .int [s0, s1, s2]) :: (xl, OA Z .int [m0, m1]) :: (xt, OA Z .int tl) :: L')) (xtop : Int32) (q0 j mm : Nat) (hq : s0.toInt = q0) (hm : m0.toInt = ((mm + 1 : Nat) : Int)) (hb : q0 + j + mm < 50) (hj : tl[q0 + j]? = some xtop) (hne : ∀ k, k < j → ∃ v, tl[q0 + k]? = some v ∧ ¬ v = xtop) (wv : Int32) (hlast : tl[q0 + mm]? = some wv) :
    OC l Z (⟨"com/example/palamedes/palamedes/lda/NonzeroTopics", "remove", "(II)V"⟩ : MethodName) prog_40_method_7_code 4 none ws ({ frames := 0, cells := 0, slots := 0, locals := 0 } : Room) n0 #[(.ref xo), (.int (0 : Int32)), (.int xtop)] h0 (fun r h => r = none ∧ OL n0 h ((xo, OO Z "com/example/palamedes/palamedes/lda/NonzeroTopics" [("com/example/palamedes/palamedes/lda/NonzeroTopics", "starts", "[I", .ref xs), ("com/example/palamedes/palamedes/lda/NonzeroTopics", "lengths", "[I", .ref xl), ("com/example/palamedes/palamedes/lda/NonzeroTopics", "topics", "[I", .ref xt)]) :: (xs, OA Z .int [s0, s1, s2]) :: (xl, OA Z .int [(m0 - (1 : Int32)), m1]) :: (xt, OA Z .int (List.set tl (q0 + j) wv)) :: L')) := by
  refine OC.of (plainFor_of_name pn_2) hn0 #[.val (.ref xo), .val (.int (0 : Int32)), .val (.int xtop), .unset] (fun m => by first | (simp [entryFrame, mkF, argsToLocals, Value.category, maxLocals]; done) | rfl) ?_
  intro p e s m below meth cd0 T0 X0 Q' hQ
  have J7 : ∀ (d : Nat) (T : State) (xi : Int32) (k : Nat), OW p l e ({ frames := 0, cells := 0, slots := 0, locals := 0 } : Room) s m #[(.ref xo), (.int (0 : Int32)), (.int xtop)] below meth cd0 Z (⟨"com/example/palamedes/palamedes/lda/NonzeroTopics", "remove", "(II)V"⟩ : MethodName) prog_40_method_7_code 4 none n0 T h0 0 0 → xi.toInt = ((q0 + k : Nat) : Int) → k + d = j → OE p e (FE s ({ frames := 0, cells := 0, slots := 0, locals := 0 } : Room)) below n0 Q' T (mkF m 7 #[.val (.ref xo), .val (.int (0 : Int32)), .val (.int xtop), .val (.int xi)] []) := by
    intro d
    induction d with
    | zero =>
      intro T xi k X hxi hd
      have hkj : k = j := by omega
      subst hkj
      refine o_aloadN X d9_7 rfl rfl 8 rfl ?_
      refine o_getF X H0 0 rfl d9_8 2 rfl (hw _ (List.mem_of_getElem? (i := 31) rfl)) 11 rfl ?_
      intro T1 X1
      refine o_iloadN X1 d9_11 rfl 12 rfl ?_
      refine o_iaload X1 H0 3 rfl d9_12 (q0 + k) hxi xtop hj 13 rfl ?_
      refine o_iloadN X1 d9_13 rfl 14 rfl ?_
      refine o_icmpEq X1 d9_14 23 17 (by decide) (by decide) rfl ?_ (fun q => by exfalso; exact q rfl)
      intro hc14
      refine o_aloadN X1 d9_23 rfl rfl 24 rfl ?_
      refine o_getF X1 H0 0 rfl d9_24 1 rfl (hw _ (List.mem_of_getElem? (i := 23) rfl)) 27 rfl ?_
      intro T2 X2
      refine o_iloadN X2 d9_27 rfl 28 rfl ?_
      refine o_dup2 X2 d9_28 rfl rfl 29 rfl ?_
      refine o_iaload X2 H0 2 rfl d9_29 0 rfl m0 rfl 30 rfl ?_
      refine o_iconst (v := (1 : Int32)) X2 d9_30 rfl 31 rfl ?_
      refine o_isub X2 d9_31 32 rfl ?_
      refine o_iastore X2 H0 2 rfl d9_32 0 rfl (by show 0 < 2; decide) 33 rfl ?_
      intro T3 h3 X3 H3
      replace H3 : OL n0 h3 ((xo, OO Z "com/example/palamedes/palamedes/lda/NonzeroTopics" [("com/example/palamedes/palamedes/lda/NonzeroTopics", "starts", "[I", .ref xs), ("com/example/palamedes/palamedes/lda/NonzeroTopics", "lengths", "[I", .ref xl), ("com/example/palamedes/palamedes/lda/NonzeroTopics", "topics", "[I", .ref xt)]) :: (xs, OA Z .int [s0, s1, s2]) :: (xl, OA Z .int [(m0 - (1 : Int32)), m1]) :: (xt, OA Z .int tl) :: L') := H3
      refine o_aloadN X3 d9_33 rfl rfl 34 rfl ?_
      refine o_getF X3 H3 0 rfl d9_34 2 rfl (hw _ (List.mem_of_getElem? (i := 31) rfl)) 37 rfl ?_
      intro T4 X4
      refine o_iloadN X4 d9_37 rfl 38 rfl ?_
      refine o_aloadN X4 d9_38 rfl rfl 39 rfl ?_
      refine o_getF X4 H3 0 rfl d9_39 2 rfl (hw _ (List.mem_of_getElem? (i := 31) rfl)) 42 rfl ?_
      intro T5 X5
      refine o_aloadN X5 d9_42 rfl rfl 43 rfl ?_
      refine o_getF X5 H3 0 rfl d9_43 0 rfl (hw _ (List.mem_of_getElem? (i := 21) rfl)) 46 rfl ?_
      intro T6 X6
      refine o_iloadN X6 d9_46 rfl 47 rfl ?_
      refine o_iaload X6 H3 1 rfl d9_47 0 rfl s0 rfl 48 rfl ?_
      refine o_aloadN X6 d9_48 rfl rfl 49 rfl ?_
      refine o_getF X6 H3 0 rfl d9_49 1 rfl (hw _ (List.mem_of_getElem? (i := 23) rfl)) 52 rfl ?_
      intro T7 X7
      refine o_iloadN X7 d9_52 rfl 53 rfl ?_
      refine o_iaload X7 H3 2 rfl d9_53 0 rfl (m0 - (1 : Int32)) rfl 54 rfl ?_
      refine o_iadd X7 d9_54 55 rfl ?_
      refine o_iaload X7 H3 3 rfl d9_55 (q0 + mm) (v_ad s0 (m0 - 1) q0 mm hq (v_sb m0 1 mm 1 hm rfl (by omega) (by decide)) (by omega) (by omega)) wv hlast 56 rfl ?_
      refine o_iastore X7 H3 3 rfl d9_56 (q0 + k) hxi (List.getElem?_eq_some_iff.mp hj).1 57 rfl ?_
      intro T8 h8 X8 H8
      replace H8 : OL n0 h8 ((xo, OO Z "com/example/palamedes/palamedes/lda/NonzeroTopics" [("com/example/palamedes/palamedes/lda/NonzeroTopics", "starts", "[I", .ref xs), ("com/example/palamedes/palamedes/lda/NonzeroTopics", "lengths", "[I", .ref xl), ("com/example/palamedes/palamedes/lda/NonzeroTopics", "topics", "[I", .ref xt)]) :: (xs, OA Z .int [s0, s1, s2]) :: (xl, OA Z .int [(m0 - (1 : Int32)), m1]) :: (xt, OA Z .int (List.set tl (q0 + k) wv)) :: L') := H8
      exact o_ret X8 d9_57 (by decide) (by decide) (hQ _ _ ⟨rfl, H8⟩)
    | succ d ih =>
      intro T xi k X hxi hd
      obtain ⟨v, hv, hvn⟩ := hne k (by omega)
      refine o_aloadN X d9_7 rfl rfl 8 rfl ?_
      refine o_getF X H0 0 rfl d9_8 2 rfl (hw _ (List.mem_of_getElem? (i := 31) rfl)) 11 rfl ?_
      intro T9 X9
      refine o_iloadN X9 d9_11 rfl 12 rfl ?_
      refine o_iaload X9 H0 3 rfl d9_12 (q0 + k) hxi v hv 13 rfl ?_
      refine o_iloadN X9 d9_13 rfl 14 rfl ?_
      refine o_icmpEq X9 d9_14 23 17 (by decide) (by decide) rfl (fun q => by exfalso; exact hvn q) ?_
      intro hc14
      refine o_iinc (v := xi) (w := (xi + (1 : Int32))) X9 d9_17 rfl rfl #[.val (.ref xo), .val (.int (0 : Int32)), .val (.int xtop), .val (.int (xi + (1 : Int32)))] rfl 20 rfl ?_
      refine o_goto X9 d9_20 7 (by decide) (by decide) ?_
      exact ih _ _ (k + 1) X9 (v_ad xi 1 (q0 + k) 1 hxi rfl (by omega) (by decide)) (by omega)
  refine o_aloadN X0 d9_0 rfl rfl 1 rfl ?_
  refine o_getF X0 H0 0 rfl d9_1 0 rfl (hw _ (List.mem_of_getElem? (i := 21) rfl)) 4 rfl ?_
  intro T10 X10
  refine o_iloadN X10 d9_4 rfl 5 rfl ?_
  refine o_iaload X10 H0 1 rfl d9_5 0 rfl s0 rfl 6 rfl ?_
  refine o_istoreN X10 d9_6 #[.val (.ref xo), .val (.int (0 : Int32)), .val (.int xtop), .val (.int s0)] rfl 7 rfl ?_
  exact J7 j _ _ 0 X10 hq (by omega)
set_option maxRecDepth 65536 in
set_option maxHeartbeats 40000000 in
theorem c_rem1 (l : Launch) (Z : State) (a0 : Array Value) (hw : ∀ d ∈ tables_1, d.before a0 Z = true) (ws : List Jvm.Cond) (n0 : Nat) (h0 : Heap) (hn0 : n0 ≤ h0.size) (xo xs xl xt : Addr) (s0 s1 s2 m0 m1 : Int32) (tl : List Int32) (L' : List (Addr × (Cell → Prop))) (H0 : OL n0 h0 ((xo, OO Z "com/example/palamedes/palamedes/lda/NonzeroTopics" [("com/example/palamedes/palamedes/lda/NonzeroTopics", "starts", "[I", .ref xs), ("com/example/palamedes/palamedes/lda/NonzeroTopics", "lengths", "[I", .ref xl), ("com/example/palamedes/palamedes/lda/NonzeroTopics", "topics", "[I", .ref xt)]) :: (xs, OA Z .int [s0, s1, s2]) :: (xl, OA Z .int [m0, m1]) :: (xt, OA Z .int tl) :: L')) (xtop : Int32) (q0 j mm : Nat) (hq : s1.toInt = q0) (hm : m1.toInt = ((mm + 1 : Nat) : Int)) (hb : q0 + j + mm < 50) (hj : tl[q0 + j]? = some xtop) (hne : ∀ k, k < j → ∃ v, tl[q0 + k]? = some v ∧ ¬ v = xtop) (wv : Int32) (hlast : tl[q0 + mm]? = some wv) :
    OC l Z (⟨"com/example/palamedes/palamedes/lda/NonzeroTopics", "remove", "(II)V"⟩ : MethodName) prog_40_method_7_code 4 none ws ({ frames := 0, cells := 0, slots := 0, locals := 0 } : Room) n0 #[(.ref xo), (.int (1 : Int32)), (.int xtop)] h0 (fun r h => r = none ∧ OL n0 h ((xo, OO Z "com/example/palamedes/palamedes/lda/NonzeroTopics" [("com/example/palamedes/palamedes/lda/NonzeroTopics", "starts", "[I", .ref xs), ("com/example/palamedes/palamedes/lda/NonzeroTopics", "lengths", "[I", .ref xl), ("com/example/palamedes/palamedes/lda/NonzeroTopics", "topics", "[I", .ref xt)]) :: (xs, OA Z .int [s0, s1, s2]) :: (xl, OA Z .int [m0, (m1 - (1 : Int32))]) :: (xt, OA Z .int (List.set tl (q0 + j) wv)) :: L')) := by
  refine OC.of (plainFor_of_name pn_2) hn0 #[.val (.ref xo), .val (.int (1 : Int32)), .val (.int xtop), .unset] (fun m => by first | (simp [entryFrame, mkF, argsToLocals, Value.category, maxLocals]; done) | rfl) ?_
  intro p e s m below meth cd0 T0 X0 Q' hQ
  have J7 : ∀ (d : Nat) (T : State) (xi : Int32) (k : Nat), OW p l e ({ frames := 0, cells := 0, slots := 0, locals := 0 } : Room) s m #[(.ref xo), (.int (1 : Int32)), (.int xtop)] below meth cd0 Z (⟨"com/example/palamedes/palamedes/lda/NonzeroTopics", "remove", "(II)V"⟩ : MethodName) prog_40_method_7_code 4 none n0 T h0 0 0 → xi.toInt = ((q0 + k : Nat) : Int) → k + d = j → OE p e (FE s ({ frames := 0, cells := 0, slots := 0, locals := 0 } : Room)) below n0 Q' T (mkF m 7 #[.val (.ref xo), .val (.int (1 : Int32)), .val (.int xtop), .val (.int xi)] []) := by
    intro d
    induction d with
    | zero =>
      intro T xi k X hxi hd
      have hkj : k = j := by omega
      subst hkj
      refine o_aloadN X d9_7 rfl rfl 8 rfl ?_
      refine o_getF X H0 0 rfl d9_8 2 rfl (hw _ (List.mem_of_getElem? (i := 31) rfl)) 11 rfl ?_
      intro T1 X1
      refine o_iloadN X1 d9_11 rfl 12 rfl ?_
      refine o_iaload X1 H0 3 rfl d9_12 (q0 + k) hxi xtop hj 13 rfl ?_
      refine o_iloadN X1 d9_13 rfl 14 rfl ?_
      refine o_icmpEq X1 d9_14 23 17 (by decide) (by decide) rfl ?_ (fun q => by exfalso; exact q rfl)
      intro hc14
      refine o_aloadN X1 d9_23 rfl rfl 24 rfl ?_
      refine o_getF X1 H0 0 rfl d9_24 1 rfl (hw _ (List.mem_of_getElem? (i := 23) rfl)) 27 rfl ?_
      intro T2 X2
      refine o_iloadN X2 d9_27 rfl 28 rfl ?_
      refine o_dup2 X2 d9_28 rfl rfl 29 rfl ?_
      refine o_iaload X2 H0 2 rfl d9_29 1 rfl m1 rfl 30 rfl ?_
      refine o_iconst (v := (1 : Int32)) X2 d9_30 rfl 31 rfl ?_
      refine o_isub X2 d9_31 32 rfl ?_
      refine o_iastore X2 H0 2 rfl d9_32 1 rfl (by show 1 < 2; decide) 33 rfl ?_
      intro T3 h3 X3 H3
      replace H3 : OL n0 h3 ((xo, OO Z "com/example/palamedes/palamedes/lda/NonzeroTopics" [("com/example/palamedes/palamedes/lda/NonzeroTopics", "starts", "[I", .ref xs), ("com/example/palamedes/palamedes/lda/NonzeroTopics", "lengths", "[I", .ref xl), ("com/example/palamedes/palamedes/lda/NonzeroTopics", "topics", "[I", .ref xt)]) :: (xs, OA Z .int [s0, s1, s2]) :: (xl, OA Z .int [m0, (m1 - (1 : Int32))]) :: (xt, OA Z .int tl) :: L') := H3
      refine o_aloadN X3 d9_33 rfl rfl 34 rfl ?_
      refine o_getF X3 H3 0 rfl d9_34 2 rfl (hw _ (List.mem_of_getElem? (i := 31) rfl)) 37 rfl ?_
      intro T4 X4
      refine o_iloadN X4 d9_37 rfl 38 rfl ?_
      refine o_aloadN X4 d9_38 rfl rfl 39 rfl ?_
      refine o_getF X4 H3 0 rfl d9_39 2 rfl (hw _ (List.mem_of_getElem? (i := 31) rfl)) 42 rfl ?_
      intro T5 X5
      refine o_aloadN X5 d9_42 rfl rfl 43 rfl ?_
      refine o_getF X5 H3 0 rfl d9_43 0 rfl (hw _ (List.mem_of_getElem? (i := 21) rfl)) 46 rfl ?_
      intro T6 X6
      refine o_iloadN X6 d9_46 rfl 47 rfl ?_
      refine o_iaload X6 H3 1 rfl d9_47 1 rfl s1 rfl 48 rfl ?_
      refine o_aloadN X6 d9_48 rfl rfl 49 rfl ?_
      refine o_getF X6 H3 0 rfl d9_49 1 rfl (hw _ (List.mem_of_getElem? (i := 23) rfl)) 52 rfl ?_
      intro T7 X7
      refine o_iloadN X7 d9_52 rfl 53 rfl ?_
      refine o_iaload X7 H3 2 rfl d9_53 1 rfl (m1 - (1 : Int32)) rfl 54 rfl ?_
      refine o_iadd X7 d9_54 55 rfl ?_
      refine o_iaload X7 H3 3 rfl d9_55 (q0 + mm) (v_ad s1 (m1 - 1) q0 mm hq (v_sb m1 1 mm 1 hm rfl (by omega) (by decide)) (by omega) (by omega)) wv hlast 56 rfl ?_
      refine o_iastore X7 H3 3 rfl d9_56 (q0 + k) hxi (List.getElem?_eq_some_iff.mp hj).1 57 rfl ?_
      intro T8 h8 X8 H8
      replace H8 : OL n0 h8 ((xo, OO Z "com/example/palamedes/palamedes/lda/NonzeroTopics" [("com/example/palamedes/palamedes/lda/NonzeroTopics", "starts", "[I", .ref xs), ("com/example/palamedes/palamedes/lda/NonzeroTopics", "lengths", "[I", .ref xl), ("com/example/palamedes/palamedes/lda/NonzeroTopics", "topics", "[I", .ref xt)]) :: (xs, OA Z .int [s0, s1, s2]) :: (xl, OA Z .int [m0, (m1 - (1 : Int32))]) :: (xt, OA Z .int (List.set tl (q0 + k) wv)) :: L') := H8
      exact o_ret X8 d9_57 (by decide) (by decide) (hQ _ _ ⟨rfl, H8⟩)
    | succ d ih =>
      intro T xi k X hxi hd
      obtain ⟨v, hv, hvn⟩ := hne k (by omega)
      refine o_aloadN X d9_7 rfl rfl 8 rfl ?_
      refine o_getF X H0 0 rfl d9_8 2 rfl (hw _ (List.mem_of_getElem? (i := 31) rfl)) 11 rfl ?_
      intro T9 X9
      refine o_iloadN X9 d9_11 rfl 12 rfl ?_
      refine o_iaload X9 H0 3 rfl d9_12 (q0 + k) hxi v hv 13 rfl ?_
      refine o_iloadN X9 d9_13 rfl 14 rfl ?_
      refine o_icmpEq X9 d9_14 23 17 (by decide) (by decide) rfl (fun q => by exfalso; exact hvn q) ?_
      intro hc14
      refine o_iinc (v := xi) (w := (xi + (1 : Int32))) X9 d9_17 rfl rfl #[.val (.ref xo), .val (.int (1 : Int32)), .val (.int xtop), .val (.int (xi + (1 : Int32)))] rfl 20 rfl ?_
      refine o_goto X9 d9_20 7 (by decide) (by decide) ?_
      exact ih _ _ (k + 1) X9 (v_ad xi 1 (q0 + k) 1 hxi rfl (by omega) (by decide)) (by omega)
  refine o_aloadN X0 d9_0 rfl rfl 1 rfl ?_
  refine o_getF X0 H0 0 rfl d9_1 0 rfl (hw _ (List.mem_of_getElem? (i := 21) rfl)) 4 rfl ?_
  intro T10 X10
  refine o_iloadN X10 d9_4 rfl 5 rfl ?_
  refine o_iaload X10 H0 1 rfl d9_5 1 rfl s1 rfl 6 rfl ?_
  refine o_istoreN X10 d9_6 #[.val (.ref xo), .val (.int (1 : Int32)), .val (.int xtop), .val (.int s1)] rfl 7 rfl ?_
  exact J7 j _ _ 0 X10 hq (by omega)
set_option maxRecDepth 65536 in
set_option maxHeartbeats 40000000 in
theorem c_same (l : Launch) (Z : State) (a0 : Array Value) (hw : ∀ d ∈ tables_1, d.before a0 Z = true) (ws : List Jvm.Cond) (n0 : Nat) (h0 : Heap) (hn0 : n0 ≤ h0.size) (xg xe : Addr) (xn : Int32) (gl el : List Int32) (L' : List (Addr × (Cell → Prop))) (H0 : OL n0 h0 ((xg, OA Z .int gl) :: (xe, OA Z .int el) :: L')) (n : Nat) (hn : xn.toInt = n) (hn8 : n ≤ 8) (hs : ∀ i, i < n → ∃ v, gl[i]? = some v ∧ el[i]? = some v) :
    OC l Z (⟨"com/example/palamedes/palamedes/lda/NonzeroTopicsRemovePinLaw", "same", "([I[II)Z"⟩ : MethodName) method_4_code 4 (some .boolean) ws ({ frames := 0, cells := 0, slots := 0, locals := 0 } : Room) n0 #[(.ref xg), (.ref xe), (.int xn)] h0 (fun r h => r = some (.int 1) ∧ h0 = h) := by
  refine OC.of (plainFor_of_name pn_1) hn0 #[.val (.ref xg), .val (.ref xe), .val (.int xn), .unset] (fun m => by first | (simp [entryFrame, mkF, argsToLocals, Value.category, maxLocals]; done) | rfl) ?_
  intro p e s m below meth cd0 T0 X0 Q' hQ
  rcases v_lit8 xn n hn hn8 with ⟨rfl, rfl⟩ | ⟨rfl, rfl⟩ | ⟨rfl, rfl⟩ | ⟨rfl, rfl⟩ | ⟨rfl, rfl⟩ | ⟨rfl, rfl⟩ | ⟨rfl, rfl⟩ | ⟨rfl, rfl⟩ | ⟨rfl, rfl⟩
  · skip
    refine o_iconst (v := (1 : Int32)) X0 d10_0 rfl 1 rfl ?_
    refine o_istoreN X0 d10_1 #[.val (.ref xg), .val (.ref xe), .val (.int (0 : Int32)), .val (.int (1 : Int32))] rfl 2 rfl ?_
    refine o_iloadN X0 d10_2 rfl 3 rfl ?_
    refine o_ifLe X0 d10_3 25 6 (by decide) (by decide) rfl ?_ (fun q => by exfalso; exact absurd q (by decide))
    intro hc3
    refine o_iloadN X0 d10_25 rfl 26 rfl ?_
    refine o_iconst (v := (1 : Int32)) X0 d10_26 rfl 27 rfl ?_
    refine o_icmpLe X0 d10_27 49 30 (by decide) (by decide) rfl ?_ (fun q => by exfalso; exact absurd q (by decide))
    intro hc27
    refine o_iloadN X0 d10_49 rfl 50 rfl ?_
    refine o_iconst (v := (2 : Int32)) X0 d10_50 rfl 51 rfl ?_
    refine o_icmpLe X0 d10_51 73 54 (by decide) (by decide) rfl ?_ (fun q => by exfalso; exact absurd q (by decide))
    intro hc51
    refine o_iloadN X0 d10_73 rfl 74 rfl ?_
    refine o_iconst (v := (3 : Int32)) X0 d10_74 rfl 75 rfl ?_
    refine o_icmpLe X0 d10_75 97 78 (by decide) (by decide) rfl ?_ (fun q => by exfalso; exact absurd q (by decide))
    intro hc75
    refine o_iloadN X0 d10_97 rfl 98 rfl ?_
    refine o_iconst (v := (4 : Int32)) X0 d10_98 rfl 99 rfl ?_
    refine o_icmpLe X0 d10_99 121 102 (by decide) (by decide) rfl ?_ (fun q => by exfalso; exact absurd q (by decide))
    intro hc99
    refine o_iloadN X0 d10_121 rfl 122 rfl ?_
    refine o_iconst (v := (5 : Int32)) X0 d10_122 rfl 123 rfl ?_
    refine o_icmpLe X0 d10_123 145 126 (by decide) (by decide) rfl ?_ (fun q => by exfalso; exact absurd q (by decide))
    intro hc123
    refine o_iloadN X0 d10_145 rfl 146 rfl ?_
    refine o_bipush (v := (6 : Int32)) X0 d10_146 rfl 148 rfl ?_
    refine o_icmpLe X0 d10_148 172 151 (by decide) (by decide) rfl ?_ (fun q => by exfalso; exact absurd q (by decide))
    intro hc148
    refine o_iloadN X0 d10_172 rfl 173 rfl ?_
    refine o_bipush (v := (7 : Int32)) X0 d10_173 rfl 175 rfl ?_
    refine o_icmpLe X0 d10_175 199 178 (by decide) (by decide) rfl ?_ (fun q => by exfalso; exact absurd q (by decide))
    intro hc175
    refine o_iloadN X0 d10_199 rfl 200 rfl ?_
    exact o_retZ X0 d10_200 (by decide) (by decide) (hQ _ _ ⟨rfl, rfl⟩)
  · skip
    obtain ⟨v0, ga0, ea0⟩ := hs 0 (by decide)
    refine o_iconst (v := (1 : Int32)) X0 d10_0 rfl 1 rfl ?_
    refine o_istoreN X0 d10_1 #[.val (.ref xg), .val (.ref xe), .val (.int (1 : Int32)), .val (.int (1 : Int32))] rfl 2 rfl ?_
    refine o_iloadN X0 d10_2 rfl 3 rfl ?_
    refine o_ifLe X0 d10_3 25 6 (by decide) (by decide) rfl (fun q => by exfalso; exact absurd q (by decide)) ?_
    intro hc3
    refine o_iloadN X0 d10_6 rfl 7 rfl ?_
    refine o_ifEq X0 d10_7 23 10 (by decide) (by decide) rfl (fun q => by exfalso; exact absurd q (by decide)) ?_
    intro hc7
    refine o_aloadN X0 d10_10 rfl rfl 11 rfl ?_
    refine o_iconst (v := (0 : Int32)) X0 d10_11 rfl 12 rfl ?_
    refine o_iaload X0 H0 0 rfl d10_12 0 rfl v0 ga0 13 rfl ?_
    refine o_aloadN X0 d10_13 rfl rfl 14 rfl ?_
    refine o_iconst (v := (0 : Int32)) X0 d10_14 rfl 15 rfl ?_
    refine o_iaload X0 H0 1 rfl d10_15 0 rfl v0 ea0 16 rfl ?_
    refine o_icmpNe X0 d10_16 23 19 (by decide) (by decide) rfl (fun q => by exfalso; exact q rfl) ?_
    intro hc16
    refine o_iconst (v := (1 : Int32)) X0 d10_19 rfl 20 rfl ?_
    refine o_goto X0 d10_20 24 (by decide) (by decide) ?_
    refine o_istoreN X0 d10_24 #[.val (.ref xg), .val (.ref xe), .val (.int (1 : Int32)), .val (.int (1 : Int32))] rfl 25 rfl ?_
    refine o_iloadN X0 d10_25 rfl 26 rfl ?_
    refine o_iconst (v := (1 : Int32)) X0 d10_26 rfl 27 rfl ?_
    refine o_icmpLe X0 d10_27 49 30 (by decide) (by decide) rfl ?_ (fun q => by exfalso; exact absurd q (by decide))
    intro hc27
    refine o_iloadN X0 d10_49 rfl 50 rfl ?_
    refine o_iconst (v := (2 : Int32)) X0 d10_50 rfl 51 rfl ?_
    refine o_icmpLe X0 d10_51 73 54 (by decide) (by decide) rfl ?_ (fun q => by exfalso; exact absurd q (by decide))
    intro hc51
    refine o_iloadN X0 d10_73 rfl 74 rfl ?_
    refine o_iconst (v := (3 : Int32)) X0 d10_74 rfl 75 rfl ?_
    refine o_icmpLe X0 d10_75 97 78 (by decide) (by decide) rfl ?_ (fun q => by exfalso; exact absurd q (by decide))
    intro hc75
    refine o_iloadN X0 d10_97 rfl 98 rfl ?_
    refine o_iconst (v := (4 : Int32)) X0 d10_98 rfl 99 rfl ?_
    refine o_icmpLe X0 d10_99 121 102 (by decide) (by decide) rfl ?_ (fun q => by exfalso; exact absurd q (by decide))
    intro hc99
    refine o_iloadN X0 d10_121 rfl 122 rfl ?_
    refine o_iconst (v := (5 : Int32)) X0 d10_122 rfl 123 rfl ?_
    refine o_icmpLe X0 d10_123 145 126 (by decide) (by decide) rfl ?_ (fun q => by exfalso; exact absurd q (by decide))
    intro hc123
    refine o_iloadN X0 d10_145 rfl 146 rfl ?_
    refine o_bipush (v := (6 : Int32)) X0 d10_146 rfl 148 rfl ?_
    refine o_icmpLe X0 d10_148 172 151 (by decide) (by decide) rfl ?_ (fun q => by exfalso; exact absurd q (by decide))
    intro hc148
    refine o_iloadN X0 d10_172 rfl 173 rfl ?_
    refine o_bipush (v := (7 : Int32)) X0 d10_173 rfl 175 rfl ?_
    refine o_icmpLe X0 d10_175 199 178 (by decide) (by decide) rfl ?_ (fun q => by exfalso; exact absurd q (by decide))
    intro hc175
    refine o_iloadN X0 d10_199 rfl 200 rfl ?_
    exact o_retZ X0 d10_200 (by decide) (by decide) (hQ _ _ ⟨rfl, rfl⟩)
  · skip
    obtain ⟨v0, ga0, ea0⟩ := hs 0 (by decide)
    obtain ⟨v1, ga1, ea1⟩ := hs 1 (by decide)
    refine o_iconst (v := (1 : Int32)) X0 d10_0 rfl 1 rfl ?_
    refine o_istoreN X0 d10_1 #[.val (.ref xg), .val (.ref xe), .val (.int (2 : Int32)), .val (.int (1 : Int32))] rfl 2 rfl ?_
    refine o_iloadN X0 d10_2 rfl 3 rfl ?_
    refine o_ifLe X0 d10_3 25 6 (by decide) (by decide) rfl (fun q => by exfalso; exact absurd q (by decide)) ?_
    intro hc3
    refine o_iloadN X0 d10_6 rfl 7 rfl ?_
    refine o_ifEq X0 d10_7 23 10 (by decide) (by decide) rfl (fun q => by exfalso; exact absurd q (by decide)) ?_
    intro hc7
    refine o_aloadN X0 d10_10 rfl rfl 11 rfl ?_
    refine o_iconst (v := (0 : Int32)) X0 d10_11 rfl 12 rfl ?_
    refine o_iaload X0 H0 0 rfl d10_12 0 rfl v0 ga0 13 rfl ?_
    refine o_aloadN X0 d10_13 rfl rfl 14 rfl ?_
    refine o_iconst (v := (0 : Int32)) X0 d10_14 rfl 15 rfl ?_
    refine o_iaload X0 H0 1 rfl d10_15 0 rfl v0 ea0 16 rfl ?_
    refine o_icmpNe X0 d10_16 23 19 (by decide) (by decide) rfl (fun q => by exfalso; exact q rfl) ?_
    intro hc16
    refine o_iconst (v := (1 : Int32)) X0 d10_19 rfl 20 rfl ?_
    refine o_goto X0 d10_20 24 (by decide) (by decide) ?_
    refine o_istoreN X0 d10_24 #[.val (.ref xg), .val (.ref xe), .val (.int (2 : Int32)), .val (.int (1 : Int32))] rfl 25 rfl ?_
    refine o_iloadN X0 d10_25 rfl 26 rfl ?_
    refine o_iconst (v := (1 : Int32)) X0 d10_26 rfl 27 rfl ?_
    refine o_icmpLe X0 d10_27 49 30 (by decide) (by decide) rfl (fun q => by exfalso; exact absurd q (by decide)) ?_
    intro hc27
    refine o_iloadN X0 d10_30 rfl 31 rfl ?_
    refine o_ifEq X0 d10_31 47 34 (by decide) (by decide) rfl (fun q => by exfalso; exact absurd q (by decide)) ?_
    intro hc31
    refine o_aloadN X0 d10_34 rfl rfl 35 rfl ?_
    refine o_iconst (v := (1 : Int32)) X0 d10_35 rfl 36 rfl ?_
    refine o_iaload X0 H0 0 rfl d10_36 1 rfl v1 ga1 37 rfl ?_
    refine o_aloadN X0 d10_37 rfl rfl 38 rfl ?_
    refine o_iconst (v := (1 : Int32)) X0 d10_38 rfl 39 rfl ?_
    refine o_iaload X0 H0 1 rfl d10_39 1 rfl v1 ea1 40 rfl ?_
    refine o_icmpNe X0 d10_40 47 43 (by decide) (by decide) rfl (fun q => by exfalso; exact q rfl) ?_
    intro hc40
    refine o_iconst (v := (1 : Int32)) X0 d10_43 rfl 44 rfl ?_
    refine o_goto X0 d10_44 48 (by decide) (by decide) ?_
    refine o_istoreN X0 d10_48 #[.val (.ref xg), .val (.ref xe), .val (.int (2 : Int32)), .val (.int (1 : Int32))] rfl 49 rfl ?_
    refine o_iloadN X0 d10_49 rfl 50 rfl ?_
    refine o_iconst (v := (2 : Int32)) X0 d10_50 rfl 51 rfl ?_
    refine o_icmpLe X0 d10_51 73 54 (by decide) (by decide) rfl ?_ (fun q => by exfalso; exact absurd q (by decide))
    intro hc51
    refine o_iloadN X0 d10_73 rfl 74 rfl ?_
    refine o_iconst (v := (3 : Int32)) X0 d10_74 rfl 75 rfl ?_
    refine o_icmpLe X0 d10_75 97 78 (by decide) (by decide) rfl ?_ (fun q => by exfalso; exact absurd q (by decide))
    intro hc75
    refine o_iloadN X0 d10_97 rfl 98 rfl ?_
    refine o_iconst (v := (4 : Int32)) X0 d10_98 rfl 99 rfl ?_
    refine o_icmpLe X0 d10_99 121 102 (by decide) (by decide) rfl ?_ (fun q => by exfalso; exact absurd q (by decide))
    intro hc99
    refine o_iloadN X0 d10_121 rfl 122 rfl ?_
    refine o_iconst (v := (5 : Int32)) X0 d10_122 rfl 123 rfl ?_
    refine o_icmpLe X0 d10_123 145 126 (by decide) (by decide) rfl ?_ (fun q => by exfalso; exact absurd q (by decide))
    intro hc123
    refine o_iloadN X0 d10_145 rfl 146 rfl ?_
    refine o_bipush (v := (6 : Int32)) X0 d10_146 rfl 148 rfl ?_
    refine o_icmpLe X0 d10_148 172 151 (by decide) (by decide) rfl ?_ (fun q => by exfalso; exact absurd q (by decide))
    intro hc148
    refine o_iloadN X0 d10_172 rfl 173 rfl ?_
    refine o_bipush (v := (7 : Int32)) X0 d10_173 rfl 175 rfl ?_
    refine o_icmpLe X0 d10_175 199 178 (by decide) (by decide) rfl ?_ (fun q => by exfalso; exact absurd q (by decide))
    intro hc175
    refine o_iloadN X0 d10_199 rfl 200 rfl ?_
    exact o_retZ X0 d10_200 (by decide) (by decide) (hQ _ _ ⟨rfl, rfl⟩)
  · skip
    obtain ⟨v0, ga0, ea0⟩ := hs 0 (by decide)
    obtain ⟨v1, ga1, ea1⟩ := hs 1 (by decide)
    obtain ⟨v2, ga2, ea2⟩ := hs 2 (by decide)
    refine o_iconst (v := (1 : Int32)) X0 d10_0 rfl 1 rfl ?_
    refine o_istoreN X0 d10_1 #[.val (.ref xg), .val (.ref xe), .val (.int (3 : Int32)), .val (.int (1 : Int32))] rfl 2 rfl ?_
    refine o_iloadN X0 d10_2 rfl 3 rfl ?_
    refine o_ifLe X0 d10_3 25 6 (by decide) (by decide) rfl (fun q => by exfalso; exact absurd q (by decide)) ?_
    intro hc3
    refine o_iloadN X0 d10_6 rfl 7 rfl ?_
    refine o_ifEq X0 d10_7 23 10 (by decide) (by decide) rfl (fun q => by exfalso; exact absurd q (by decide)) ?_
    intro hc7
    refine o_aloadN X0 d10_10 rfl rfl 11 rfl ?_
    refine o_iconst (v := (0 : Int32)) X0 d10_11 rfl 12 rfl ?_
    refine o_iaload X0 H0 0 rfl d10_12 0 rfl v0 ga0 13 rfl ?_
    refine o_aloadN X0 d10_13 rfl rfl 14 rfl ?_
    refine o_iconst (v := (0 : Int32)) X0 d10_14 rfl 15 rfl ?_
    refine o_iaload X0 H0 1 rfl d10_15 0 rfl v0 ea0 16 rfl ?_
    refine o_icmpNe X0 d10_16 23 19 (by decide) (by decide) rfl (fun q => by exfalso; exact q rfl) ?_
    intro hc16
    refine o_iconst (v := (1 : Int32)) X0 d10_19 rfl 20 rfl ?_
    refine o_goto X0 d10_20 24 (by decide) (by decide) ?_
    refine o_istoreN X0 d10_24 #[.val (.ref xg), .val (.ref xe), .val (.int (3 : Int32)), .val (.int (1 : Int32))] rfl 25 rfl ?_
    refine o_iloadN X0 d10_25 rfl 26 rfl ?_
    refine o_iconst (v := (1 : Int32)) X0 d10_26 rfl 27 rfl ?_
    refine o_icmpLe X0 d10_27 49 30 (by decide) (by decide) rfl (fun q => by exfalso; exact absurd q (by decide)) ?_
    intro hc27
    refine o_iloadN X0 d10_30 rfl 31 rfl ?_
    refine o_ifEq X0 d10_31 47 34 (by decide) (by decide) rfl (fun q => by exfalso; exact absurd q (by decide)) ?_
    intro hc31
    refine o_aloadN X0 d10_34 rfl rfl 35 rfl ?_
    refine o_iconst (v := (1 : Int32)) X0 d10_35 rfl 36 rfl ?_
    refine o_iaload X0 H0 0 rfl d10_36 1 rfl v1 ga1 37 rfl ?_
    refine o_aloadN X0 d10_37 rfl rfl 38 rfl ?_
    refine o_iconst (v := (1 : Int32)) X0 d10_38 rfl 39 rfl ?_
    refine o_iaload X0 H0 1 rfl d10_39 1 rfl v1 ea1 40 rfl ?_
    refine o_icmpNe X0 d10_40 47 43 (by decide) (by decide) rfl (fun q => by exfalso; exact q rfl) ?_
    intro hc40
    refine o_iconst (v := (1 : Int32)) X0 d10_43 rfl 44 rfl ?_
    refine o_goto X0 d10_44 48 (by decide) (by decide) ?_
    refine o_istoreN X0 d10_48 #[.val (.ref xg), .val (.ref xe), .val (.int (3 : Int32)), .val (.int (1 : Int32))] rfl 49 rfl ?_
    refine o_iloadN X0 d10_49 rfl 50 rfl ?_
    refine o_iconst (v := (2 : Int32)) X0 d10_50 rfl 51 rfl ?_
    refine o_icmpLe X0 d10_51 73 54 (by decide) (by decide) rfl (fun q => by exfalso; exact absurd q (by decide)) ?_
    intro hc51
    refine o_iloadN X0 d10_54 rfl 55 rfl ?_
    refine o_ifEq X0 d10_55 71 58 (by decide) (by decide) rfl (fun q => by exfalso; exact absurd q (by decide)) ?_
    intro hc55
    refine o_aloadN X0 d10_58 rfl rfl 59 rfl ?_
    refine o_iconst (v := (2 : Int32)) X0 d10_59 rfl 60 rfl ?_
    refine o_iaload X0 H0 0 rfl d10_60 2 rfl v2 ga2 61 rfl ?_
    refine o_aloadN X0 d10_61 rfl rfl 62 rfl ?_
    refine o_iconst (v := (2 : Int32)) X0 d10_62 rfl 63 rfl ?_
    refine o_iaload X0 H0 1 rfl d10_63 2 rfl v2 ea2 64 rfl ?_
    refine o_icmpNe X0 d10_64 71 67 (by decide) (by decide) rfl (fun q => by exfalso; exact q rfl) ?_
    intro hc64
    refine o_iconst (v := (1 : Int32)) X0 d10_67 rfl 68 rfl ?_
    refine o_goto X0 d10_68 72 (by decide) (by decide) ?_
    refine o_istoreN X0 d10_72 #[.val (.ref xg), .val (.ref xe), .val (.int (3 : Int32)), .val (.int (1 : Int32))] rfl 73 rfl ?_
    refine o_iloadN X0 d10_73 rfl 74 rfl ?_
    refine o_iconst (v := (3 : Int32)) X0 d10_74 rfl 75 rfl ?_
    refine o_icmpLe X0 d10_75 97 78 (by decide) (by decide) rfl ?_ (fun q => by exfalso; exact absurd q (by decide))
    intro hc75
    refine o_iloadN X0 d10_97 rfl 98 rfl ?_
    refine o_iconst (v := (4 : Int32)) X0 d10_98 rfl 99 rfl ?_
    refine o_icmpLe X0 d10_99 121 102 (by decide) (by decide) rfl ?_ (fun q => by exfalso; exact absurd q (by decide))
    intro hc99
    refine o_iloadN X0 d10_121 rfl 122 rfl ?_
    refine o_iconst (v := (5 : Int32)) X0 d10_122 rfl 123 rfl ?_
    refine o_icmpLe X0 d10_123 145 126 (by decide) (by decide) rfl ?_ (fun q => by exfalso; exact absurd q (by decide))
    intro hc123
    refine o_iloadN X0 d10_145 rfl 146 rfl ?_
    refine o_bipush (v := (6 : Int32)) X0 d10_146 rfl 148 rfl ?_
    refine o_icmpLe X0 d10_148 172 151 (by decide) (by decide) rfl ?_ (fun q => by exfalso; exact absurd q (by decide))
    intro hc148
    refine o_iloadN X0 d10_172 rfl 173 rfl ?_
    refine o_bipush (v := (7 : Int32)) X0 d10_173 rfl 175 rfl ?_
    refine o_icmpLe X0 d10_175 199 178 (by decide) (by decide) rfl ?_ (fun q => by exfalso; exact absurd q (by decide))
    intro hc175
    refine o_iloadN X0 d10_199 rfl 200 rfl ?_
    exact o_retZ X0 d10_200 (by decide) (by decide) (hQ _ _ ⟨rfl, rfl⟩)
  · skip
    obtain ⟨v0, ga0, ea0⟩ := hs 0 (by decide)
    obtain ⟨v1, ga1, ea1⟩ := hs 1 (by decide)
    obtain ⟨v2, ga2, ea2⟩ := hs 2 (by decide)
    obtain ⟨v3, ga3, ea3⟩ := hs 3 (by decide)
    refine o_iconst (v := (1 : Int32)) X0 d10_0 rfl 1 rfl ?_
    refine o_istoreN X0 d10_1 #[.val (.ref xg), .val (.ref xe), .val (.int (4 : Int32)), .val (.int (1 : Int32))] rfl 2 rfl ?_
    refine o_iloadN X0 d10_2 rfl 3 rfl ?_
    refine o_ifLe X0 d10_3 25 6 (by decide) (by decide) rfl (fun q => by exfalso; exact absurd q (by decide)) ?_
    intro hc3
    refine o_iloadN X0 d10_6 rfl 7 rfl ?_
    refine o_ifEq X0 d10_7 23 10 (by decide) (by decide) rfl (fun q => by exfalso; exact absurd q (by decide)) ?_
    intro hc7
    refine o_aloadN X0 d10_10 rfl rfl 11 rfl ?_
    refine o_iconst (v := (0 : Int32)) X0 d10_11 rfl 12 rfl ?_
    refine o_iaload X0 H0 0 rfl d10_12 0 rfl v0 ga0 13 rfl ?_
    refine o_aloadN X0 d10_13 rfl rfl 14 rfl ?_
    refine o_iconst (v := (0 : Int32)) X0 d10_14 rfl 15 rfl ?_
    refine o_iaload X0 H0 1 rfl d10_15 0 rfl v0 ea0 16 rfl ?_
    refine o_icmpNe X0 d10_16 23 19 (by decide) (by decide) rfl (fun q => by exfalso; exact q rfl) ?_
    intro hc16
    refine o_iconst (v := (1 : Int32)) X0 d10_19 rfl 20 rfl ?_
    refine o_goto X0 d10_20 24 (by decide) (by decide) ?_
    refine o_istoreN X0 d10_24 #[.val (.ref xg), .val (.ref xe), .val (.int (4 : Int32)), .val (.int (1 : Int32))] rfl 25 rfl ?_
    refine o_iloadN X0 d10_25 rfl 26 rfl ?_
    refine o_iconst (v := (1 : Int32)) X0 d10_26 rfl 27 rfl ?_
    refine o_icmpLe X0 d10_27 49 30 (by decide) (by decide) rfl (fun q => by exfalso; exact absurd q (by decide)) ?_
    intro hc27
    refine o_iloadN X0 d10_30 rfl 31 rfl ?_
    refine o_ifEq X0 d10_31 47 34 (by decide) (by decide) rfl (fun q => by exfalso; exact absurd q (by decide)) ?_
    intro hc31
    refine o_aloadN X0 d10_34 rfl rfl 35 rfl ?_
    refine o_iconst (v := (1 : Int32)) X0 d10_35 rfl 36 rfl ?_
    refine o_iaload X0 H0 0 rfl d10_36 1 rfl v1 ga1 37 rfl ?_
    refine o_aloadN X0 d10_37 rfl rfl 38 rfl ?_
    refine o_iconst (v := (1 : Int32)) X0 d10_38 rfl 39 rfl ?_
    refine o_iaload X0 H0 1 rfl d10_39 1 rfl v1 ea1 40 rfl ?_
    refine o_icmpNe X0 d10_40 47 43 (by decide) (by decide) rfl (fun q => by exfalso; exact q rfl) ?_
    intro hc40
    refine o_iconst (v := (1 : Int32)) X0 d10_43 rfl 44 rfl ?_
    refine o_goto X0 d10_44 48 (by decide) (by decide) ?_
    refine o_istoreN X0 d10_48 #[.val (.ref xg), .val (.ref xe), .val (.int (4 : Int32)), .val (.int (1 : Int32))] rfl 49 rfl ?_
    refine o_iloadN X0 d10_49 rfl 50 rfl ?_
    refine o_iconst (v := (2 : Int32)) X0 d10_50 rfl 51 rfl ?_
    refine o_icmpLe X0 d10_51 73 54 (by decide) (by decide) rfl (fun q => by exfalso; exact absurd q (by decide)) ?_
    intro hc51
    refine o_iloadN X0 d10_54 rfl 55 rfl ?_
    refine o_ifEq X0 d10_55 71 58 (by decide) (by decide) rfl (fun q => by exfalso; exact absurd q (by decide)) ?_
    intro hc55
    refine o_aloadN X0 d10_58 rfl rfl 59 rfl ?_
    refine o_iconst (v := (2 : Int32)) X0 d10_59 rfl 60 rfl ?_
    refine o_iaload X0 H0 0 rfl d10_60 2 rfl v2 ga2 61 rfl ?_
    refine o_aloadN X0 d10_61 rfl rfl 62 rfl ?_
    refine o_iconst (v := (2 : Int32)) X0 d10_62 rfl 63 rfl ?_
    refine o_iaload X0 H0 1 rfl d10_63 2 rfl v2 ea2 64 rfl ?_
    refine o_icmpNe X0 d10_64 71 67 (by decide) (by decide) rfl (fun q => by exfalso; exact q rfl) ?_
    intro hc64
    refine o_iconst (v := (1 : Int32)) X0 d10_67 rfl 68 rfl ?_
    refine o_goto X0 d10_68 72 (by decide) (by decide) ?_
    refine o_istoreN X0 d10_72 #[.val (.ref xg), .val (.ref xe), .val (.int (4 : Int32)), .val (.int (1 : Int32))] rfl 73 rfl ?_
    refine o_iloadN X0 d10_73 rfl 74 rfl ?_
    refine o_iconst (v := (3 : Int32)) X0 d10_74 rfl 75 rfl ?_
    refine o_icmpLe X0 d10_75 97 78 (by decide) (by decide) rfl (fun q => by exfalso; exact absurd q (by decide)) ?_
    intro hc75
    refine o_iloadN X0 d10_78 rfl 79 rfl ?_
    refine o_ifEq X0 d10_79 95 82 (by decide) (by decide) rfl (fun q => by exfalso; exact absurd q (by decide)) ?_
    intro hc79
    refine o_aloadN X0 d10_82 rfl rfl 83 rfl ?_
    refine o_iconst (v := (3 : Int32)) X0 d10_83 rfl 84 rfl ?_
    refine o_iaload X0 H0 0 rfl d10_84 3 rfl v3 ga3 85 rfl ?_
    refine o_aloadN X0 d10_85 rfl rfl 86 rfl ?_
    refine o_iconst (v := (3 : Int32)) X0 d10_86 rfl 87 rfl ?_
    refine o_iaload X0 H0 1 rfl d10_87 3 rfl v3 ea3 88 rfl ?_
    refine o_icmpNe X0 d10_88 95 91 (by decide) (by decide) rfl (fun q => by exfalso; exact q rfl) ?_
    intro hc88
    refine o_iconst (v := (1 : Int32)) X0 d10_91 rfl 92 rfl ?_
    refine o_goto X0 d10_92 96 (by decide) (by decide) ?_
    refine o_istoreN X0 d10_96 #[.val (.ref xg), .val (.ref xe), .val (.int (4 : Int32)), .val (.int (1 : Int32))] rfl 97 rfl ?_
    refine o_iloadN X0 d10_97 rfl 98 rfl ?_
    refine o_iconst (v := (4 : Int32)) X0 d10_98 rfl 99 rfl ?_
    refine o_icmpLe X0 d10_99 121 102 (by decide) (by decide) rfl ?_ (fun q => by exfalso; exact absurd q (by decide))
    intro hc99
    refine o_iloadN X0 d10_121 rfl 122 rfl ?_
    refine o_iconst (v := (5 : Int32)) X0 d10_122 rfl 123 rfl ?_
    refine o_icmpLe X0 d10_123 145 126 (by decide) (by decide) rfl ?_ (fun q => by exfalso; exact absurd q (by decide))
    intro hc123
    refine o_iloadN X0 d10_145 rfl 146 rfl ?_
    refine o_bipush (v := (6 : Int32)) X0 d10_146 rfl 148 rfl ?_
    refine o_icmpLe X0 d10_148 172 151 (by decide) (by decide) rfl ?_ (fun q => by exfalso; exact absurd q (by decide))
    intro hc148
    refine o_iloadN X0 d10_172 rfl 173 rfl ?_
    refine o_bipush (v := (7 : Int32)) X0 d10_173 rfl 175 rfl ?_
    refine o_icmpLe X0 d10_175 199 178 (by decide) (by decide) rfl ?_ (fun q => by exfalso; exact absurd q (by decide))
    intro hc175
    refine o_iloadN X0 d10_199 rfl 200 rfl ?_
    exact o_retZ X0 d10_200 (by decide) (by decide) (hQ _ _ ⟨rfl, rfl⟩)
  · skip
    obtain ⟨v0, ga0, ea0⟩ := hs 0 (by decide)
    obtain ⟨v1, ga1, ea1⟩ := hs 1 (by decide)
    obtain ⟨v2, ga2, ea2⟩ := hs 2 (by decide)
    obtain ⟨v3, ga3, ea3⟩ := hs 3 (by decide)
    obtain ⟨v4, ga4, ea4⟩ := hs 4 (by decide)
    refine o_iconst (v := (1 : Int32)) X0 d10_0 rfl 1 rfl ?_
    refine o_istoreN X0 d10_1 #[.val (.ref xg), .val (.ref xe), .val (.int (5 : Int32)), .val (.int (1 : Int32))] rfl 2 rfl ?_
    refine o_iloadN X0 d10_2 rfl 3 rfl ?_
    refine o_ifLe X0 d10_3 25 6 (by decide) (by decide) rfl (fun q => by exfalso; exact absurd q (by decide)) ?_
    intro hc3
    refine o_iloadN X0 d10_6 rfl 7 rfl ?_
    refine o_ifEq X0 d10_7 23 10 (by decide) (by decide) rfl (fun q => by exfalso; exact absurd q (by decide)) ?_
    intro hc7
    refine o_aloadN X0 d10_10 rfl rfl 11 rfl ?_
    refine o_iconst (v := (0 : Int32)) X0 d10_11 rfl 12 rfl ?_
    refine o_iaload X0 H0 0 rfl d10_12 0 rfl v0 ga0 13 rfl ?_
    refine o_aloadN X0 d10_13 rfl rfl 14 rfl ?_
    refine o_iconst (v := (0 : Int32)) X0 d10_14 rfl 15 rfl ?_
    refine o_iaload X0 H0 1 rfl d10_15 0 rfl v0 ea0 16 rfl ?_
    refine o_icmpNe X0 d10_16 23 19 (by decide) (by decide) rfl (fun q => by exfalso; exact q rfl) ?_
    intro hc16
    refine o_iconst (v := (1 : Int32)) X0 d10_19 rfl 20 rfl ?_
    refine o_goto X0 d10_20 24 (by decide) (by decide) ?_
    refine o_istoreN X0 d10_24 #[.val (.ref xg), .val (.ref xe), .val (.int (5 : Int32)), .val (.int (1 : Int32))] rfl 25 rfl ?_
    refine o_iloadN X0 d10_25 rfl 26 rfl ?_
    refine o_iconst (v := (1 : Int32)) X0 d10_26 rfl 27 rfl ?_
    refine o_icmpLe X0 d10_27 49 30 (by decide) (by decide) rfl (fun q => by exfalso; exact absurd q (by decide)) ?_
    intro hc27
    refine o_iloadN X0 d10_30 rfl 31 rfl ?_
    refine o_ifEq X0 d10_31 47 34 (by decide) (by decide) rfl (fun q => by exfalso; exact absurd q (by decide)) ?_
    intro hc31
    refine o_aloadN X0 d10_34 rfl rfl 35 rfl ?_
    refine o_iconst (v := (1 : Int32)) X0 d10_35 rfl 36 rfl ?_
    refine o_iaload X0 H0 0 rfl d10_36 1 rfl v1 ga1 37 rfl ?_
    refine o_aloadN X0 d10_37 rfl rfl 38 rfl ?_
    refine o_iconst (v := (1 : Int32)) X0 d10_38 rfl 39 rfl ?_
    refine o_iaload X0 H0 1 rfl d10_39 1 rfl v1 ea1 40 rfl ?_
    refine o_icmpNe X0 d10_40 47 43 (by decide) (by decide) rfl (fun q => by exfalso; exact q rfl) ?_
    intro hc40
    refine o_iconst (v := (1 : Int32)) X0 d10_43 rfl 44 rfl ?_
    refine o_goto X0 d10_44 48 (by decide) (by decide) ?_
    refine o_istoreN X0 d10_48 #[.val (.ref xg), .val (.ref xe), .val (.int (5 : Int32)), .val (.int (1 : Int32))] rfl 49 rfl ?_
    refine o_iloadN X0 d10_49 rfl 50 rfl ?_
    refine o_iconst (v := (2 : Int32)) X0 d10_50 rfl 51 rfl ?_
    refine o_icmpLe X0 d10_51 73 54 (by decide) (by decide) rfl (fun q => by exfalso; exact absurd q (by decide)) ?_
    intro hc51
    refine o_iloadN X0 d10_54 rfl 55 rfl ?_
    refine o_ifEq X0 d10_55 71 58 (by decide) (by decide) rfl (fun q => by exfalso; exact absurd q (by decide)) ?_
    intro hc55
    refine o_aloadN X0 d10_58 rfl rfl 59 rfl ?_
    refine o_iconst (v := (2 : Int32)) X0 d10_59 rfl 60 rfl ?_
    refine o_iaload X0 H0 0 rfl d10_60 2 rfl v2 ga2 61 rfl ?_
    refine o_aloadN X0 d10_61 rfl rfl 62 rfl ?_
    refine o_iconst (v := (2 : Int32)) X0 d10_62 rfl 63 rfl ?_
    refine o_iaload X0 H0 1 rfl d10_63 2 rfl v2 ea2 64 rfl ?_
    refine o_icmpNe X0 d10_64 71 67 (by decide) (by decide) rfl (fun q => by exfalso; exact q rfl) ?_
    intro hc64
    refine o_iconst (v := (1 : Int32)) X0 d10_67 rfl 68 rfl ?_
    refine o_goto X0 d10_68 72 (by decide) (by decide) ?_
    refine o_istoreN X0 d10_72 #[.val (.ref xg), .val (.ref xe), .val (.int (5 : Int32)), .val (.int (1 : Int32))] rfl 73 rfl ?_
    refine o_iloadN X0 d10_73 rfl 74 rfl ?_
    refine o_iconst (v := (3 : Int32)) X0 d10_74 rfl 75 rfl ?_
    refine o_icmpLe X0 d10_75 97 78 (by decide) (by decide) rfl (fun q => by exfalso; exact absurd q (by decide)) ?_
    intro hc75
    refine o_iloadN X0 d10_78 rfl 79 rfl ?_
    refine o_ifEq X0 d10_79 95 82 (by decide) (by decide) rfl (fun q => by exfalso; exact absurd q (by decide)) ?_
    intro hc79
    refine o_aloadN X0 d10_82 rfl rfl 83 rfl ?_
    refine o_iconst (v := (3 : Int32)) X0 d10_83 rfl 84 rfl ?_
    refine o_iaload X0 H0 0 rfl d10_84 3 rfl v3 ga3 85 rfl ?_
    refine o_aloadN X0 d10_85 rfl rfl 86 rfl ?_
    refine o_iconst (v := (3 : Int32)) X0 d10_86 rfl 87 rfl ?_
    refine o_iaload X0 H0 1 rfl d10_87 3 rfl v3 ea3 88 rfl ?_
    refine o_icmpNe X0 d10_88 95 91 (by decide) (by decide) rfl (fun q => by exfalso; exact q rfl) ?_
    intro hc88
    refine o_iconst (v := (1 : Int32)) X0 d10_91 rfl 92 rfl ?_
    refine o_goto X0 d10_92 96 (by decide) (by decide) ?_
    refine o_istoreN X0 d10_96 #[.val (.ref xg), .val (.ref xe), .val (.int (5 : Int32)), .val (.int (1 : Int32))] rfl 97 rfl ?_
    refine o_iloadN X0 d10_97 rfl 98 rfl ?_
    refine o_iconst (v := (4 : Int32)) X0 d10_98 rfl 99 rfl ?_
    refine o_icmpLe X0 d10_99 121 102 (by decide) (by decide) rfl (fun q => by exfalso; exact absurd q (by decide)) ?_
    intro hc99
    refine o_iloadN X0 d10_102 rfl 103 rfl ?_
    refine o_ifEq X0 d10_103 119 106 (by decide) (by decide) rfl (fun q => by exfalso; exact absurd q (by decide)) ?_
    intro hc103
    refine o_aloadN X0 d10_106 rfl rfl 107 rfl ?_
    refine o_iconst (v := (4 : Int32)) X0 d10_107 rfl 108 rfl ?_
    refine o_iaload X0 H0 0 rfl d10_108 4 rfl v4 ga4 109 rfl ?_
    refine o_aloadN X0 d10_109 rfl rfl 110 rfl ?_
    refine o_iconst (v := (4 : Int32)) X0 d10_110 rfl 111 rfl ?_
    refine o_iaload X0 H0 1 rfl d10_111 4 rfl v4 ea4 112 rfl ?_
    refine o_icmpNe X0 d10_112 119 115 (by decide) (by decide) rfl (fun q => by exfalso; exact q rfl) ?_
    intro hc112
    refine o_iconst (v := (1 : Int32)) X0 d10_115 rfl 116 rfl ?_
    refine o_goto X0 d10_116 120 (by decide) (by decide) ?_
    refine o_istoreN X0 d10_120 #[.val (.ref xg), .val (.ref xe), .val (.int (5 : Int32)), .val (.int (1 : Int32))] rfl 121 rfl ?_
    refine o_iloadN X0 d10_121 rfl 122 rfl ?_
    refine o_iconst (v := (5 : Int32)) X0 d10_122 rfl 123 rfl ?_
    refine o_icmpLe X0 d10_123 145 126 (by decide) (by decide) rfl ?_ (fun q => by exfalso; exact absurd q (by decide))
    intro hc123
    refine o_iloadN X0 d10_145 rfl 146 rfl ?_
    refine o_bipush (v := (6 : Int32)) X0 d10_146 rfl 148 rfl ?_
    refine o_icmpLe X0 d10_148 172 151 (by decide) (by decide) rfl ?_ (fun q => by exfalso; exact absurd q (by decide))
    intro hc148
    refine o_iloadN X0 d10_172 rfl 173 rfl ?_
    refine o_bipush (v := (7 : Int32)) X0 d10_173 rfl 175 rfl ?_
    refine o_icmpLe X0 d10_175 199 178 (by decide) (by decide) rfl ?_ (fun q => by exfalso; exact absurd q (by decide))
    intro hc175
    refine o_iloadN X0 d10_199 rfl 200 rfl ?_
    exact o_retZ X0 d10_200 (by decide) (by decide) (hQ _ _ ⟨rfl, rfl⟩)
  · skip
    obtain ⟨v0, ga0, ea0⟩ := hs 0 (by decide)
    obtain ⟨v1, ga1, ea1⟩ := hs 1 (by decide)
    obtain ⟨v2, ga2, ea2⟩ := hs 2 (by decide)
    obtain ⟨v3, ga3, ea3⟩ := hs 3 (by decide)
    obtain ⟨v4, ga4, ea4⟩ := hs 4 (by decide)
    obtain ⟨v5, ga5, ea5⟩ := hs 5 (by decide)
    refine o_iconst (v := (1 : Int32)) X0 d10_0 rfl 1 rfl ?_
    refine o_istoreN X0 d10_1 #[.val (.ref xg), .val (.ref xe), .val (.int (6 : Int32)), .val (.int (1 : Int32))] rfl 2 rfl ?_
    refine o_iloadN X0 d10_2 rfl 3 rfl ?_
    refine o_ifLe X0 d10_3 25 6 (by decide) (by decide) rfl (fun q => by exfalso; exact absurd q (by decide)) ?_
    intro hc3
    refine o_iloadN X0 d10_6 rfl 7 rfl ?_
    refine o_ifEq X0 d10_7 23 10 (by decide) (by decide) rfl (fun q => by exfalso; exact absurd q (by decide)) ?_
    intro hc7
    refine o_aloadN X0 d10_10 rfl rfl 11 rfl ?_
    refine o_iconst (v := (0 : Int32)) X0 d10_11 rfl 12 rfl ?_
    refine o_iaload X0 H0 0 rfl d10_12 0 rfl v0 ga0 13 rfl ?_
    refine o_aloadN X0 d10_13 rfl rfl 14 rfl ?_
    refine o_iconst (v := (0 : Int32)) X0 d10_14 rfl 15 rfl ?_
    refine o_iaload X0 H0 1 rfl d10_15 0 rfl v0 ea0 16 rfl ?_
    refine o_icmpNe X0 d10_16 23 19 (by decide) (by decide) rfl (fun q => by exfalso; exact q rfl) ?_
    intro hc16
    refine o_iconst (v := (1 : Int32)) X0 d10_19 rfl 20 rfl ?_
    refine o_goto X0 d10_20 24 (by decide) (by decide) ?_
    refine o_istoreN X0 d10_24 #[.val (.ref xg), .val (.ref xe), .val (.int (6 : Int32)), .val (.int (1 : Int32))] rfl 25 rfl ?_
    refine o_iloadN X0 d10_25 rfl 26 rfl ?_
    refine o_iconst (v := (1 : Int32)) X0 d10_26 rfl 27 rfl ?_
    refine o_icmpLe X0 d10_27 49 30 (by decide) (by decide) rfl (fun q => by exfalso; exact absurd q (by decide)) ?_
    intro hc27
    refine o_iloadN X0 d10_30 rfl 31 rfl ?_
    refine o_ifEq X0 d10_31 47 34 (by decide) (by decide) rfl (fun q => by exfalso; exact absurd q (by decide)) ?_
    intro hc31
    refine o_aloadN X0 d10_34 rfl rfl 35 rfl ?_
    refine o_iconst (v := (1 : Int32)) X0 d10_35 rfl 36 rfl ?_
    refine o_iaload X0 H0 0 rfl d10_36 1 rfl v1 ga1 37 rfl ?_
    refine o_aloadN X0 d10_37 rfl rfl 38 rfl ?_
    refine o_iconst (v := (1 : Int32)) X0 d10_38 rfl 39 rfl ?_
    refine o_iaload X0 H0 1 rfl d10_39 1 rfl v1 ea1 40 rfl ?_
    refine o_icmpNe X0 d10_40 47 43 (by decide) (by decide) rfl (fun q => by exfalso; exact q rfl) ?_
    intro hc40
    refine o_iconst (v := (1 : Int32)) X0 d10_43 rfl 44 rfl ?_
    refine o_goto X0 d10_44 48 (by decide) (by decide) ?_
    refine o_istoreN X0 d10_48 #[.val (.ref xg), .val (.ref xe), .val (.int (6 : Int32)), .val (.int (1 : Int32))] rfl 49 rfl ?_
    refine o_iloadN X0 d10_49 rfl 50 rfl ?_
    refine o_iconst (v := (2 : Int32)) X0 d10_50 rfl 51 rfl ?_
    refine o_icmpLe X0 d10_51 73 54 (by decide) (by decide) rfl (fun q => by exfalso; exact absurd q (by decide)) ?_
    intro hc51
    refine o_iloadN X0 d10_54 rfl 55 rfl ?_
    refine o_ifEq X0 d10_55 71 58 (by decide) (by decide) rfl (fun q => by exfalso; exact absurd q (by decide)) ?_
    intro hc55
    refine o_aloadN X0 d10_58 rfl rfl 59 rfl ?_
    refine o_iconst (v := (2 : Int32)) X0 d10_59 rfl 60 rfl ?_
    refine o_iaload X0 H0 0 rfl d10_60 2 rfl v2 ga2 61 rfl ?_
    refine o_aloadN X0 d10_61 rfl rfl 62 rfl ?_
    refine o_iconst (v := (2 : Int32)) X0 d10_62 rfl 63 rfl ?_
    refine o_iaload X0 H0 1 rfl d10_63 2 rfl v2 ea2 64 rfl ?_
    refine o_icmpNe X0 d10_64 71 67 (by decide) (by decide) rfl (fun q => by exfalso; exact q rfl) ?_
    intro hc64
    refine o_iconst (v := (1 : Int32)) X0 d10_67 rfl 68 rfl ?_
    refine o_goto X0 d10_68 72 (by decide) (by decide) ?_
    refine o_istoreN X0 d10_72 #[.val (.ref xg), .val (.ref xe), .val (.int (6 : Int32)), .val (.int (1 : Int32))] rfl 73 rfl ?_
    refine o_iloadN X0 d10_73 rfl 74 rfl ?_
    refine o_iconst (v := (3 : Int32)) X0 d10_74 rfl 75 rfl ?_
    refine o_icmpLe X0 d10_75 97 78 (by decide) (by decide) rfl (fun q => by exfalso; exact absurd q (by decide)) ?_
    intro hc75
    refine o_iloadN X0 d10_78 rfl 79 rfl ?_
    refine o_ifEq X0 d10_79 95 82 (by decide) (by decide) rfl (fun q => by exfalso; exact absurd q (by decide)) ?_
    intro hc79
    refine o_aloadN X0 d10_82 rfl rfl 83 rfl ?_
    refine o_iconst (v := (3 : Int32)) X0 d10_83 rfl 84 rfl ?_
    refine o_iaload X0 H0 0 rfl d10_84 3 rfl v3 ga3 85 rfl ?_
    refine o_aloadN X0 d10_85 rfl rfl 86 rfl ?_
    refine o_iconst (v := (3 : Int32)) X0 d10_86 rfl 87 rfl ?_
    refine o_iaload X0 H0 1 rfl d10_87 3 rfl v3 ea3 88 rfl ?_
    refine o_icmpNe X0 d10_88 95 91 (by decide) (by decide) rfl (fun q => by exfalso; exact q rfl) ?_
    intro hc88
    refine o_iconst (v := (1 : Int32)) X0 d10_91 rfl 92 rfl ?_
    refine o_goto X0 d10_92 96 (by decide) (by decide) ?_
    refine o_istoreN X0 d10_96 #[.val (.ref xg), .val (.ref xe), .val (.int (6 : Int32)), .val (.int (1 : Int32))] rfl 97 rfl ?_
    refine o_iloadN X0 d10_97 rfl 98 rfl ?_
    refine o_iconst (v := (4 : Int32)) X0 d10_98 rfl 99 rfl ?_
    refine o_icmpLe X0 d10_99 121 102 (by decide) (by decide) rfl (fun q => by exfalso; exact absurd q (by decide)) ?_
    intro hc99
    refine o_iloadN X0 d10_102 rfl 103 rfl ?_
    refine o_ifEq X0 d10_103 119 106 (by decide) (by decide) rfl (fun q => by exfalso; exact absurd q (by decide)) ?_
    intro hc103
    refine o_aloadN X0 d10_106 rfl rfl 107 rfl ?_
    refine o_iconst (v := (4 : Int32)) X0 d10_107 rfl 108 rfl ?_
    refine o_iaload X0 H0 0 rfl d10_108 4 rfl v4 ga4 109 rfl ?_
    refine o_aloadN X0 d10_109 rfl rfl 110 rfl ?_
    refine o_iconst (v := (4 : Int32)) X0 d10_110 rfl 111 rfl ?_
    refine o_iaload X0 H0 1 rfl d10_111 4 rfl v4 ea4 112 rfl ?_
    refine o_icmpNe X0 d10_112 119 115 (by decide) (by decide) rfl (fun q => by exfalso; exact q rfl) ?_
    intro hc112
    refine o_iconst (v := (1 : Int32)) X0 d10_115 rfl 116 rfl ?_
    refine o_goto X0 d10_116 120 (by decide) (by decide) ?_
    refine o_istoreN X0 d10_120 #[.val (.ref xg), .val (.ref xe), .val (.int (6 : Int32)), .val (.int (1 : Int32))] rfl 121 rfl ?_
    refine o_iloadN X0 d10_121 rfl 122 rfl ?_
    refine o_iconst (v := (5 : Int32)) X0 d10_122 rfl 123 rfl ?_
    refine o_icmpLe X0 d10_123 145 126 (by decide) (by decide) rfl (fun q => by exfalso; exact absurd q (by decide)) ?_
    intro hc123
    refine o_iloadN X0 d10_126 rfl 127 rfl ?_
    refine o_ifEq X0 d10_127 143 130 (by decide) (by decide) rfl (fun q => by exfalso; exact absurd q (by decide)) ?_
    intro hc127
    refine o_aloadN X0 d10_130 rfl rfl 131 rfl ?_
    refine o_iconst (v := (5 : Int32)) X0 d10_131 rfl 132 rfl ?_
    refine o_iaload X0 H0 0 rfl d10_132 5 rfl v5 ga5 133 rfl ?_
    refine o_aloadN X0 d10_133 rfl rfl 134 rfl ?_
    refine o_iconst (v := (5 : Int32)) X0 d10_134 rfl 135 rfl ?_
    refine o_iaload X0 H0 1 rfl d10_135 5 rfl v5 ea5 136 rfl ?_
    refine o_icmpNe X0 d10_136 143 139 (by decide) (by decide) rfl (fun q => by exfalso; exact q rfl) ?_
    intro hc136
    refine o_iconst (v := (1 : Int32)) X0 d10_139 rfl 140 rfl ?_
    refine o_goto X0 d10_140 144 (by decide) (by decide) ?_
    refine o_istoreN X0 d10_144 #[.val (.ref xg), .val (.ref xe), .val (.int (6 : Int32)), .val (.int (1 : Int32))] rfl 145 rfl ?_
    refine o_iloadN X0 d10_145 rfl 146 rfl ?_
    refine o_bipush (v := (6 : Int32)) X0 d10_146 rfl 148 rfl ?_
    refine o_icmpLe X0 d10_148 172 151 (by decide) (by decide) rfl ?_ (fun q => by exfalso; exact absurd q (by decide))
    intro hc148
    refine o_iloadN X0 d10_172 rfl 173 rfl ?_
    refine o_bipush (v := (7 : Int32)) X0 d10_173 rfl 175 rfl ?_
    refine o_icmpLe X0 d10_175 199 178 (by decide) (by decide) rfl ?_ (fun q => by exfalso; exact absurd q (by decide))
    intro hc175
    refine o_iloadN X0 d10_199 rfl 200 rfl ?_
    exact o_retZ X0 d10_200 (by decide) (by decide) (hQ _ _ ⟨rfl, rfl⟩)
  · skip
    obtain ⟨v0, ga0, ea0⟩ := hs 0 (by decide)
    obtain ⟨v1, ga1, ea1⟩ := hs 1 (by decide)
    obtain ⟨v2, ga2, ea2⟩ := hs 2 (by decide)
    obtain ⟨v3, ga3, ea3⟩ := hs 3 (by decide)
    obtain ⟨v4, ga4, ea4⟩ := hs 4 (by decide)
    obtain ⟨v5, ga5, ea5⟩ := hs 5 (by decide)
    obtain ⟨v6, ga6, ea6⟩ := hs 6 (by decide)
    refine o_iconst (v := (1 : Int32)) X0 d10_0 rfl 1 rfl ?_
    refine o_istoreN X0 d10_1 #[.val (.ref xg), .val (.ref xe), .val (.int (7 : Int32)), .val (.int (1 : Int32))] rfl 2 rfl ?_
    refine o_iloadN X0 d10_2 rfl 3 rfl ?_
    refine o_ifLe X0 d10_3 25 6 (by decide) (by decide) rfl (fun q => by exfalso; exact absurd q (by decide)) ?_
    intro hc3
    refine o_iloadN X0 d10_6 rfl 7 rfl ?_
    refine o_ifEq X0 d10_7 23 10 (by decide) (by decide) rfl (fun q => by exfalso; exact absurd q (by decide)) ?_
    intro hc7
    refine o_aloadN X0 d10_10 rfl rfl 11 rfl ?_
    refine o_iconst (v := (0 : Int32)) X0 d10_11 rfl 12 rfl ?_
    refine o_iaload X0 H0 0 rfl d10_12 0 rfl v0 ga0 13 rfl ?_
    refine o_aloadN X0 d10_13 rfl rfl 14 rfl ?_
    refine o_iconst (v := (0 : Int32)) X0 d10_14 rfl 15 rfl ?_
    refine o_iaload X0 H0 1 rfl d10_15 0 rfl v0 ea0 16 rfl ?_
    refine o_icmpNe X0 d10_16 23 19 (by decide) (by decide) rfl (fun q => by exfalso; exact q rfl) ?_
    intro hc16
    refine o_iconst (v := (1 : Int32)) X0 d10_19 rfl 20 rfl ?_
    refine o_goto X0 d10_20 24 (by decide) (by decide) ?_
    refine o_istoreN X0 d10_24 #[.val (.ref xg), .val (.ref xe), .val (.int (7 : Int32)), .val (.int (1 : Int32))] rfl 25 rfl ?_
    refine o_iloadN X0 d10_25 rfl 26 rfl ?_
    refine o_iconst (v := (1 : Int32)) X0 d10_26 rfl 27 rfl ?_
    refine o_icmpLe X0 d10_27 49 30 (by decide) (by decide) rfl (fun q => by exfalso; exact absurd q (by decide)) ?_
    intro hc27
    refine o_iloadN X0 d10_30 rfl 31 rfl ?_
    refine o_ifEq X0 d10_31 47 34 (by decide) (by decide) rfl (fun q => by exfalso; exact absurd q (by decide)) ?_
    intro hc31
    refine o_aloadN X0 d10_34 rfl rfl 35 rfl ?_
    refine o_iconst (v := (1 : Int32)) X0 d10_35 rfl 36 rfl ?_
    refine o_iaload X0 H0 0 rfl d10_36 1 rfl v1 ga1 37 rfl ?_
    refine o_aloadN X0 d10_37 rfl rfl 38 rfl ?_
    refine o_iconst (v := (1 : Int32)) X0 d10_38 rfl 39 rfl ?_
    refine o_iaload X0 H0 1 rfl d10_39 1 rfl v1 ea1 40 rfl ?_
    refine o_icmpNe X0 d10_40 47 43 (by decide) (by decide) rfl (fun q => by exfalso; exact q rfl) ?_
    intro hc40
    refine o_iconst (v := (1 : Int32)) X0 d10_43 rfl 44 rfl ?_
    refine o_goto X0 d10_44 48 (by decide) (by decide) ?_
    refine o_istoreN X0 d10_48 #[.val (.ref xg), .val (.ref xe), .val (.int (7 : Int32)), .val (.int (1 : Int32))] rfl 49 rfl ?_
    refine o_iloadN X0 d10_49 rfl 50 rfl ?_
    refine o_iconst (v := (2 : Int32)) X0 d10_50 rfl 51 rfl ?_
    refine o_icmpLe X0 d10_51 73 54 (by decide) (by decide) rfl (fun q => by exfalso; exact absurd q (by decide)) ?_
    intro hc51
    refine o_iloadN X0 d10_54 rfl 55 rfl ?_
    refine o_ifEq X0 d10_55 71 58 (by decide) (by decide) rfl (fun q => by exfalso; exact absurd q (by decide)) ?_
    intro hc55
    refine o_aloadN X0 d10_58 rfl rfl 59 rfl ?_
    refine o_iconst (v := (2 : Int32)) X0 d10_59 rfl 60 rfl ?_
    refine o_iaload X0 H0 0 rfl d10_60 2 rfl v2 ga2 61 rfl ?_
    refine o_aloadN X0 d10_61 rfl rfl 62 rfl ?_
    refine o_iconst (v := (2 : Int32)) X0 d10_62 rfl 63 rfl ?_
    refine o_iaload X0 H0 1 rfl d10_63 2 rfl v2 ea2 64 rfl ?_
    refine o_icmpNe X0 d10_64 71 67 (by decide) (by decide) rfl (fun q => by exfalso; exact q rfl) ?_
    intro hc64
    refine o_iconst (v := (1 : Int32)) X0 d10_67 rfl 68 rfl ?_
    refine o_goto X0 d10_68 72 (by decide) (by decide) ?_
    refine o_istoreN X0 d10_72 #[.val (.ref xg), .val (.ref xe), .val (.int (7 : Int32)), .val (.int (1 : Int32))] rfl 73 rfl ?_
    refine o_iloadN X0 d10_73 rfl 74 rfl ?_
    refine o_iconst (v := (3 : Int32)) X0 d10_74 rfl 75 rfl ?_
    refine o_icmpLe X0 d10_75 97 78 (by decide) (by decide) rfl (fun q => by exfalso; exact absurd q (by decide)) ?_
    intro hc75
    refine o_iloadN X0 d10_78 rfl 79 rfl ?_
    refine o_ifEq X0 d10_79 95 82 (by decide) (by decide) rfl (fun q => by exfalso; exact absurd q (by decide)) ?_
    intro hc79
    refine o_aloadN X0 d10_82 rfl rfl 83 rfl ?_
    refine o_iconst (v := (3 : Int32)) X0 d10_83 rfl 84 rfl ?_
    refine o_iaload X0 H0 0 rfl d10_84 3 rfl v3 ga3 85 rfl ?_
    refine o_aloadN X0 d10_85 rfl rfl 86 rfl ?_
    refine o_iconst (v := (3 : Int32)) X0 d10_86 rfl 87 rfl ?_
    refine o_iaload X0 H0 1 rfl d10_87 3 rfl v3 ea3 88 rfl ?_
    refine o_icmpNe X0 d10_88 95 91 (by decide) (by decide) rfl (fun q => by exfalso; exact q rfl) ?_
    intro hc88
    refine o_iconst (v := (1 : Int32)) X0 d10_91 rfl 92 rfl ?_
    refine o_goto X0 d10_92 96 (by decide) (by decide) ?_
    refine o_istoreN X0 d10_96 #[.val (.ref xg), .val (.ref xe), .val (.int (7 : Int32)), .val (.int (1 : Int32))] rfl 97 rfl ?_
    refine o_iloadN X0 d10_97 rfl 98 rfl ?_
    refine o_iconst (v := (4 : Int32)) X0 d10_98 rfl 99 rfl ?_
    refine o_icmpLe X0 d10_99 121 102 (by decide) (by decide) rfl (fun q => by exfalso; exact absurd q (by decide)) ?_
    intro hc99
    refine o_iloadN X0 d10_102 rfl 103 rfl ?_
    refine o_ifEq X0 d10_103 119 106 (by decide) (by decide) rfl (fun q => by exfalso; exact absurd q (by decide)) ?_
    intro hc103
    refine o_aloadN X0 d10_106 rfl rfl 107 rfl ?_
    refine o_iconst (v := (4 : Int32)) X0 d10_107 rfl 108 rfl ?_
    refine o_iaload X0 H0 0 rfl d10_108 4 rfl v4 ga4 109 rfl ?_
    refine o_aloadN X0 d10_109 rfl rfl 110 rfl ?_
    refine o_iconst (v := (4 : Int32)) X0 d10_110 rfl 111 rfl ?_
    refine o_iaload X0 H0 1 rfl d10_111 4 rfl v4 ea4 112 rfl ?_
    refine o_icmpNe X0 d10_112 119 115 (by decide) (by decide) rfl (fun q => by exfalso; exact q rfl) ?_
    intro hc112
    refine o_iconst (v := (1 : Int32)) X0 d10_115 rfl 116 rfl ?_
    refine o_goto X0 d10_116 120 (by decide) (by decide) ?_
    refine o_istoreN X0 d10_120 #[.val (.ref xg), .val (.ref xe), .val (.int (7 : Int32)), .val (.int (1 : Int32))] rfl 121 rfl ?_
    refine o_iloadN X0 d10_121 rfl 122 rfl ?_
    refine o_iconst (v := (5 : Int32)) X0 d10_122 rfl 123 rfl ?_
    refine o_icmpLe X0 d10_123 145 126 (by decide) (by decide) rfl (fun q => by exfalso; exact absurd q (by decide)) ?_
    intro hc123
    refine o_iloadN X0 d10_126 rfl 127 rfl ?_
    refine o_ifEq X0 d10_127 143 130 (by decide) (by decide) rfl (fun q => by exfalso; exact absurd q (by decide)) ?_
    intro hc127
    refine o_aloadN X0 d10_130 rfl rfl 131 rfl ?_
    refine o_iconst (v := (5 : Int32)) X0 d10_131 rfl 132 rfl ?_
    refine o_iaload X0 H0 0 rfl d10_132 5 rfl v5 ga5 133 rfl ?_
    refine o_aloadN X0 d10_133 rfl rfl 134 rfl ?_
    refine o_iconst (v := (5 : Int32)) X0 d10_134 rfl 135 rfl ?_
    refine o_iaload X0 H0 1 rfl d10_135 5 rfl v5 ea5 136 rfl ?_
    refine o_icmpNe X0 d10_136 143 139 (by decide) (by decide) rfl (fun q => by exfalso; exact q rfl) ?_
    intro hc136
    refine o_iconst (v := (1 : Int32)) X0 d10_139 rfl 140 rfl ?_
    refine o_goto X0 d10_140 144 (by decide) (by decide) ?_
    refine o_istoreN X0 d10_144 #[.val (.ref xg), .val (.ref xe), .val (.int (7 : Int32)), .val (.int (1 : Int32))] rfl 145 rfl ?_
    refine o_iloadN X0 d10_145 rfl 146 rfl ?_
    refine o_bipush (v := (6 : Int32)) X0 d10_146 rfl 148 rfl ?_
    refine o_icmpLe X0 d10_148 172 151 (by decide) (by decide) rfl (fun q => by exfalso; exact absurd q (by decide)) ?_
    intro hc148
    refine o_iloadN X0 d10_151 rfl 152 rfl ?_
    refine o_ifEq X0 d10_152 170 155 (by decide) (by decide) rfl (fun q => by exfalso; exact absurd q (by decide)) ?_
    intro hc152
    refine o_aloadN X0 d10_155 rfl rfl 156 rfl ?_
    refine o_bipush (v := (6 : Int32)) X0 d10_156 rfl 158 rfl ?_
    refine o_iaload X0 H0 0 rfl d10_158 6 rfl v6 ga6 159 rfl ?_
    refine o_aloadN X0 d10_159 rfl rfl 160 rfl ?_
    refine o_bipush (v := (6 : Int32)) X0 d10_160 rfl 162 rfl ?_
    refine o_iaload X0 H0 1 rfl d10_162 6 rfl v6 ea6 163 rfl ?_
    refine o_icmpNe X0 d10_163 170 166 (by decide) (by decide) rfl (fun q => by exfalso; exact q rfl) ?_
    intro hc163
    refine o_iconst (v := (1 : Int32)) X0 d10_166 rfl 167 rfl ?_
    refine o_goto X0 d10_167 171 (by decide) (by decide) ?_
    refine o_istoreN X0 d10_171 #[.val (.ref xg), .val (.ref xe), .val (.int (7 : Int32)), .val (.int (1 : Int32))] rfl 172 rfl ?_
    refine o_iloadN X0 d10_172 rfl 173 rfl ?_
    refine o_bipush (v := (7 : Int32)) X0 d10_173 rfl 175 rfl ?_
    refine o_icmpLe X0 d10_175 199 178 (by decide) (by decide) rfl ?_ (fun q => by exfalso; exact absurd q (by decide))
    intro hc175
    refine o_iloadN X0 d10_199 rfl 200 rfl ?_
    exact o_retZ X0 d10_200 (by decide) (by decide) (hQ _ _ ⟨rfl, rfl⟩)
  · skip
    obtain ⟨v0, ga0, ea0⟩ := hs 0 (by decide)
    obtain ⟨v1, ga1, ea1⟩ := hs 1 (by decide)
    obtain ⟨v2, ga2, ea2⟩ := hs 2 (by decide)
    obtain ⟨v3, ga3, ea3⟩ := hs 3 (by decide)
    obtain ⟨v4, ga4, ea4⟩ := hs 4 (by decide)
    obtain ⟨v5, ga5, ea5⟩ := hs 5 (by decide)
    obtain ⟨v6, ga6, ea6⟩ := hs 6 (by decide)
    obtain ⟨v7, ga7, ea7⟩ := hs 7 (by decide)
    refine o_iconst (v := (1 : Int32)) X0 d10_0 rfl 1 rfl ?_
    refine o_istoreN X0 d10_1 #[.val (.ref xg), .val (.ref xe), .val (.int (8 : Int32)), .val (.int (1 : Int32))] rfl 2 rfl ?_
    refine o_iloadN X0 d10_2 rfl 3 rfl ?_
    refine o_ifLe X0 d10_3 25 6 (by decide) (by decide) rfl (fun q => by exfalso; exact absurd q (by decide)) ?_
    intro hc3
    refine o_iloadN X0 d10_6 rfl 7 rfl ?_
    refine o_ifEq X0 d10_7 23 10 (by decide) (by decide) rfl (fun q => by exfalso; exact absurd q (by decide)) ?_
    intro hc7
    refine o_aloadN X0 d10_10 rfl rfl 11 rfl ?_
    refine o_iconst (v := (0 : Int32)) X0 d10_11 rfl 12 rfl ?_
    refine o_iaload X0 H0 0 rfl d10_12 0 rfl v0 ga0 13 rfl ?_
    refine o_aloadN X0 d10_13 rfl rfl 14 rfl ?_
    refine o_iconst (v := (0 : Int32)) X0 d10_14 rfl 15 rfl ?_
    refine o_iaload X0 H0 1 rfl d10_15 0 rfl v0 ea0 16 rfl ?_
    refine o_icmpNe X0 d10_16 23 19 (by decide) (by decide) rfl (fun q => by exfalso; exact q rfl) ?_
    intro hc16
    refine o_iconst (v := (1 : Int32)) X0 d10_19 rfl 20 rfl ?_
    refine o_goto X0 d10_20 24 (by decide) (by decide) ?_
    refine o_istoreN X0 d10_24 #[.val (.ref xg), .val (.ref xe), .val (.int (8 : Int32)), .val (.int (1 : Int32))] rfl 25 rfl ?_
    refine o_iloadN X0 d10_25 rfl 26 rfl ?_
    refine o_iconst (v := (1 : Int32)) X0 d10_26 rfl 27 rfl ?_
    refine o_icmpLe X0 d10_27 49 30 (by decide) (by decide) rfl (fun q => by exfalso; exact absurd q (by decide)) ?_
    intro hc27
    refine o_iloadN X0 d10_30 rfl 31 rfl ?_
    refine o_ifEq X0 d10_31 47 34 (by decide) (by decide) rfl (fun q => by exfalso; exact absurd q (by decide)) ?_
    intro hc31
    refine o_aloadN X0 d10_34 rfl rfl 35 rfl ?_
    refine o_iconst (v := (1 : Int32)) X0 d10_35 rfl 36 rfl ?_
    refine o_iaload X0 H0 0 rfl d10_36 1 rfl v1 ga1 37 rfl ?_
    refine o_aloadN X0 d10_37 rfl rfl 38 rfl ?_
    refine o_iconst (v := (1 : Int32)) X0 d10_38 rfl 39 rfl ?_
    refine o_iaload X0 H0 1 rfl d10_39 1 rfl v1 ea1 40 rfl ?_
    refine o_icmpNe X0 d10_40 47 43 (by decide) (by decide) rfl (fun q => by exfalso; exact q rfl) ?_
    intro hc40
    refine o_iconst (v := (1 : Int32)) X0 d10_43 rfl 44 rfl ?_
    refine o_goto X0 d10_44 48 (by decide) (by decide) ?_
    refine o_istoreN X0 d10_48 #[.val (.ref xg), .val (.ref xe), .val (.int (8 : Int32)), .val (.int (1 : Int32))] rfl 49 rfl ?_
    refine o_iloadN X0 d10_49 rfl 50 rfl ?_
    refine o_iconst (v := (2 : Int32)) X0 d10_50 rfl 51 rfl ?_
    refine o_icmpLe X0 d10_51 73 54 (by decide) (by decide) rfl (fun q => by exfalso; exact absurd q (by decide)) ?_
    intro hc51
    refine o_iloadN X0 d10_54 rfl 55 rfl ?_
    refine o_ifEq X0 d10_55 71 58 (by decide) (by decide) rfl (fun q => by exfalso; exact absurd q (by decide)) ?_
    intro hc55
    refine o_aloadN X0 d10_58 rfl rfl 59 rfl ?_
    refine o_iconst (v := (2 : Int32)) X0 d10_59 rfl 60 rfl ?_
    refine o_iaload X0 H0 0 rfl d10_60 2 rfl v2 ga2 61 rfl ?_
    refine o_aloadN X0 d10_61 rfl rfl 62 rfl ?_
    refine o_iconst (v := (2 : Int32)) X0 d10_62 rfl 63 rfl ?_
    refine o_iaload X0 H0 1 rfl d10_63 2 rfl v2 ea2 64 rfl ?_
    refine o_icmpNe X0 d10_64 71 67 (by decide) (by decide) rfl (fun q => by exfalso; exact q rfl) ?_
    intro hc64
    refine o_iconst (v := (1 : Int32)) X0 d10_67 rfl 68 rfl ?_
    refine o_goto X0 d10_68 72 (by decide) (by decide) ?_
    refine o_istoreN X0 d10_72 #[.val (.ref xg), .val (.ref xe), .val (.int (8 : Int32)), .val (.int (1 : Int32))] rfl 73 rfl ?_
    refine o_iloadN X0 d10_73 rfl 74 rfl ?_
    refine o_iconst (v := (3 : Int32)) X0 d10_74 rfl 75 rfl ?_
    refine o_icmpLe X0 d10_75 97 78 (by decide) (by decide) rfl (fun q => by exfalso; exact absurd q (by decide)) ?_
    intro hc75
    refine o_iloadN X0 d10_78 rfl 79 rfl ?_
    refine o_ifEq X0 d10_79 95 82 (by decide) (by decide) rfl (fun q => by exfalso; exact absurd q (by decide)) ?_
    intro hc79
    refine o_aloadN X0 d10_82 rfl rfl 83 rfl ?_
    refine o_iconst (v := (3 : Int32)) X0 d10_83 rfl 84 rfl ?_
    refine o_iaload X0 H0 0 rfl d10_84 3 rfl v3 ga3 85 rfl ?_
    refine o_aloadN X0 d10_85 rfl rfl 86 rfl ?_
    refine o_iconst (v := (3 : Int32)) X0 d10_86 rfl 87 rfl ?_
    refine o_iaload X0 H0 1 rfl d10_87 3 rfl v3 ea3 88 rfl ?_
    refine o_icmpNe X0 d10_88 95 91 (by decide) (by decide) rfl (fun q => by exfalso; exact q rfl) ?_
    intro hc88
    refine o_iconst (v := (1 : Int32)) X0 d10_91 rfl 92 rfl ?_
    refine o_goto X0 d10_92 96 (by decide) (by decide) ?_
    refine o_istoreN X0 d10_96 #[.val (.ref xg), .val (.ref xe), .val (.int (8 : Int32)), .val (.int (1 : Int32))] rfl 97 rfl ?_
    refine o_iloadN X0 d10_97 rfl 98 rfl ?_
    refine o_iconst (v := (4 : Int32)) X0 d10_98 rfl 99 rfl ?_
    refine o_icmpLe X0 d10_99 121 102 (by decide) (by decide) rfl (fun q => by exfalso; exact absurd q (by decide)) ?_
    intro hc99
    refine o_iloadN X0 d10_102 rfl 103 rfl ?_
    refine o_ifEq X0 d10_103 119 106 (by decide) (by decide) rfl (fun q => by exfalso; exact absurd q (by decide)) ?_
    intro hc103
    refine o_aloadN X0 d10_106 rfl rfl 107 rfl ?_
    refine o_iconst (v := (4 : Int32)) X0 d10_107 rfl 108 rfl ?_
    refine o_iaload X0 H0 0 rfl d10_108 4 rfl v4 ga4 109 rfl ?_
    refine o_aloadN X0 d10_109 rfl rfl 110 rfl ?_
    refine o_iconst (v := (4 : Int32)) X0 d10_110 rfl 111 rfl ?_
    refine o_iaload X0 H0 1 rfl d10_111 4 rfl v4 ea4 112 rfl ?_
    refine o_icmpNe X0 d10_112 119 115 (by decide) (by decide) rfl (fun q => by exfalso; exact q rfl) ?_
    intro hc112
    refine o_iconst (v := (1 : Int32)) X0 d10_115 rfl 116 rfl ?_
    refine o_goto X0 d10_116 120 (by decide) (by decide) ?_
    refine o_istoreN X0 d10_120 #[.val (.ref xg), .val (.ref xe), .val (.int (8 : Int32)), .val (.int (1 : Int32))] rfl 121 rfl ?_
    refine o_iloadN X0 d10_121 rfl 122 rfl ?_
    refine o_iconst (v := (5 : Int32)) X0 d10_122 rfl 123 rfl ?_
    refine o_icmpLe X0 d10_123 145 126 (by decide) (by decide) rfl (fun q => by exfalso; exact absurd q (by decide)) ?_
    intro hc123
    refine o_iloadN X0 d10_126 rfl 127 rfl ?_
    refine o_ifEq X0 d10_127 143 130 (by decide) (by decide) rfl (fun q => by exfalso; exact absurd q (by decide)) ?_
    intro hc127
    refine o_aloadN X0 d10_130 rfl rfl 131 rfl ?_
    refine o_iconst (v := (5 : Int32)) X0 d10_131 rfl 132 rfl ?_
    refine o_iaload X0 H0 0 rfl d10_132 5 rfl v5 ga5 133 rfl ?_
    refine o_aloadN X0 d10_133 rfl rfl 134 rfl ?_
    refine o_iconst (v := (5 : Int32)) X0 d10_134 rfl 135 rfl ?_
    refine o_iaload X0 H0 1 rfl d10_135 5 rfl v5 ea5 136 rfl ?_
    refine o_icmpNe X0 d10_136 143 139 (by decide) (by decide) rfl (fun q => by exfalso; exact q rfl) ?_
    intro hc136
    refine o_iconst (v := (1 : Int32)) X0 d10_139 rfl 140 rfl ?_
    refine o_goto X0 d10_140 144 (by decide) (by decide) ?_
    refine o_istoreN X0 d10_144 #[.val (.ref xg), .val (.ref xe), .val (.int (8 : Int32)), .val (.int (1 : Int32))] rfl 145 rfl ?_
    refine o_iloadN X0 d10_145 rfl 146 rfl ?_
    refine o_bipush (v := (6 : Int32)) X0 d10_146 rfl 148 rfl ?_
    refine o_icmpLe X0 d10_148 172 151 (by decide) (by decide) rfl (fun q => by exfalso; exact absurd q (by decide)) ?_
    intro hc148
    refine o_iloadN X0 d10_151 rfl 152 rfl ?_
    refine o_ifEq X0 d10_152 170 155 (by decide) (by decide) rfl (fun q => by exfalso; exact absurd q (by decide)) ?_
    intro hc152
    refine o_aloadN X0 d10_155 rfl rfl 156 rfl ?_
    refine o_bipush (v := (6 : Int32)) X0 d10_156 rfl 158 rfl ?_
    refine o_iaload X0 H0 0 rfl d10_158 6 rfl v6 ga6 159 rfl ?_
    refine o_aloadN X0 d10_159 rfl rfl 160 rfl ?_
    refine o_bipush (v := (6 : Int32)) X0 d10_160 rfl 162 rfl ?_
    refine o_iaload X0 H0 1 rfl d10_162 6 rfl v6 ea6 163 rfl ?_
    refine o_icmpNe X0 d10_163 170 166 (by decide) (by decide) rfl (fun q => by exfalso; exact q rfl) ?_
    intro hc163
    refine o_iconst (v := (1 : Int32)) X0 d10_166 rfl 167 rfl ?_
    refine o_goto X0 d10_167 171 (by decide) (by decide) ?_
    refine o_istoreN X0 d10_171 #[.val (.ref xg), .val (.ref xe), .val (.int (8 : Int32)), .val (.int (1 : Int32))] rfl 172 rfl ?_
    refine o_iloadN X0 d10_172 rfl 173 rfl ?_
    refine o_bipush (v := (7 : Int32)) X0 d10_173 rfl 175 rfl ?_
    refine o_icmpLe X0 d10_175 199 178 (by decide) (by decide) rfl (fun q => by exfalso; exact absurd q (by decide)) ?_
    intro hc175
    refine o_iloadN X0 d10_178 rfl 179 rfl ?_
    refine o_ifEq X0 d10_179 197 182 (by decide) (by decide) rfl (fun q => by exfalso; exact absurd q (by decide)) ?_
    intro hc179
    refine o_aloadN X0 d10_182 rfl rfl 183 rfl ?_
    refine o_bipush (v := (7 : Int32)) X0 d10_183 rfl 185 rfl ?_
    refine o_iaload X0 H0 0 rfl d10_185 7 rfl v7 ga7 186 rfl ?_
    refine o_aloadN X0 d10_186 rfl rfl 187 rfl ?_
    refine o_bipush (v := (7 : Int32)) X0 d10_187 rfl 189 rfl ?_
    refine o_iaload X0 H0 1 rfl d10_189 7 rfl v7 ea7 190 rfl ?_
    refine o_icmpNe X0 d10_190 197 193 (by decide) (by decide) rfl (fun q => by exfalso; exact q rfl) ?_
    intro hc190
    refine o_iconst (v := (1 : Int32)) X0 d10_193 rfl 194 rfl ?_
    refine o_goto X0 d10_194 198 (by decide) (by decide) ?_
    refine o_istoreN X0 d10_198 #[.val (.ref xg), .val (.ref xe), .val (.int (8 : Int32)), .val (.int (1 : Int32))] rfl 199 rfl ?_
    refine o_iloadN X0 d10_199 rfl 200 rfl ?_
    exact o_retZ X0 d10_200 (by decide) (by decide) (hQ _ _ ⟨rfl, rfl⟩)
set_option maxRecDepth 65536 in
set_option maxHeartbeats 40000000 in
theorem c_init (l : Launch) (Z : State) (a0 : Array Value) (hw : ∀ d ∈ tables_1, d.before a0 Z = true) (ws : List Jvm.Cond) (n0 : Nat) (h0 : Heap) (hn0 : n0 ≤ h0.size) (xo xc : Addr) (y0 y1 y2 y3 y4 y5 y6 y7 : Int32) (u0 u1 u2 : Value) (L' : List (Addr × (Cell → Prop))) (H0 : OL n0 h0 ((xo, OO Z "com/example/palamedes/palamedes/lda/NonzeroTopics" [("com/example/palamedes/palamedes/lda/NonzeroTopics", "starts", "[I", u0), ("com/example/palamedes/palamedes/lda/NonzeroTopics", "lengths", "[I", u1), ("com/example/palamedes/palamedes/lda/NonzeroTopics", "topics", "[I", u2)]) :: (xc, OA Z .int [y0, y1, y2, y3, y4, y5, y6, y7]) :: L')) (xr0 xr1 : Int32) (r0 r1 : Nat) (hr0 : f_room (((((0 : Int64) + (Int32.toInt64 y0)) + (Int32.toInt64 y1)) + (Int32.toInt64 y2)) + (Int32.toInt64 y3)) 4 = xr0) (hr1 : f_room (((((0 : Int64) + (Int32.toInt64 y4)) + (Int32.toInt64 y5)) + (Int32.toInt64 y6)) + (Int32.toInt64 y7)) 4 = xr1) (hx0 : xr0.toInt = r0) (hx1 : xr1.toInt = r1) (h04 : r0 ≤ 4) (h14 : r1 ≤ 4) (hc0 : (f_r4 y0 y1 y2 y3).2 ≤ r0) (hc1 : (f_r4 y4 y5 y6 y7).2 ≤ r1) :
    OC l Z (⟨"com/example/palamedes/palamedes/lda/NonzeroTopics", "<init>", "([II)V"⟩ : MethodName) prog_40_method_1_code 8 none ws ({ frames := 2, cells := 3, slots := 13, locals := 32 } : Room) n0 #[(.ref xo), (.ref xc), (.int (4 : Int32))] h0 (fun r h => ∃ (bs bl bt : Addr) (xz xm : Int32), r = none ∧ OL n0 h ((xo, OO Z "com/example/palamedes/palamedes/lda/NonzeroTopics" [("com/example/palamedes/palamedes/lda/NonzeroTopics", "starts", "[I", .ref bs), ("com/example/palamedes/palamedes/lda/NonzeroTopics", "lengths", "[I", .ref bl), ("com/example/palamedes/palamedes/lda/NonzeroTopics", "topics", "[I", .ref bt)]) :: (bs, OA Z .int [(0 : Int32), xr0, (xr0 + xr1)]) :: (bl, OA Z .int [xz, xm]) :: (bt, OA Z .int (List.take r0 (f_r4 y0 y1 y2 y3).1 ++ List.take r1 (f_r4 y4 y5 y6 y7).1)) :: (xc, OA Z .int [y0, y1, y2, y3, y4, y5, y6, y7]) :: L') ∧ xz.toInt = ((f_r4 y0 y1 y2 y3).2 : Int) ∧ xm.toInt = ((f_r4 y4 y5 y6 y7).2 : Int)) := by
  refine OC.of (plainFor_of_name pn_2) hn0 #[.val (.ref xo), .val (.ref xc), .val (.int (4 : Int32)), .unset, .unset, .unset, .unset, .unset] (fun m => by first | (simp [entryFrame, mkF, argsToLocals, Value.category, maxLocals]; done) | rfl) ?_
  intro p e s m below meth cd0 T0 X0 Q' hQ
  refine o_aloadN X0 d4_0 rfl rfl 1 rfl ?_
  refine o_initO X0 d4_1 (hw _ (List.mem_of_getElem? (i := 18) rfl)) (hw _ (List.mem_of_getElem? (i := 19) rfl)) (hw _ (List.mem_of_getElem? (i := 20) rfl)) rfl (by decide) 0 (Nat.le_of_eq rfl) (by decide) 4 rfl ?_
  intro T1 X1
  refine o_aloadN X1 d4_4 rfl rfl 5 rfl ?_
  refine o_arraylength X1 H0 1 rfl d4_5 (8 : Int32) rfl 6 rfl ?_
  refine o_iloadN X1 d4_6 rfl 7 rfl ?_
  refine o_idiv X1 d4_7 (by decide) 8 rfl ?_
  refine o_istoreN X1 d4_8 #[.val (.ref xo), .val (.ref xc), .val (.int (4 : Int32)), .val (.int ((8 : Int32) / (4 : Int32))), .unset, .unset, .unset, .unset] rfl 9 rfl ?_
  rw [show ((8 : Int32) / (4 : Int32)) = (2 : Int32) from rfl]
  refine o_aloadN X1 d4_9 rfl rfl 10 rfl ?_
  refine o_iloadN X1 d4_10 rfl 11 rfl ?_
  refine o_iconst (v := (1 : Int32)) X1 d4_11 rfl 12 rfl ?_
  refine o_iadd X1 d4_12 13 rfl ?_
  refine o_newarray (L := ((xo, OO Z "com/example/palamedes/palamedes/lda/NonzeroTopics" [("com/example/palamedes/palamedes/lda/NonzeroTopics", "starts", "[I", u0), ("com/example/palamedes/palamedes/lda/NonzeroTopics", "lengths", "[I", u1), ("com/example/palamedes/palamedes/lda/NonzeroTopics", "topics", "[I", u2)]) :: (xc, OA Z .int [y0, y1, y2, y3, y4, y5, y6, y7]) :: L')) X1 H0 d4_13 (hw _ (List.mem_of_getElem? (i := 0) rfl)) rfl rfl 3 3 rfl (by decide) (by decide) 1 3 rfl rfl (by decide) (by decide) 15 rfl ?_
  intro T2 h2 b2 X2 H2
  replace H2 : OL n0 h2 ((b2, OA Z .int [(0 : Int32), (0 : Int32), (0 : Int32)]) :: (xo, OO Z "com/example/palamedes/palamedes/lda/NonzeroTopics" [("com/example/palamedes/palamedes/lda/NonzeroTopics", "starts", "[I", u0), ("com/example/palamedes/palamedes/lda/NonzeroTopics", "lengths", "[I", u1), ("com/example/palamedes/palamedes/lda/NonzeroTopics", "topics", "[I", u2)]) :: (xc, OA Z .int [y0, y1, y2, y3, y4, y5, y6, y7]) :: L') := H2
  refine o_putF X2 H2 1 rfl d4_15 0 rfl (hw _ (List.mem_of_getElem? (i := 21) rfl)) (Or.inr ⟨(hw _ (List.mem_of_getElem? (i := 22) rfl)), rfl, rfl⟩) (hw _ (List.mem_of_getElem? (i := 13) rfl)) (ty := (.array .int)) (by decide) rfl rfl (oqS (slot_ne (C := "com/example/palamedes/palamedes/lda/NonzeroTopics") (Or.inr (hw _ (List.mem_of_getElem? (i := 24) rfl))) (Or.inr (hw _ (List.mem_of_getElem? (i := 22) rfl))) (by show "lengths" ≠ "starts"; decide) (t := (.array .int)) (by show parseFieldDescriptor "[I" = some (.array .int); decide) (t' := (.array .int)) (by show parseFieldDescriptor "[I" = some (.array .int); decide)) (oqS (slot_ne (C := "com/example/palamedes/palamedes/lda/NonzeroTopics") (Or.inr (hw _ (List.mem_of_getElem? (i := 32) rfl))) (Or.inr (hw _ (List.mem_of_getElem? (i := 22) rfl))) (by show "topics" ≠ "starts"; decide) (t := (.array .int)) (by show parseFieldDescriptor "[I" = some (.array .int); decide) (t' := (.array .int)) (by show parseFieldDescriptor "[I" = some (.array .int); decide)) oq0)) 18 rfl ?_
  intro T3 h3 X3 H3
  replace H3 : OL n0 h3 ((b2, OA Z .int [(0 : Int32), (0 : Int32), (0 : Int32)]) :: (xo, OO Z "com/example/palamedes/palamedes/lda/NonzeroTopics" [("com/example/palamedes/palamedes/lda/NonzeroTopics", "starts", "[I", .ref b2), ("com/example/palamedes/palamedes/lda/NonzeroTopics", "lengths", "[I", u1), ("com/example/palamedes/palamedes/lda/NonzeroTopics", "topics", "[I", u2)]) :: (xc, OA Z .int [y0, y1, y2, y3, y4, y5, y6, y7]) :: L') := H3
  refine o_aloadN X3 d4_18 rfl rfl 19 rfl ?_
  refine o_iloadN X3 d4_19 rfl 20 rfl ?_
  refine o_newarray (L := ((b2, OA Z .int [(0 : Int32), (0 : Int32), (0 : Int32)]) :: (xo, OO Z "com/example/palamedes/palamedes/lda/NonzeroTopics" [("com/example/palamedes/palamedes/lda/NonzeroTopics", "starts", "[I", .ref b2), ("com/example/palamedes/palamedes/lda/NonzeroTopics", "lengths", "[I", u1), ("com/example/palamedes/palamedes/lda/NonzeroTopics", "topics", "[I", u2)]) :: (xc, OA Z .int [y0, y1, y2, y3, y4, y5, y6, y7]) :: L')) X3 H3 d4_20 (hw _ (List.mem_of_getElem? (i := 0) rfl)) rfl rfl 2 2 rfl (by decide) (by decide) 2 5 rfl rfl (by decide) (by decide) 22 rfl ?_
  intro T4 h4 b4 X4 H4
  replace H4 : OL n0 h4 ((b4, OA Z .int [(0 : Int32), (0 : Int32)]) :: (b2, OA Z .int [(0 : Int32), (0 : Int32), (0 : Int32)]) :: (xo, OO Z "com/example/palamedes/palamedes/lda/NonzeroTopics" [("com/example/palamedes/palamedes/lda/NonzeroTopics", "starts", "[I", .ref b2), ("com/example/palamedes/palamedes/lda/NonzeroTopics", "lengths", "[I", u1), ("com/example/palamedes/palamedes/lda/NonzeroTopics", "topics", "[I", u2)]) :: (xc, OA Z .int [y0, y1, y2, y3, y4, y5, y6, y7]) :: L') := H4
  refine o_putF X4 H4 2 rfl d4_22 1 rfl (hw _ (List.mem_of_getElem? (i := 23) rfl)) (Or.inr ⟨(hw _ (List.mem_of_getElem? (i := 24) rfl)), rfl, rfl⟩) (hw _ (List.mem_of_getElem? (i := 13) rfl)) (ty := (.array .int)) (by decide) rfl rfl (oqS (slot_ne (C := "com/example/palamedes/palamedes/lda/NonzeroTopics") (Or.inr (hw _ (List.mem_of_getElem? (i := 22) rfl))) (Or.inr (hw _ (List.mem_of_getElem? (i := 24) rfl))) (by show "starts" ≠ "lengths"; decide) (t := (.array .int)) (by show parseFieldDescriptor "[I" = some (.array .int); decide) (t' := (.array .int)) (by show parseFieldDescriptor "[I" = some (.array .int); decide)) (oqS (slot_ne (C := "com/example/palamedes/palamedes/lda/NonzeroTopics") (Or.inr (hw _ (List.mem_of_getElem? (i := 32) rfl))) (Or.inr (hw _ (List.mem_of_getElem? (i := 24) rfl))) (by show "topics" ≠ "lengths"; decide) (t := (.array .int)) (by show parseFieldDescriptor "[I" = some (.array .int); decide) (t' := (.array .int)) (by show parseFieldDescriptor "[I" = some (.array .int); decide)) oq0)) 25 rfl ?_
  intro T5 h5 X5 H5
  replace H5 : OL n0 h5 ((b4, OA Z .int [(0 : Int32), (0 : Int32)]) :: (b2, OA Z .int [(0 : Int32), (0 : Int32), (0 : Int32)]) :: (xo, OO Z "com/example/palamedes/palamedes/lda/NonzeroTopics" [("com/example/palamedes/palamedes/lda/NonzeroTopics", "starts", "[I", .ref b2), ("com/example/palamedes/palamedes/lda/NonzeroTopics", "lengths", "[I", .ref b4), ("com/example/palamedes/palamedes/lda/NonzeroTopics", "topics", "[I", u2)]) :: (xc, OA Z .int [y0, y1, y2, y3, y4, y5, y6, y7]) :: L') := H5
  refine o_iconst (v := (0 : Int32)) X5 d4_25 rfl 26 rfl ?_
  refine o_istore X5 d4_26 #[.val (.ref xo), .val (.ref xc), .val (.int (4 : Int32)), .val (.int (2 : Int32)), .val (.int (0 : Int32)), .unset, .unset, .unset] rfl 28 rfl ?_
  refine o_iload X5 d4_28 rfl 30 rfl ?_
  refine o_iloadN X5 d4_30 rfl 31 rfl ?_
  refine o_icmpGe X5 d4_31 96 34 (by decide) (by decide) rfl (fun q => by exfalso; exact absurd q (by decide)) ?_
  intro hc31
  refine o_lconst (v := (0 : Int64)) X5 d4_34 rfl 35 rfl ?_
  refine o_lstore X5 d4_35 #[.val (.ref xo), .val (.ref xc), .val (.int (4 : Int32)), .val (.int (2 : Int32)), .val (.int (0 : Int32)), .val (.long (0 : Int64)), .second, .unset] rfl 37 rfl ?_
  refine o_iconst (v := (0 : Int32)) X5 d4_37 rfl 38 rfl ?_
  refine o_istore X5 d4_38 #[.val (.ref xo), .val (.ref xc), .val (.int (4 : Int32)), .val (.int (2 : Int32)), .val (.int (0 : Int32)), .val (.long (0 : Int64)), .second, .val (.int (0 : Int32))] rfl 40 rfl ?_
  refine o_iload X5 d4_40 rfl 42 rfl ?_
  refine o_iloadN X5 d4_42 rfl 43 rfl ?_
  refine o_icmpGe X5 d4_43 67 46 (by decide) (by decide) rfl (fun q => by exfalso; exact absurd q (by decide)) ?_
  intro hc43
  refine o_lload X5 d4_46 rfl 48 rfl ?_
  refine o_aloadN X5 d4_48 rfl rfl 49 rfl ?_
  refine o_iload X5 d4_49 rfl 51 rfl ?_
  refine o_iloadN X5 d4_51 rfl 52 rfl ?_
  refine o_imul X5 d4_52 53 rfl ?_
  refine o_iload X5 d4_53 rfl 55 rfl ?_
  refine o_iadd X5 d4_55 56 rfl ?_
  refine o_iaload X5 H5 3 rfl d4_56 0 rfl y0 rfl 57 rfl ?_
  refine o_i2l X5 d4_57 58 rfl ?_
  refine o_ladd X5 d4_58 59 rfl ?_
  refine o_lstore X5 d4_59 #[.val (.ref xo), .val (.ref xc), .val (.int (4 : Int32)), .val (.int (2 : Int32)), .val (.int (0 : Int32)), .val (.long ((0 : Int64) + (Int32.toInt64 y0))), .second, .val (.int (0 : Int32))] rfl 61 rfl ?_
  refine o_iinc (v := (0 : Int32)) (w := (1 : Int32)) X5 d4_61 rfl rfl #[.val (.ref xo), .val (.ref xc), .val (.int (4 : Int32)), .val (.int (2 : Int32)), .val (.int (0 : Int32)), .val (.long ((0 : Int64) + (Int32.toInt64 y0))), .second, .val (.int (1 : Int32))] rfl 64 rfl ?_
  refine o_goto X5 d4_64 40 (by decide) (by decide) ?_
  refine o_iload X5 d4_40 rfl 42 rfl ?_
  refine o_iloadN X5 d4_42 rfl 43 rfl ?_
  refine o_icmpGe X5 d4_43 67 46 (by decide) (by decide) rfl (fun q => by exfalso; exact absurd q (by decide)) ?_
  intro hc43_1
  refine o_lload X5 d4_46 rfl 48 rfl ?_
  refine o_aloadN X5 d4_48 rfl rfl 49 rfl ?_
  refine o_iload X5 d4_49 rfl 51 rfl ?_
  refine o_iloadN X5 d4_51 rfl 52 rfl ?_
  refine o_imul X5 d4_52 53 rfl ?_
  refine o_iload X5 d4_53 rfl 55 rfl ?_
  refine o_iadd X5 d4_55 56 rfl ?_
  refine o_iaload X5 H5 3 rfl d4_56 1 rfl y1 rfl 57 rfl ?_
  refine o_i2l X5 d4_57 58 rfl ?_
  refine o_ladd X5 d4_58 59 rfl ?_
  refine o_lstore X5 d4_59 #[.val (.ref xo), .val (.ref xc), .val (.int (4 : Int32)), .val (.int (2 : Int32)), .val (.int (0 : Int32)), .val (.long (((0 : Int64) + (Int32.toInt64 y0)) + (Int32.toInt64 y1))), .second, .val (.int (1 : Int32))] rfl 61 rfl ?_
  refine o_iinc (v := (1 : Int32)) (w := (2 : Int32)) X5 d4_61 rfl rfl #[.val (.ref xo), .val (.ref xc), .val (.int (4 : Int32)), .val (.int (2 : Int32)), .val (.int (0 : Int32)), .val (.long (((0 : Int64) + (Int32.toInt64 y0)) + (Int32.toInt64 y1))), .second, .val (.int (2 : Int32))] rfl 64 rfl ?_
  refine o_goto X5 d4_64 40 (by decide) (by decide) ?_
  refine o_iload X5 d4_40 rfl 42 rfl ?_
  refine o_iloadN X5 d4_42 rfl 43 rfl ?_
  refine o_icmpGe X5 d4_43 67 46 (by decide) (by decide) rfl (fun q => by exfalso; exact absurd q (by decide)) ?_
  intro hc43_2
  refine o_lload X5 d4_46 rfl 48 rfl ?_
  refine o_aloadN X5 d4_48 rfl rfl 49 rfl ?_
  refine o_iload X5 d4_49 rfl 51 rfl ?_
  refine o_iloadN X5 d4_51 rfl 52 rfl ?_
  refine o_imul X5 d4_52 53 rfl ?_
  refine o_iload X5 d4_53 rfl 55 rfl ?_
  refine o_iadd X5 d4_55 56 rfl ?_
  refine o_iaload X5 H5 3 rfl d4_56 2 rfl y2 rfl 57 rfl ?_
  refine o_i2l X5 d4_57 58 rfl ?_
  refine o_ladd X5 d4_58 59 rfl ?_
  refine o_lstore X5 d4_59 #[.val (.ref xo), .val (.ref xc), .val (.int (4 : Int32)), .val (.int (2 : Int32)), .val (.int (0 : Int32)), .val (.long ((((0 : Int64) + (Int32.toInt64 y0)) + (Int32.toInt64 y1)) + (Int32.toInt64 y2))), .second, .val (.int (2 : Int32))] rfl 61 rfl ?_
  refine o_iinc (v := (2 : Int32)) (w := (3 : Int32)) X5 d4_61 rfl rfl #[.val (.ref xo), .val (.ref xc), .val (.int (4 : Int32)), .val (.int (2 : Int32)), .val (.int (0 : Int32)), .val (.long ((((0 : Int64) + (Int32.toInt64 y0)) + (Int32.toInt64 y1)) + (Int32.toInt64 y2))), .second, .val (.int (3 : Int32))] rfl 64 rfl ?_
  refine o_goto X5 d4_64 40 (by decide) (by decide) ?_
  refine o_iload X5 d4_40 rfl 42 rfl ?_
  refine o_iloadN X5 d4_42 rfl 43 rfl ?_
  refine o_icmpGe X5 d4_43 67 46 (by decide) (by decide) rfl (fun q => by exfalso; exact absurd q (by decide)) ?_
  intro hc43_3
  refine o_lload X5 d4_46 rfl 48 rfl ?_
  refine o_aloadN X5 d4_48 rfl rfl 49 rfl ?_
  refine o_iload X5 d4_49 rfl 51 rfl ?_
  refine o_iloadN X5 d4_51 rfl 52 rfl ?_
  refine o_imul X5 d4_52 53 rfl ?_
  refine o_iload X5 d4_53 rfl 55 rfl ?_
  refine o_iadd X5 d4_55 56 rfl ?_
  refine o_iaload X5 H5 3 rfl d4_56 3 rfl y3 rfl 57 rfl ?_
  refine o_i2l X5 d4_57 58 rfl ?_
  refine o_ladd X5 d4_58 59 rfl ?_
  refine o_lstore X5 d4_59 #[.val (.ref xo), .val (.ref xc), .val (.int (4 : Int32)), .val (.int (2 : Int32)), .val (.int (0 : Int32)), .val (.long (((((0 : Int64) + (Int32.toInt64 y0)) + (Int32.toInt64 y1)) + (Int32.toInt64 y2)) + (Int32.toInt64 y3))), .second, .val (.int (3 : Int32))] rfl 61 rfl ?_
  refine o_iinc (v := (3 : Int32)) (w := (4 : Int32)) X5 d4_61 rfl rfl #[.val (.ref xo), .val (.ref xc), .val (.int (4 : Int32)), .val (.int (2 : Int32)), .val (.int (0 : Int32)), .val (.long (((((0 : Int64) + (Int32.toInt64 y0)) + (Int32.toInt64 y1)) + (Int32.toInt64 y2)) + (Int32.toInt64 y3))), .second, .val (.int (4 : Int32))] rfl 64 rfl ?_
  refine o_goto X5 d4_64 40 (by decide) (by decide) ?_
  refine o_iload X5 d4_40 rfl 42 rfl ?_
  refine o_iloadN X5 d4_42 rfl 43 rfl ?_
  refine o_icmpGe X5 d4_43 67 46 (by decide) (by decide) rfl ?_ (fun q => by exfalso; exact absurd q (by decide))
  intro hc43_4
  refine o_aloadN X5 d4_67 rfl rfl 68 rfl ?_
  refine o_getF X5 H5 2 rfl d4_68 0 rfl (hw _ (List.mem_of_getElem? (i := 21) rfl)) 71 rfl ?_
  intro T6 X6
  refine o_iload X6 d4_71 rfl 73 rfl ?_
  refine o_iconst (v := (1 : Int32)) X6 d4_73 rfl 74 rfl ?_
  refine o_iadd X6 d4_74 75 rfl ?_
  refine o_aloadN X6 d4_75 rfl rfl 76 rfl ?_
  refine o_getF X6 H5 2 rfl d4_76 0 rfl (hw _ (List.mem_of_getElem? (i := 21) rfl)) 79 rfl ?_
  intro T7 X7
  refine o_iload X7 d4_79 rfl 81 rfl ?_
  refine o_iaload X7 H5 1 rfl d4_81 0 rfl (0 : Int32) rfl 82 rfl ?_
  refine o_lload X7 d4_82 rfl 84 rfl ?_
  refine o_iloadN X7 d4_84 rfl 85 rfl ?_
  refine o_callS X7 d4_85 (rest := [(.int (0 : Int32)), (.int ((0 : Int32) + (1 : Int32))), (.ref b2)]) (c_room l Z a0 hw [] n0 _ X7.size (((((0 : Int64) + (Int32.toInt64 y0)) + (Int32.toInt64 y1)) + (Int32.toInt64 y2)) + (Int32.toInt64 y3)) (4 : Int32) ) (hw _ (List.mem_of_getElem? (i := 25) rfl)) (hw _ (List.mem_of_getElem? (i := 26) rfl)) (hw _ (List.mem_of_getElem? (i := 14) rfl)) (hw _ (List.mem_of_getElem? (i := 27) rfl)) (by decide) 3 (by decide) (by decide) rfl [(.long (((((0 : Int64) + (Int32.toInt64 y0)) + (Int32.toInt64 y1)) + (Int32.toInt64 y2)) + (Int32.toInt64 y3))), (.int (4 : Int32))] rfl pd_6 rfl rfl (Nat.le_of_eq rfl) 2 5 rfl rfl (by decide) (by decide) 88 rfl ?_
  rintro _ T8 _ X8 ⟨rfl, rfl⟩
  rw [show (f_room (((((0 : Int64) + (Int32.toInt64 y0)) + (Int32.toInt64 y1)) + (Int32.toInt64 y2)) + (Int32.toInt64 y3)) (4 : Int32)) = xr0 from hr0]
  show OE p e (FE s ({ frames := 2, cells := 3, slots := 13, locals := 32 } : Room)) below n0 Q' T8 (mkF m 88 #[.val (.ref xo), .val (.ref xc), .val (.int (4 : Int32)), .val (.int (2 : Int32)), .val (.int (0 : Int32)), .val (.long (((((0 : Int64) + (Int32.toInt64 y0)) + (Int32.toInt64 y1)) + (Int32.toInt64 y2)) + (Int32.toInt64 y3))), .second, .val (.int (4 : Int32))] [(.int xr0), (.int (0 : Int32)), (.int ((0 : Int32) + (1 : Int32))), (.ref b2)])
  refine o_iadd X8 d4_88 89 rfl ?_
  rw [show ((0 : Int32) + xr0) = xr0 from Int32.zero_add _]
  refine o_iastore X8 H5 1 rfl d4_89 1 rfl (by show 1 < 3; decide) 90 rfl ?_
  intro T9 h9 X9 H9
  replace H9 : OL n0 h9 ((b4, OA Z .int [(0 : Int32), (0 : Int32)]) :: (b2, OA Z .int [(0 : Int32), xr0, (0 : Int32)]) :: (xo, OO Z "com/example/palamedes/palamedes/lda/NonzeroTopics" [("com/example/palamedes/palamedes/lda/NonzeroTopics", "starts", "[I", .ref b2), ("com/example/palamedes/palamedes/lda/NonzeroTopics", "lengths", "[I", .ref b4), ("com/example/palamedes/palamedes/lda/NonzeroTopics", "topics", "[I", u2)]) :: (xc, OA Z .int [y0, y1, y2, y3, y4, y5, y6, y7]) :: L') := H9
  refine o_iinc (v := (0 : Int32)) (w := (1 : Int32)) X9 d4_90 rfl rfl #[.val (.ref xo), .val (.ref xc), .val (.int (4 : Int32)), .val (.int (2 : Int32)), .val (.int (1 : Int32)), .val (.long (((((0 : Int64) + (Int32.toInt64 y0)) + (Int32.toInt64 y1)) + (Int32.toInt64 y2)) + (Int32.toInt64 y3))), .second, .val (.int (4 : Int32))] rfl 93 rfl ?_
  refine o_goto X9 d4_93 28 (by decide) (by decide) ?_
  refine o_iload X9 d4_28 rfl 30 rfl ?_
  refine o_iloadN X9 d4_30 rfl 31 rfl ?_
  refine o_icmpGe X9 d4_31 96 34 (by decide) (by decide) rfl (fun q => by exfalso; exact absurd q (by decide)) ?_
  intro hc31_1
  refine o_lconst (v := (0 : Int64)) X9 d4_34 rfl 35 rfl ?_
  refine o_lstore X9 d4_35 #[.val (.ref xo), .val (.ref xc), .val (.int (4 : Int32)), .val (.int (2 : Int32)), .val (.int (1 : Int32)), .val (.long (0 : Int64)), .second, .val (.int (4 : Int32))] rfl 37 rfl ?_
  refine o_iconst (v := (0 : Int32)) X9 d4_37 rfl 38 rfl ?_
  refine o_istore X9 d4_38 #[.val (.ref xo), .val (.ref xc), .val (.int (4 : Int32)), .val (.int (2 : Int32)), .val (.int (1 : Int32)), .val (.long (0 : Int64)), .second, .val (.int (0 : Int32))] rfl 40 rfl ?_
  refine o_iload X9 d4_40 rfl 42 rfl ?_
  refine o_iloadN X9 d4_42 rfl 43 rfl ?_
  refine o_icmpGe X9 d4_43 67 46 (by decide) (by decide) rfl (fun q => by exfalso; exact absurd q (by decide)) ?_
  intro hc43_5
  refine o_lload X9 d4_46 rfl 48 rfl ?_
  refine o_aloadN X9 d4_48 rfl rfl 49 rfl ?_
  refine o_iload X9 d4_49 rfl 51 rfl ?_
  refine o_iloadN X9 d4_51 rfl 52 rfl ?_
  refine o_imul X9 d4_52 53 rfl ?_
  refine o_iload X9 d4_53 rfl 55 rfl ?_
  refine o_iadd X9 d4_55 56 rfl ?_
  refine o_iaload X9 H9 3 rfl d4_56 4 rfl y4 rfl 57 rfl ?_
  refine o_i2l X9 d4_57 58 rfl ?_
  refine o_ladd X9 d4_58 59 rfl ?_
  refine o_lstore X9 d4_59 #[.val (.ref xo), .val (.ref xc), .val (.int (4 : Int32)), .val (.int (2 : Int32)), .val (.int (1 : Int32)), .val (.long ((0 : Int64) + (Int32.toInt64 y4))), .second, .val (.int (0 : Int32))] rfl 61 rfl ?_
  refine o_iinc (v := (0 : Int32)) (w := (1 : Int32)) X9 d4_61 rfl rfl #[.val (.ref xo), .val (.ref xc), .val (.int (4 : Int32)), .val (.int (2 : Int32)), .val (.int (1 : Int32)), .val (.long ((0 : Int64) + (Int32.toInt64 y4))), .second, .val (.int (1 : Int32))] rfl 64 rfl ?_
  refine o_goto X9 d4_64 40 (by decide) (by decide) ?_
  refine o_iload X9 d4_40 rfl 42 rfl ?_
  refine o_iloadN X9 d4_42 rfl 43 rfl ?_
  refine o_icmpGe X9 d4_43 67 46 (by decide) (by decide) rfl (fun q => by exfalso; exact absurd q (by decide)) ?_
  intro hc43_6
  refine o_lload X9 d4_46 rfl 48 rfl ?_
  refine o_aloadN X9 d4_48 rfl rfl 49 rfl ?_
  refine o_iload X9 d4_49 rfl 51 rfl ?_
  refine o_iloadN X9 d4_51 rfl 52 rfl ?_
  refine o_imul X9 d4_52 53 rfl ?_
  refine o_iload X9 d4_53 rfl 55 rfl ?_
  refine o_iadd X9 d4_55 56 rfl ?_
  refine o_iaload X9 H9 3 rfl d4_56 5 rfl y5 rfl 57 rfl ?_
  refine o_i2l X9 d4_57 58 rfl ?_
  refine o_ladd X9 d4_58 59 rfl ?_
  refine o_lstore X9 d4_59 #[.val (.ref xo), .val (.ref xc), .val (.int (4 : Int32)), .val (.int (2 : Int32)), .val (.int (1 : Int32)), .val (.long (((0 : Int64) + (Int32.toInt64 y4)) + (Int32.toInt64 y5))), .second, .val (.int (1 : Int32))] rfl 61 rfl ?_
  refine o_iinc (v := (1 : Int32)) (w := (2 : Int32)) X9 d4_61 rfl rfl #[.val (.ref xo), .val (.ref xc), .val (.int (4 : Int32)), .val (.int (2 : Int32)), .val (.int (1 : Int32)), .val (.long (((0 : Int64) + (Int32.toInt64 y4)) + (Int32.toInt64 y5))), .second, .val (.int (2 : Int32))] rfl 64 rfl ?_
  refine o_goto X9 d4_64 40 (by decide) (by decide) ?_
  refine o_iload X9 d4_40 rfl 42 rfl ?_
  refine o_iloadN X9 d4_42 rfl 43 rfl ?_
  refine o_icmpGe X9 d4_43 67 46 (by decide) (by decide) rfl (fun q => by exfalso; exact absurd q (by decide)) ?_
  intro hc43_7
  refine o_lload X9 d4_46 rfl 48 rfl ?_
  refine o_aloadN X9 d4_48 rfl rfl 49 rfl ?_
  refine o_iload X9 d4_49 rfl 51 rfl ?_
  refine o_iloadN X9 d4_51 rfl 52 rfl ?_
  refine o_imul X9 d4_52 53 rfl ?_
  refine o_iload X9 d4_53 rfl 55 rfl ?_
  refine o_iadd X9 d4_55 56 rfl ?_
  refine o_iaload X9 H9 3 rfl d4_56 6 rfl y6 rfl 57 rfl ?_
  refine o_i2l X9 d4_57 58 rfl ?_
  refine o_ladd X9 d4_58 59 rfl ?_
  refine o_lstore X9 d4_59 #[.val (.ref xo), .val (.ref xc), .val (.int (4 : Int32)), .val (.int (2 : Int32)), .val (.int (1 : Int32)), .val (.long ((((0 : Int64) + (Int32.toInt64 y4)) + (Int32.toInt64 y5)) + (Int32.toInt64 y6))), .second, .val (.int (2 : Int32))] rfl 61 rfl ?_
  refine o_iinc (v := (2 : Int32)) (w := (3 : Int32)) X9 d4_61 rfl rfl #[.val (.ref xo), .val (.ref xc), .val (.int (4 : Int32)), .val (.int (2 : Int32)), .val (.int (1 : Int32)), .val (.long ((((0 : Int64) + (Int32.toInt64 y4)) + (Int32.toInt64 y5)) + (Int32.toInt64 y6))), .second, .val (.int (3 : Int32))] rfl 64 rfl ?_
  refine o_goto X9 d4_64 40 (by decide) (by decide) ?_
  refine o_iload X9 d4_40 rfl 42 rfl ?_
  refine o_iloadN X9 d4_42 rfl 43 rfl ?_
  refine o_icmpGe X9 d4_43 67 46 (by decide) (by decide) rfl (fun q => by exfalso; exact absurd q (by decide)) ?_
  intro hc43_8
  refine o_lload X9 d4_46 rfl 48 rfl ?_
  refine o_aloadN X9 d4_48 rfl rfl 49 rfl ?_
  refine o_iload X9 d4_49 rfl 51 rfl ?_
  refine o_iloadN X9 d4_51 rfl 52 rfl ?_
  refine o_imul X9 d4_52 53 rfl ?_
  refine o_iload X9 d4_53 rfl 55 rfl ?_
  refine o_iadd X9 d4_55 56 rfl ?_
  refine o_iaload X9 H9 3 rfl d4_56 7 rfl y7 rfl 57 rfl ?_
  refine o_i2l X9 d4_57 58 rfl ?_
  refine o_ladd X9 d4_58 59 rfl ?_
  refine o_lstore X9 d4_59 #[.val (.ref xo), .val (.ref xc), .val (.int (4 : Int32)), .val (.int (2 : Int32)), .val (.int (1 : Int32)), .val (.long (((((0 : Int64) + (Int32.toInt64 y4)) + (Int32.toInt64 y5)) + (Int32.toInt64 y6)) + (Int32.toInt64 y7))), .second, .val (.int (3 : Int32))] rfl 61 rfl ?_
  refine o_iinc (v := (3 : Int32)) (w := (4 : Int32)) X9 d4_61 rfl rfl #[.val (.ref xo), .val (.ref xc), .val (.int (4 : Int32)), .val (.int (2 : Int32)), .val (.int (1 : Int32)), .val (.long (((((0 : Int64) + (Int32.toInt64 y4)) + (Int32.toInt64 y5)) + (Int32.toInt64 y6)) + (Int32.toInt64 y7))), .second, .val (.int (4 : Int32))] rfl 64 rfl ?_
  refine o_goto X9 d4_64 40 (by decide) (by decide) ?_
  refine o_iload X9 d4_40 rfl 42 rfl ?_
  refine o_iloadN X9 d4_42 rfl 43 rfl ?_
  refine o_icmpGe X9 d4_43 67 46 (by decide) (by decide) rfl ?_ (fun q => by exfalso; exact absurd q (by decide))
  intro hc43_9
  refine o_aloadN X9 d4_67 rfl rfl 68 rfl ?_
  refine o_getF X9 H9 2 rfl d4_68 0 rfl (hw _ (List.mem_of_getElem? (i := 21) rfl)) 71 rfl ?_
  intro T10 X10
  refine o_iload X10 d4_71 rfl 73 rfl ?_
  refine o_iconst (v := (1 : Int32)) X10 d4_73 rfl 74 rfl ?_
  refine o_iadd X10 d4_74 75 rfl ?_
  refine o_aloadN X10 d4_75 rfl rfl 76 rfl ?_
  refine o_getF X10 H9 2 rfl d4_76 0 rfl (hw _ (List.mem_of_getElem? (i := 21) rfl)) 79 rfl ?_
  intro T11 X11
  refine o_iload X11 d4_79 rfl 81 rfl ?_
  refine o_iaload X11 H9 1 rfl d4_81 1 rfl xr0 rfl 82 rfl ?_
  refine o_lload X11 d4_82 rfl 84 rfl ?_
  refine o_iloadN X11 d4_84 rfl 85 rfl ?_
  refine o_callS X11 d4_85 (rest := [(.int xr0), (.int ((1 : Int32) + (1 : Int32))), (.ref b2)]) (c_room l Z a0 hw [] n0 _ X11.size (((((0 : Int64) + (Int32.toInt64 y4)) + (Int32.toInt64 y5)) + (Int32.toInt64 y6)) + (Int32.toInt64 y7)) (4 : Int32) ) (hw _ (List.mem_of_getElem? (i := 25) rfl)) (hw _ (List.mem_of_getElem? (i := 26) rfl)) (hw _ (List.mem_of_getElem? (i := 14) rfl)) (hw _ (List.mem_of_getElem? (i := 27) rfl)) (by decide) 3 (by decide) (by decide) rfl [(.long (((((0 : Int64) + (Int32.toInt64 y4)) + (Int32.toInt64 y5)) + (Int32.toInt64 y6)) + (Int32.toInt64 y7))), (.int (4 : Int32))] rfl pd_6 rfl rfl (Nat.le_of_eq rfl) 2 5 rfl rfl (by decide) (by decide) 88 rfl ?_
  rintro _ T12 _ X12 ⟨rfl, rfl⟩
  rw [show (f_room (((((0 : Int64) + (Int32.toInt64 y4)) + (Int32.toInt64 y5)) + (Int32.toInt64 y6)) + (Int32.toInt64 y7)) (4 : Int32)) = xr1 from hr1]
  show OE p e (FE s ({ frames := 2, cells := 3, slots := 13, locals := 32 } : Room)) below n0 Q' T12 (mkF m 88 #[.val (.ref xo), .val (.ref xc), .val (.int (4 : Int32)), .val (.int (2 : Int32)), .val (.int (1 : Int32)), .val (.long (((((0 : Int64) + (Int32.toInt64 y4)) + (Int32.toInt64 y5)) + (Int32.toInt64 y6)) + (Int32.toInt64 y7))), .second, .val (.int (4 : Int32))] [(.int xr1), (.int xr0), (.int ((1 : Int32) + (1 : Int32))), (.ref b2)])
  refine o_iadd X12 d4_88 89 rfl ?_
  refine o_iastore X12 H9 1 rfl d4_89 2 rfl (by show 2 < 3; decide) 90 rfl ?_
  intro T13 h13 X13 H13
  replace H13 : OL n0 h13 ((b4, OA Z .int [(0 : Int32), (0 : Int32)]) :: (b2, OA Z .int [(0 : Int32), xr0, (xr0 + xr1)]) :: (xo, OO Z "com/example/palamedes/palamedes/lda/NonzeroTopics" [("com/example/palamedes/palamedes/lda/NonzeroTopics", "starts", "[I", .ref b2), ("com/example/palamedes/palamedes/lda/NonzeroTopics", "lengths", "[I", .ref b4), ("com/example/palamedes/palamedes/lda/NonzeroTopics", "topics", "[I", u2)]) :: (xc, OA Z .int [y0, y1, y2, y3, y4, y5, y6, y7]) :: L') := H13
  refine o_iinc (v := (1 : Int32)) (w := (2 : Int32)) X13 d4_90 rfl rfl #[.val (.ref xo), .val (.ref xc), .val (.int (4 : Int32)), .val (.int (2 : Int32)), .val (.int (2 : Int32)), .val (.long (((((0 : Int64) + (Int32.toInt64 y4)) + (Int32.toInt64 y5)) + (Int32.toInt64 y6)) + (Int32.toInt64 y7))), .second, .val (.int (4 : Int32))] rfl 93 rfl ?_
  refine o_goto X13 d4_93 28 (by decide) (by decide) ?_
  refine o_iload X13 d4_28 rfl 30 rfl ?_
  refine o_iloadN X13 d4_30 rfl 31 rfl ?_
  refine o_icmpGe X13 d4_31 96 34 (by decide) (by decide) rfl ?_ (fun q => by exfalso; exact absurd q (by decide))
  intro hc31_2
  refine o_aloadN X13 d4_96 rfl rfl 97 rfl ?_
  refine o_aloadN X13 d4_97 rfl rfl 98 rfl ?_
  refine o_getF X13 H13 2 rfl d4_98 0 rfl (hw _ (List.mem_of_getElem? (i := 21) rfl)) 101 rfl ?_
  intro T14 X14
  refine o_iloadN X14 d4_101 rfl 102 rfl ?_
  refine o_iaload X14 H13 1 rfl d4_102 2 rfl (xr0 + xr1) rfl 103 rfl ?_
  refine o_newarray (L := ((b4, OA Z .int [(0 : Int32), (0 : Int32)]) :: (b2, OA Z .int [(0 : Int32), xr0, (xr0 + xr1)]) :: (xo, OO Z "com/example/palamedes/palamedes/lda/NonzeroTopics" [("com/example/palamedes/palamedes/lda/NonzeroTopics", "starts", "[I", .ref b2), ("com/example/palamedes/palamedes/lda/NonzeroTopics", "lengths", "[I", .ref b4), ("com/example/palamedes/palamedes/lda/NonzeroTopics", "topics", "[I", u2)]) :: (xc, OA Z .int [y0, y1, y2, y3, y4, y5, y6, y7]) :: L')) X14 H13 d4_103 (hw _ (List.mem_of_getElem? (i := 0) rfl)) rfl rfl (r0 + r1) 8 (v_ad xr0 xr1 r0 r1 hx0 hx1 (by omega) (by omega)) (by omega) (by decide) 3 13 rfl rfl (by decide) (by decide) 105 rfl ?_
  intro T15 h15 b15 X15 H15
  replace H15 : OL n0 h15 ((b15, OA Z .int (List.replicate (r0 + r1) (0 : Int32))) :: (b4, OA Z .int [(0 : Int32), (0 : Int32)]) :: (b2, OA Z .int [(0 : Int32), xr0, (xr0 + xr1)]) :: (xo, OO Z "com/example/palamedes/palamedes/lda/NonzeroTopics" [("com/example/palamedes/palamedes/lda/NonzeroTopics", "starts", "[I", .ref b2), ("com/example/palamedes/palamedes/lda/NonzeroTopics", "lengths", "[I", .ref b4), ("com/example/palamedes/palamedes/lda/NonzeroTopics", "topics", "[I", u2)]) :: (xc, OA Z .int [y0, y1, y2, y3, y4, y5, y6, y7]) :: L') := H15
  refine o_putF X15 H15 3 rfl d4_105 2 rfl (hw _ (List.mem_of_getElem? (i := 31) rfl)) (Or.inr ⟨(hw _ (List.mem_of_getElem? (i := 32) rfl)), rfl, rfl⟩) (hw _ (List.mem_of_getElem? (i := 13) rfl)) (ty := (.array .int)) (by decide) rfl rfl (oqS (slot_ne (C := "com/example/palamedes/palamedes/lda/NonzeroTopics") (Or.inr (hw _ (List.mem_of_getElem? (i := 22) rfl))) (Or.inr (hw _ (List.mem_of_getElem? (i := 32) rfl))) (by show "starts" ≠ "topics"; decide) (t := (.array .int)) (by show parseFieldDescriptor "[I" = some (.array .int); decide) (t' := (.array .int)) (by show parseFieldDescriptor "[I" = some (.array .int); decide)) (oqS (slot_ne (C := "com/example/palamedes/palamedes/lda/NonzeroTopics") (Or.inr (hw _ (List.mem_of_getElem? (i := 24) rfl))) (Or.inr (hw _ (List.mem_of_getElem? (i := 32) rfl))) (by show "lengths" ≠ "topics"; decide) (t := (.array .int)) (by show parseFieldDescriptor "[I" = some (.array .int); decide) (t' := (.array .int)) (by show parseFieldDescriptor "[I" = some (.array .int); decide)) oq0)) 108 rfl ?_
  intro T16 h16 X16 H16
  replace H16 : OL n0 h16 ((b15, OA Z .int (List.replicate (r0 + r1) (0 : Int32))) :: (b4, OA Z .int [(0 : Int32), (0 : Int32)]) :: (b2, OA Z .int [(0 : Int32), xr0, (xr0 + xr1)]) :: (xo, OO Z "com/example/palamedes/palamedes/lda/NonzeroTopics" [("com/example/palamedes/palamedes/lda/NonzeroTopics", "starts", "[I", .ref b2), ("com/example/palamedes/palamedes/lda/NonzeroTopics", "lengths", "[I", .ref b4), ("com/example/palamedes/palamedes/lda/NonzeroTopics", "topics", "[I", .ref b15)]) :: (xc, OA Z .int [y0, y1, y2, y3, y4, y5, y6, y7]) :: L') := H16
  rw [v_rep r0 r1 h04 h14] at H16
  have H17 : OL n0 h16 ((xc, OA Z .int [y0, y1, y2, y3, y4, y5, y6, y7]) :: (b15, OA Z .int (List.take r0 f_r0.1 ++ List.take r1 f_r0.1)) :: (b4, OA Z .int [(0 : Int32), (0 : Int32)]) :: (b2, OA Z .int [(0 : Int32), xr0, (xr0 + xr1)]) :: (xo, OO Z "com/example/palamedes/palamedes/lda/NonzeroTopics" [("com/example/palamedes/palamedes/lda/NonzeroTopics", "starts", "[I", .ref b2), ("com/example/palamedes/palamedes/lda/NonzeroTopics", "lengths", "[I", .ref b4), ("com/example/palamedes/palamedes/lda/NonzeroTopics", "topics", "[I", .ref b15)]) :: L') := H16.front 4 rfl
  have H18 : OL n0 h16 ((b15, OA Z .int (List.take r0 f_r0.1 ++ List.take r1 f_r0.1)) :: (xc, OA Z .int [y0, y1, y2, y3, y4, y5, y6, y7]) :: (b4, OA Z .int [(0 : Int32), (0 : Int32)]) :: (b2, OA Z .int [(0 : Int32), xr0, (xr0 + xr1)]) :: (xo, OO Z "com/example/palamedes/palamedes/lda/NonzeroTopics" [("com/example/palamedes/palamedes/lda/NonzeroTopics", "starts", "[I", .ref b2), ("com/example/palamedes/palamedes/lda/NonzeroTopics", "lengths", "[I", .ref b4), ("com/example/palamedes/palamedes/lda/NonzeroTopics", "topics", "[I", .ref b15)]) :: L') := H17.front 1 rfl
  have H19 : OL n0 h16 ((b4, OA Z .int [(0 : Int32), (0 : Int32)]) :: (b15, OA Z .int (List.take r0 f_r0.1 ++ List.take r1 f_r0.1)) :: (xc, OA Z .int [y0, y1, y2, y3, y4, y5, y6, y7]) :: (b2, OA Z .int [(0 : Int32), xr0, (xr0 + xr1)]) :: (xo, OO Z "com/example/palamedes/palamedes/lda/NonzeroTopics" [("com/example/palamedes/palamedes/lda/NonzeroTopics", "starts", "[I", .ref b2), ("com/example/palamedes/palamedes/lda/NonzeroTopics", "lengths", "[I", .ref b4), ("com/example/palamedes/palamedes/lda/NonzeroTopics", "topics", "[I", .ref b15)]) :: L') := H18.front 2 rfl
  have H20 : OL n0 h16 ((b2, OA Z .int [(0 : Int32), xr0, (xr0 + xr1)]) :: (b4, OA Z .int [(0 : Int32), (0 : Int32)]) :: (b15, OA Z .int (List.take r0 f_r0.1 ++ List.take r1 f_r0.1)) :: (xc, OA Z .int [y0, y1, y2, y3, y4, y5, y6, y7]) :: (xo, OO Z "com/example/palamedes/palamedes/lda/NonzeroTopics" [("com/example/palamedes/palamedes/lda/NonzeroTopics", "starts", "[I", .ref b2), ("com/example/palamedes/palamedes/lda/NonzeroTopics", "lengths", "[I", .ref b4), ("com/example/palamedes/palamedes/lda/NonzeroTopics", "topics", "[I", .ref b15)]) :: L') := H19.front 3 rfl
  have H21 : OL n0 h16 ((xo, OO Z "com/example/palamedes/palamedes/lda/NonzeroTopics" [("com/example/palamedes/palamedes/lda/NonzeroTopics", "starts", "[I", .ref b2), ("com/example/palamedes/palamedes/lda/NonzeroTopics", "lengths", "[I", .ref b4), ("com/example/palamedes/palamedes/lda/NonzeroTopics", "topics", "[I", .ref b15)]) :: (b2, OA Z .int [(0 : Int32), xr0, (xr0 + xr1)]) :: (b4, OA Z .int [(0 : Int32), (0 : Int32)]) :: (b15, OA Z .int (List.take r0 f_r0.1 ++ List.take r1 f_r0.1)) :: (xc, OA Z .int [y0, y1, y2, y3, y4, y5, y6, y7]) :: L') := H20.front 4 rfl
  have J14 : ∀ (T : State) (h : Heap) (xz xm : Int32), OW p l e ({ frames := 2, cells := 3, slots := 13, locals := 32 } : Room) s m #[(.ref xo), (.ref xc), (.int (4 : Int32))] below meth cd0 Z (⟨"com/example/palamedes/palamedes/lda/NonzeroTopics", "<init>", "([II)V"⟩ : MethodName) prog_40_method_1_code 8 none n0 T h 3 13 → OL n0 h ((xo, OO Z "com/example/palamedes/palamedes/lda/NonzeroTopics" [("com/example/palamedes/palamedes/lda/NonzeroTopics", "starts", "[I", .ref b2), ("com/example/palamedes/palamedes/lda/NonzeroTopics", "lengths", "[I", .ref b4), ("com/example/palamedes/palamedes/lda/NonzeroTopics", "topics", "[I", .ref b15)]) :: (b2, OA Z .int [(0 : Int32), xr0, (xr0 + xr1)]) :: (b4, OA Z .int [xz, xm]) :: (b15, OA Z .int (List.take r0 (f_r4 y0 y1 y2 y3).1 ++ List.take r1 (f_r4 y4 y5 y6 y7).1)) :: (xc, OA Z .int [y0, y1, y2, y3, y4, y5, y6, y7]) :: L') → xz.toInt = ((f_r4 y0 y1 y2 y3).2 : Int) → xm.toInt = ((f_r4 y4 y5 y6 y7).2 : Int) → OE p e (FE s ({ frames := 2, cells := 3, slots := 13, locals := 32 } : Room)) below n0 Q' T (mkF m 120 #[.val (.ref xo), .val (.ref xc), .val (.int (4 : Int32)), .val (.int (2 : Int32)), .val (.int (1 : Int32)), .val (.int (4 : Int32)), .unset, .val (.int (4 : Int32))] []) := by
    intro T h xz xm X_J14 H_J14 hz hm
    refine o_iload X_J14 d4_120 rfl 122 rfl ?_
    refine o_iloadN X_J14 d4_122 rfl 123 rfl ?_
    refine o_icmpGe X_J14 d4_123 152 126 (by decide) (by decide) rfl ?_ (fun q => by exfalso; exact absurd q (by decide))
    intro hc123
    refine o_iinc (v := (1 : Int32)) (w := (2 : Int32)) X_J14 d4_152 rfl rfl #[.val (.ref xo), .val (.ref xc), .val (.int (4 : Int32)), .val (.int (2 : Int32)), .val (.int (2 : Int32)), .val (.int (4 : Int32)), .unset, .val (.int (4 : Int32))] rfl 155 rfl ?_
    refine o_goto X_J14 d4_155 111 (by decide) (by decide) ?_
    refine o_iload X_J14 d4_111 rfl 113 rfl ?_
    refine o_iloadN X_J14 d4_113 rfl 114 rfl ?_
    refine o_icmpGe X_J14 d4_114 158 117 (by decide) (by decide) rfl ?_ (fun q => by exfalso; exact absurd q (by decide))
    intro hc114
    exact o_ret X_J14 d4_158 (by decide) (by decide) (hQ _ _ ⟨_, _, _, _, _, rfl, H_J14, hz, hm⟩)
  have J13 : ∀ (T : State) (h : Heap) (xz xm : Int32), OW p l e ({ frames := 2, cells := 3, slots := 13, locals := 32 } : Room) s m #[(.ref xo), (.ref xc), (.int (4 : Int32))] below meth cd0 Z (⟨"com/example/palamedes/palamedes/lda/NonzeroTopics", "<init>", "([II)V"⟩ : MethodName) prog_40_method_1_code 8 none n0 T h 3 13 → OL n0 h ((xo, OO Z "com/example/palamedes/palamedes/lda/NonzeroTopics" [("com/example/palamedes/palamedes/lda/NonzeroTopics", "starts", "[I", .ref b2), ("com/example/palamedes/palamedes/lda/NonzeroTopics", "lengths", "[I", .ref b4), ("com/example/palamedes/palamedes/lda/NonzeroTopics", "topics", "[I", .ref b15)]) :: (b2, OA Z .int [(0 : Int32), xr0, (xr0 + xr1)]) :: (b4, OA Z .int [xz, xm]) :: (b15, OA Z .int (List.take r0 (f_r4 y0 y1 y2 y3).1 ++ List.take r1 (f_r3 y4 y5 y6).1)) :: (xc, OA Z .int [y0, y1, y2, y3, y4, y5, y6, y7]) :: L') → xz.toInt = ((f_r4 y0 y1 y2 y3).2 : Int) → xm.toInt = ((f_r3 y4 y5 y6).2 : Int) → OE p e (FE s ({ frames := 2, cells := 3, slots := 13, locals := 32 } : Room)) below n0 Q' T (mkF m 120 #[.val (.ref xo), .val (.ref xc), .val (.int (4 : Int32)), .val (.int (2 : Int32)), .val (.int (1 : Int32)), .val (.int (3 : Int32)), .unset, .val (.int (4 : Int32))] []) := by
    intro T h xz xm X_J13 H_J13 hz hm
    refine o_iload X_J13 d4_120 rfl 122 rfl ?_
    refine o_iloadN X_J13 d4_122 rfl 123 rfl ?_
    refine o_icmpGe X_J13 d4_123 152 126 (by decide) (by decide) rfl (fun q => by exfalso; exact absurd q (by decide)) ?_
    intro hc123
    refine o_aloadN X_J13 d4_126 rfl rfl 127 rfl ?_
    refine o_iload X_J13 d4_127 rfl 129 rfl ?_
    refine o_iloadN X_J13 d4_129 rfl 130 rfl ?_
    refine o_imul X_J13 d4_130 131 rfl ?_
    refine o_iload X_J13 d4_131 rfl 133 rfl ?_
    refine o_iadd X_J13 d4_133 134 rfl ?_
    refine o_iaload X_J13 H_J13 4 rfl d4_134 7 rfl y7 rfl 135 rfl ?_
    refine o_ifLe X_J13 d4_135 146 138 (by decide) (by decide) rfl ?_ ?_
    · intro hc135
      refine o_iinc (v := (3 : Int32)) (w := (4 : Int32)) X_J13 d4_146 rfl rfl #[.val (.ref xo), .val (.ref xc), .val (.int (4 : Int32)), .val (.int (2 : Int32)), .val (.int (1 : Int32)), .val (.int (4 : Int32)), .unset, .val (.int (4 : Int32))] rfl 149 rfl ?_
      refine o_goto X_J13 d4_149 120 (by decide) (by decide) ?_
      have e22 : (f_r4 y4 y5 y6 y7) = (f_r3 y4 y5 y6) := v_no _ _ _ hc135
      exact J14 _ _ _ _ X_J13 (by rw [e22]; exact H_J13) hz (by rw [e22]; exact hm)
    · intro hc135
      refine o_aloadN X_J13 d4_138 rfl rfl 139 rfl ?_
      refine o_iload X_J13 d4_139 rfl 141 rfl ?_
      refine o_iload X_J13 d4_141 rfl 143 rfl ?_
      have e24 : (f_r4 y4 y5 y6 y7) = (List.set (f_r3 y4 y5 y6).1 (f_r3 y4 y5 y6).2 3, (f_r3 y4 y5 y6).2 + 1) := v_yes _ _ _ hc135
      have q24 : (f_r4 y4 y5 y6 y7).2 = (f_r3 y4 y5 y6).2 + 1 := congrArg Prod.snd e24
      have l24 : (f_r3 y4 y5 y6).2 < r1 := by omega
      have H25 : OL n0 h ((b15, OA Z .int (List.take r0 (f_r4 y0 y1 y2 y3).1 ++ List.take r1 (f_r3 y4 y5 y6).1)) :: (xo, OO Z "com/example/palamedes/palamedes/lda/NonzeroTopics" [("com/example/palamedes/palamedes/lda/NonzeroTopics", "starts", "[I", .ref b2), ("com/example/palamedes/palamedes/lda/NonzeroTopics", "lengths", "[I", .ref b4), ("com/example/palamedes/palamedes/lda/NonzeroTopics", "topics", "[I", .ref b15)]) :: (b2, OA Z .int [(0 : Int32), xr0, (xr0 + xr1)]) :: (b4, OA Z .int [xz, xm]) :: (xc, OA Z .int [y0, y1, y2, y3, y4, y5, y6, y7]) :: L') := H_J13.front 3 rfl
      have H26 : OL n0 h ((b4, OA Z .int [xz, xm]) :: (b15, OA Z .int (List.take r0 (f_r4 y0 y1 y2 y3).1 ++ List.take r1 (f_r3 y4 y5 y6).1)) :: (xo, OO Z "com/example/palamedes/palamedes/lda/NonzeroTopics" [("com/example/palamedes/palamedes/lda/NonzeroTopics", "starts", "[I", .ref b2), ("com/example/palamedes/palamedes/lda/NonzeroTopics", "lengths", "[I", .ref b4), ("com/example/palamedes/palamedes/lda/NonzeroTopics", "topics", "[I", .ref b15)]) :: (b2, OA Z .int [(0 : Int32), xr0, (xr0 + xr1)]) :: (xc, OA Z .int [y0, y1, y2, y3, y4, y5, y6, y7]) :: L') := H25.front 3 rfl
      have H27 : OL n0 h ((b2, OA Z .int [(0 : Int32), xr0, (xr0 + xr1)]) :: (b4, OA Z .int [xz, xm]) :: (b15, OA Z .int (List.take r0 (f_r4 y0 y1 y2 y3).1 ++ List.take r1 (f_r3 y4 y5 y6).1)) :: (xo, OO Z "com/example/palamedes/palamedes/lda/NonzeroTopics" [("com/example/palamedes/palamedes/lda/NonzeroTopics", "starts", "[I", .ref b2), ("com/example/palamedes/palamedes/lda/NonzeroTopics", "lengths", "[I", .ref b4), ("com/example/palamedes/palamedes/lda/NonzeroTopics", "topics", "[I", .ref b15)]) :: (xc, OA Z .int [y0, y1, y2, y3, y4, y5, y6, y7]) :: L') := H26.front 3 rfl
      have H28 : OL n0 h ((xo, OO Z "com/example/palamedes/palamedes/lda/NonzeroTopics" [("com/example/palamedes/palamedes/lda/NonzeroTopics", "starts", "[I", .ref b2), ("com/example/palamedes/palamedes/lda/NonzeroTopics", "lengths", "[I", .ref b4), ("com/example/palamedes/palamedes/lda/NonzeroTopics", "topics", "[I", .ref b15)]) :: (b2, OA Z .int [(0 : Int32), xr0, (xr0 + xr1)]) :: (b4, OA Z .int [xz, xm]) :: (b15, OA Z .int (List.take r0 (f_r4 y0 y1 y2 y3).1 ++ List.take r1 (f_r3 y4 y5 y6).1)) :: (xc, OA Z .int [y0, y1, y2, y3, y4, y5, y6, y7]) :: L') := H27.front 3 rfl
      refine o_callV X_J13 H28 0 rfl d4_143 (rest := []) (c_add1 l Z a0 hw [] n0 _ X_J13.size xo b2 b4 b15 (0 : Int32) xr0 (xr0 + xr1) xz xm (List.take r0 (f_r4 y0 y1 y2 y3).1 ++ List.take r1 (f_r3 y4 y5 y6).1) ((xc, OA Z .int [y0, y1, y2, y3, y4, y5, y6, y7]) :: L') H28 (3 : Int32) (r0 + (f_r3 y4 y5 y6).2) (v_ad _ _ r0 (f_r3 y4 y5 y6).2 hx0 hm (by omega) (by omega)) (by rw [v_tlen _ _ _ _ (v_len4 y0 y1 y2 y3) (v_len3 y4 y5 y6) h04 h14]; omega)) (hw _ (List.mem_of_getElem? (i := 33) rfl)) (hw _ (List.mem_of_getElem? (i := 34) rfl)) (hw _ (List.mem_of_getElem? (i := 36) rfl)) (hw _ (List.mem_of_getElem? (i := 35) rfl)) (hw _ (List.mem_of_getElem? (i := 14) rfl)) (hw _ (List.mem_of_getElem? (i := 37) rfl)) (by decide) 0 (by decide) (by decide) rfl [(.int (1 : Int32)), (.int (3 : Int32))] rfl pd_8 rfl rfl (Nat.le_of_eq rfl) 3 13 rfl rfl (by decide) (by decide) 146 rfl ?_
      rintro _ T23 h23 X23 ⟨rfl, H23⟩
      replace H23 : OL n0 h23 ((xo, OO Z "com/example/palamedes/palamedes/lda/NonzeroTopics" [("com/example/palamedes/palamedes/lda/NonzeroTopics", "starts", "[I", .ref b2), ("com/example/palamedes/palamedes/lda/NonzeroTopics", "lengths", "[I", .ref b4), ("com/example/palamedes/palamedes/lda/NonzeroTopics", "topics", "[I", .ref b15)]) :: (b2, OA Z .int [(0 : Int32), xr0, (xr0 + xr1)]) :: (b4, OA Z .int [xz, (xm + (1 : Int32))]) :: (b15, OA Z .int (List.set (List.take r0 (f_r4 y0 y1 y2 y3).1 ++ List.take r1 (f_r3 y4 y5 y6).1) (r0 + (f_r3 y4 y5 y6).2) (3 : Int32))) :: (xc, OA Z .int [y0, y1, y2, y3, y4, y5, y6, y7]) :: L') := H23
      show OE p e (FE s ({ frames := 2, cells := 3, slots := 13, locals := 32 } : Room)) below n0 Q' T23 (mkF m 146 #[.val (.ref xo), .val (.ref xc), .val (.int (4 : Int32)), .val (.int (2 : Int32)), .val (.int (1 : Int32)), .val (.int (3 : Int32)), .unset, .val (.int (4 : Int32))] [])
      refine o_iinc (v := (3 : Int32)) (w := (4 : Int32)) X23 d4_146 rfl rfl #[.val (.ref xo), .val (.ref xc), .val (.int (4 : Int32)), .val (.int (2 : Int32)), .val (.int (1 : Int32)), .val (.int (4 : Int32)), .unset, .val (.int (4 : Int32))] rfl 149 rfl ?_
      refine o_goto X23 d4_149 120 (by decide) (by decide) ?_
      refine J14 _ _ xz (xm + 1) X23 ?_ hz ?_
      · have hh := H23; rw [v_set1 _ _ _ _ _ _ (v_len4 y0 y1 y2 y3) h04] at hh; rw [e24]; exact hh
      · rw [e24]; exact v_ad _ 1 _ 1 hm rfl (by have := v_n4 y4 y5 y6 y7; omega) (by decide)
  have J12 : ∀ (T : State) (h : Heap) (xz xm : Int32), OW p l e ({ frames := 2, cells := 3, slots := 13, locals := 32 } : Room) s m #[(.ref xo), (.ref xc), (.int (4 : Int32))] below meth cd0 Z (⟨"com/example/palamedes/palamedes/lda/NonzeroTopics", "<init>", "([II)V"⟩ : MethodName) prog_40_method_1_code 8 none n0 T h 3 13 → OL n0 h ((xo, OO Z "com/example/palamedes/palamedes/lda/NonzeroTopics" [("com/example/palamedes/palamedes/lda/NonzeroTopics", "starts", "[I", .ref b2), ("com/example/palamedes/palamedes/lda/NonzeroTopics", "lengths", "[I", .ref b4), ("com/example/palamedes/palamedes/lda/NonzeroTopics", "topics", "[I", .ref b15)]) :: (b2, OA Z .int [(0 : Int32), xr0, (xr0 + xr1)]) :: (b4, OA Z .int [xz, xm]) :: (b15, OA Z .int (List.take r0 (f_r4 y0 y1 y2 y3).1 ++ List.take r1 (f_r2 y4 y5).1)) :: (xc, OA Z .int [y0, y1, y2, y3, y4, y5, y6, y7]) :: L') → xz.toInt = ((f_r4 y0 y1 y2 y3).2 : Int) → xm.toInt = ((f_r2 y4 y5).2 : Int) → OE p e (FE s ({ frames := 2, cells := 3, slots := 13, locals := 32 } : Room)) below n0 Q' T (mkF m 120 #[.val (.ref xo), .val (.ref xc), .val (.int (4 : Int32)), .val (.int (2 : Int32)), .val (.int (1 : Int32)), .val (.int (2 : Int32)), .unset, .val (.int (4 : Int32))] []) := by
    intro T h xz xm X_J12 H_J12 hz hm
    refine o_iload X_J12 d4_120 rfl 122 rfl ?_
    refine o_iloadN X_J12 d4_122 rfl 123 rfl ?_
    refine o_icmpGe X_J12 d4_123 152 126 (by decide) (by decide) rfl (fun q => by exfalso; exact absurd q (by decide)) ?_
    intro hc123
    refine o_aloadN X_J12 d4_126 rfl rfl 127 rfl ?_
    refine o_iload X_J12 d4_127 rfl 129 rfl ?_
    refine o_iloadN X_J12 d4_129 rfl 130 rfl ?_
    refine o_imul X_J12 d4_130 131 rfl ?_
    refine o_iload X_J12 d4_131 rfl 133 rfl ?_
    refine o_iadd X_J12 d4_133 134 rfl ?_
    refine o_iaload X_J12 H_J12 4 rfl d4_134 6 rfl y6 rfl 135 rfl ?_
    refine o_ifLe X_J12 d4_135 146 138 (by decide) (by decide) rfl ?_ ?_
    · intro hc135
      refine o_iinc (v := (2 : Int32)) (w := (3 : Int32)) X_J12 d4_146 rfl rfl #[.val (.ref xo), .val (.ref xc), .val (.int (4 : Int32)), .val (.int (2 : Int32)), .val (.int (1 : Int32)), .val (.int (3 : Int32)), .unset, .val (.int (4 : Int32))] rfl 149 rfl ?_
      refine o_goto X_J12 d4_149 120 (by decide) (by decide) ?_
      have e29 : (f_r3 y4 y5 y6) = (f_r2 y4 y5) := v_no _ _ _ hc135
      exact J13 _ _ _ _ X_J12 (by rw [e29]; exact H_J12) hz (by rw [e29]; exact hm)
    · intro hc135
      refine o_aloadN X_J12 d4_138 rfl rfl 139 rfl ?_
      refine o_iload X_J12 d4_139 rfl 141 rfl ?_
      refine o_iload X_J12 d4_141 rfl 143 rfl ?_
      have e31 : (f_r3 y4 y5 y6) = (List.set (f_r2 y4 y5).1 (f_r2 y4 y5).2 2, (f_r2 y4 y5).2 + 1) := v_yes _ _ _ hc135
      have q31 : (f_r3 y4 y5 y6).2 = (f_r2 y4 y5).2 + 1 := congrArg Prod.snd e31
      have l31 : (f_r2 y4 y5).2 < r1 := by have := v_le4 y4 y5 y6 y7; omega
      have H32 : OL n0 h ((b15, OA Z .int (List.take r0 (f_r4 y0 y1 y2 y3).1 ++ List.take r1 (f_r2 y4 y5).1)) :: (xo, OO Z "com/example/palamedes/palamedes/lda/NonzeroTopics" [("com/example/palamedes/palamedes/lda/NonzeroTopics", "starts", "[I", .ref b2), ("com/example/palamedes/palamedes/lda/NonzeroTopics", "lengths", "[I", .ref b4), ("com/example/palamedes/palamedes/lda/NonzeroTopics", "topics", "[I", .ref b15)]) :: (b2, OA Z .int [(0 : Int32), xr0, (xr0 + xr1)]) :: (b4, OA Z .int [xz, xm]) :: (xc, OA Z .int [y0, y1, y2, y3, y4, y5, y6, y7]) :: L') := H_J12.front 3 rfl
      have H33 : OL n0 h ((b4, OA Z .int [xz, xm]) :: (b15, OA Z .int (List.take r0 (f_r4 y0 y1 y2 y3).1 ++ List.take r1 (f_r2 y4 y5).1)) :: (xo, OO Z "com/example/palamedes/palamedes/lda/NonzeroTopics" [("com/example/palamedes/palamedes/lda/NonzeroTopics", "starts", "[I", .ref b2), ("com/example/palamedes/palamedes/lda/NonzeroTopics", "lengths", "[I", .ref b4), ("com/example/palamedes/palamedes/lda/NonzeroTopics", "topics", "[I", .ref b15)]) :: (b2, OA Z .int [(0 : Int32), xr0, (xr0 + xr1)]) :: (xc, OA Z .int [y0, y1, y2, y3, y4, y5, y6, y7]) :: L') := H32.front 3 rfl
      have H34 : OL n0 h ((b2, OA Z .int [(0 : Int32), xr0, (xr0 + xr1)]) :: (b4, OA Z .int [xz, xm]) :: (b15, OA Z .int (List.take r0 (f_r4 y0 y1 y2 y3).1 ++ List.take r1 (f_r2 y4 y5).1)) :: (xo, OO Z "com/example/palamedes/palamedes/lda/NonzeroTopics" [("com/example/palamedes/palamedes/lda/NonzeroTopics", "starts", "[I", .ref b2), ("com/example/palamedes/palamedes/lda/NonzeroTopics", "lengths", "[I", .ref b4), ("com/example/palamedes/palamedes/lda/NonzeroTopics", "topics", "[I", .ref b15)]) :: (xc, OA Z .int [y0, y1, y2, y3, y4, y5, y6, y7]) :: L') := H33.front 3 rfl
      have H35 : OL n0 h ((xo, OO Z "com/example/palamedes/palamedes/lda/NonzeroTopics" [("com/example/palamedes/palamedes/lda/NonzeroTopics", "starts", "[I", .ref b2), ("com/example/palamedes/palamedes/lda/NonzeroTopics", "lengths", "[I", .ref b4), ("com/example/palamedes/palamedes/lda/NonzeroTopics", "topics", "[I", .ref b15)]) :: (b2, OA Z .int [(0 : Int32), xr0, (xr0 + xr1)]) :: (b4, OA Z .int [xz, xm]) :: (b15, OA Z .int (List.take r0 (f_r4 y0 y1 y2 y3).1 ++ List.take r1 (f_r2 y4 y5).1)) :: (xc, OA Z .int [y0, y1, y2, y3, y4, y5, y6, y7]) :: L') := H34.front 3 rfl
      refine o_callV X_J12 H35 0 rfl d4_143 (rest := []) (c_add1 l Z a0 hw [] n0 _ X_J12.size xo b2 b4 b15 (0 : Int32) xr0 (xr0 + xr1) xz xm (List.take r0 (f_r4 y0 y1 y2 y3).1 ++ List.take r1 (f_r2 y4 y5).1) ((xc, OA Z .int [y0, y1, y2, y3, y4, y5, y6, y7]) :: L') H35 (2 : Int32) (r0 + (f_r2 y4 y5).2) (v_ad _ _ r0 (f_r2 y4 y5).2 hx0 hm (by omega) (by omega)) (by rw [v_tlen _ _ _ _ (v_len4 y0 y1 y2 y3) (v_len2 y4 y5) h04 h14]; omega)) (hw _ (List.mem_of_getElem? (i := 33) rfl)) (hw _ (List.mem_of_getElem? (i := 34) rfl)) (hw _ (List.mem_of_getElem? (i := 36) rfl)) (hw _ (List.mem_of_getElem? (i := 35) rfl)) (hw _ (List.mem_of_getElem? (i := 14) rfl)) (hw _ (List.mem_of_getElem? (i := 37) rfl)) (by decide) 0 (by decide) (by decide) rfl [(.int (1 : Int32)), (.int (2 : Int32))] rfl pd_8 rfl rfl (Nat.le_of_eq rfl) 3 13 rfl rfl (by decide) (by decide) 146 rfl ?_
      rintro _ T30 h30 X30 ⟨rfl, H30⟩
      replace H30 : OL n0 h30 ((xo, OO Z "com/example/palamedes/palamedes/lda/NonzeroTopics" [("com/example/palamedes/palamedes/lda/NonzeroTopics", "starts", "[I", .ref b2), ("com/example/palamedes/palamedes/lda/NonzeroTopics", "lengths", "[I", .ref b4), ("com/example/palamedes/palamedes/lda/NonzeroTopics", "topics", "[I", .ref b15)]) :: (b2, OA Z .int [(0 : Int32), xr0, (xr0 + xr1)]) :: (b4, OA Z .int [xz, (xm + (1 : Int32))]) :: (b15, OA Z .int (List.set (List.take r0 (f_r4 y0 y1 y2 y3).1 ++ List.take r1 (f_r2 y4 y5).1) (r0 + (f_r2 y4 y5).2) (2 : Int32))) :: (xc, OA Z .int [y0, y1, y2, y3, y4, y5, y6, y7]) :: L') := H30
      show OE p e (FE s ({ frames := 2, cells := 3, slots := 13, locals := 32 } : Room)) below n0 Q' T30 (mkF m 146 #[.val (.ref xo), .val (.ref xc), .val (.int (4 : Int32)), .val (.int (2 : Int32)), .val (.int (1 : Int32)), .val (.int (2 : Int32)), .unset, .val (.int (4 : Int32))] [])
      refine o_iinc (v := (2 : Int32)) (w := (3 : Int32)) X30 d4_146 rfl rfl #[.val (.ref xo), .val (.ref xc), .val (.int (4 : Int32)), .val (.int (2 : Int32)), .val (.int (1 : Int32)), .val (.int (3 : Int32)), .unset, .val (.int (4 : Int32))] rfl 149 rfl ?_
      refine o_goto X30 d4_149 120 (by decide) (by decide) ?_
      refine J13 _ _ xz (xm + 1) X30 ?_ hz ?_
      · have hh := H30; rw [v_set1 _ _ _ _ _ _ (v_len4 y0 y1 y2 y3) h04] at hh; rw [e31]; exact hh
      · rw [e31]; exact v_ad _ 1 _ 1 hm rfl (by have := v_n4 y4 y5 y6 y7; omega) (by decide)
  have J11 : ∀ (T : State) (h : Heap) (xz xm : Int32), OW p l e ({ frames := 2, cells := 3, slots := 13, locals := 32 } : Room) s m #[(.ref xo), (.ref xc), (.int (4 : Int32))] below meth cd0 Z (⟨"com/example/palamedes/palamedes/lda/NonzeroTopics", "<init>", "([II)V"⟩ : MethodName) prog_40_method_1_code 8 none n0 T h 3 13 → OL n0 h ((xo, OO Z "com/example/palamedes/palamedes/lda/NonzeroTopics" [("com/example/palamedes/palamedes/lda/NonzeroTopics", "starts", "[I", .ref b2), ("com/example/palamedes/palamedes/lda/NonzeroTopics", "lengths", "[I", .ref b4), ("com/example/palamedes/palamedes/lda/NonzeroTopics", "topics", "[I", .ref b15)]) :: (b2, OA Z .int [(0 : Int32), xr0, (xr0 + xr1)]) :: (b4, OA Z .int [xz, xm]) :: (b15, OA Z .int (List.take r0 (f_r4 y0 y1 y2 y3).1 ++ List.take r1 (f_r1 y4).1)) :: (xc, OA Z .int [y0, y1, y2, y3, y4, y5, y6, y7]) :: L') → xz.toInt = ((f_r4 y0 y1 y2 y3).2 : Int) → xm.toInt = ((f_r1 y4).2 : Int) → OE p e (FE s ({ frames := 2, cells := 3, slots := 13, locals := 32 } : Room)) below n0 Q' T (mkF m 120 #[.val (.ref xo), .val (.ref xc), .val (.int (4 : Int32)), .val (.int (2 : Int32)), .val (.int (1 : Int32)), .val (.int (1 : Int32)), .unset, .val (.int (4 : Int32))] []) := by
    intro T h xz xm X_J11 H_J11 hz hm
    refine o_iload X_J11 d4_120 rfl 122 rfl ?_
    refine o_iloadN X_J11 d4_122 rfl 123 rfl ?_
    refine o_icmpGe X_J11 d4_123 152 126 (by decide) (by decide) rfl (fun q => by exfalso; exact absurd q (by decide)) ?_
    intro hc123
    refine o_aloadN X_J11 d4_126 rfl rfl 127 rfl ?_
    refine o_iload X_J11 d4_127 rfl 129 rfl ?_
    refine o_iloadN X_J11 d4_129 rfl 130 rfl ?_
    refine o_imul X_J11 d4_130 131 rfl ?_
    refine o_iload X_J11 d4_131 rfl 133 rfl ?_
    refine o_iadd X_J11 d4_133 134 rfl ?_
    refine o_iaload X_J11 H_J11 4 rfl d4_134 5 rfl y5 rfl 135 rfl ?_
    refine o_ifLe X_J11 d4_135 146 138 (by decide) (by decide) rfl ?_ ?_
    · intro hc135
      refine o_iinc (v := (1 : Int32)) (w := (2 : Int32)) X_J11 d4_146 rfl rfl #[.val (.ref xo), .val (.ref xc), .val (.int (4 : Int32)), .val (.int (2 : Int32)), .val (.int (1 : Int32)), .val (.int (2 : Int32)), .unset, .val (.int (4 : Int32))] rfl 149 rfl ?_
      refine o_goto X_J11 d4_149 120 (by decide) (by decide) ?_
      have e36 : (f_r2 y4 y5) = (f_r1 y4) := v_no _ _ _ hc135
      exact J12 _ _ _ _ X_J11 (by rw [e36]; exact H_J11) hz (by rw [e36]; exact hm)
    · intro hc135
      refine o_aloadN X_J11 d4_138 rfl rfl 139 rfl ?_
      refine o_iload X_J11 d4_139 rfl 141 rfl ?_
      refine o_iload X_J11 d4_141 rfl 143 rfl ?_
      have e38 : (f_r2 y4 y5) = (List.set (f_r1 y4).1 (f_r1 y4).2 1, (f_r1 y4).2 + 1) := v_yes _ _ _ hc135
      have q38 : (f_r2 y4 y5).2 = (f_r1 y4).2 + 1 := congrArg Prod.snd e38
      have l38 : (f_r1 y4).2 < r1 := by have := v_le3 y4 y5 y6; have := v_le4 y4 y5 y6 y7; omega
      have H39 : OL n0 h ((b15, OA Z .int (List.take r0 (f_r4 y0 y1 y2 y3).1 ++ List.take r1 (f_r1 y4).1)) :: (xo, OO Z "com/example/palamedes/palamedes/lda/NonzeroTopics" [("com/example/palamedes/palamedes/lda/NonzeroTopics", "starts", "[I", .ref b2), ("com/example/palamedes/palamedes/lda/NonzeroTopics", "lengths", "[I", .ref b4), ("com/example/palamedes/palamedes/lda/NonzeroTopics", "topics", "[I", .ref b15)]) :: (b2, OA Z .int [(0 : Int32), xr0, (xr0 + xr1)]) :: (b4, OA Z .int [xz, xm]) :: (xc, OA Z .int [y0, y1, y2, y3, y4, y5, y6, y7]) :: L') := H_J11.front 3 rfl
      have H40 : OL n0 h ((b4, OA Z .int [xz, xm]) :: (b15, OA Z .int (List.take r0 (f_r4 y0 y1 y2 y3).1 ++ List.take r1 (f_r1 y4).1)) :: (xo, OO Z "com/example/palamedes/palamedes/lda/NonzeroTopics" [("com/example/palamedes/palamedes/lda/NonzeroTopics", "starts", "[I", .ref b2), ("com/example/palamedes/palamedes/lda/NonzeroTopics", "lengths", "[I", .ref b4), ("com/example/palamedes/palamedes/lda/NonzeroTopics", "topics", "[I", .ref b15)]) :: (b2, OA Z .int [(0 : Int32), xr0, (xr0 + xr1)]) :: (xc, OA Z .int [y0, y1, y2, y3, y4, y5, y6, y7]) :: L') := H39.front 3 rfl
      have H41 : OL n0 h ((b2, OA Z .int [(0 : Int32), xr0, (xr0 + xr1)]) :: (b4, OA Z .int [xz, xm]) :: (b15, OA Z .int (List.take r0 (f_r4 y0 y1 y2 y3).1 ++ List.take r1 (f_r1 y4).1)) :: (xo, OO Z "com/example/palamedes/palamedes/lda/NonzeroTopics" [("com/example/palamedes/palamedes/lda/NonzeroTopics", "starts", "[I", .ref b2), ("com/example/palamedes/palamedes/lda/NonzeroTopics", "lengths", "[I", .ref b4), ("com/example/palamedes/palamedes/lda/NonzeroTopics", "topics", "[I", .ref b15)]) :: (xc, OA Z .int [y0, y1, y2, y3, y4, y5, y6, y7]) :: L') := H40.front 3 rfl
      have H42 : OL n0 h ((xo, OO Z "com/example/palamedes/palamedes/lda/NonzeroTopics" [("com/example/palamedes/palamedes/lda/NonzeroTopics", "starts", "[I", .ref b2), ("com/example/palamedes/palamedes/lda/NonzeroTopics", "lengths", "[I", .ref b4), ("com/example/palamedes/palamedes/lda/NonzeroTopics", "topics", "[I", .ref b15)]) :: (b2, OA Z .int [(0 : Int32), xr0, (xr0 + xr1)]) :: (b4, OA Z .int [xz, xm]) :: (b15, OA Z .int (List.take r0 (f_r4 y0 y1 y2 y3).1 ++ List.take r1 (f_r1 y4).1)) :: (xc, OA Z .int [y0, y1, y2, y3, y4, y5, y6, y7]) :: L') := H41.front 3 rfl
      refine o_callV X_J11 H42 0 rfl d4_143 (rest := []) (c_add1 l Z a0 hw [] n0 _ X_J11.size xo b2 b4 b15 (0 : Int32) xr0 (xr0 + xr1) xz xm (List.take r0 (f_r4 y0 y1 y2 y3).1 ++ List.take r1 (f_r1 y4).1) ((xc, OA Z .int [y0, y1, y2, y3, y4, y5, y6, y7]) :: L') H42 (1 : Int32) (r0 + (f_r1 y4).2) (v_ad _ _ r0 (f_r1 y4).2 hx0 hm (by omega) (by omega)) (by rw [v_tlen _ _ _ _ (v_len4 y0 y1 y2 y3) (v_len1 y4) h04 h14]; omega)) (hw _ (List.mem_of_getElem? (i := 33) rfl)) (hw _ (List.mem_of_getElem? (i := 34) rfl)) (hw _ (List.mem_of_getElem? (i := 36) rfl)) (hw _ (List.mem_of_getElem? (i := 35) rfl)) (hw _ (List.mem_of_getElem? (i := 14) rfl)) (hw _ (List.mem_of_getElem? (i := 37) rfl)) (by decide) 0 (by decide) (by decide) rfl [(.int (1 : Int32)), (.int (1 : Int32))] rfl pd_8 rfl rfl (Nat.le_of_eq rfl) 3 13 rfl rfl (by decide) (by decide) 146 rfl ?_
      rintro _ T37 h37 X37 ⟨rfl, H37⟩
      replace H37 : OL n0 h37 ((xo, OO Z "com/example/palamedes/palamedes/lda/NonzeroTopics" [("com/example/palamedes/palamedes/lda/NonzeroTopics", "starts", "[I", .ref b2), ("com/example/palamedes/palamedes/lda/NonzeroTopics", "lengths", "[I", .ref b4), ("com/example/palamedes/palamedes/lda/NonzeroTopics", "topics", "[I", .ref b15)]) :: (b2, OA Z .int [(0 : Int32), xr0, (xr0 + xr1)]) :: (b4, OA Z .int [xz, (xm + (1 : Int32))]) :: (b15, OA Z .int (List.set (List.take r0 (f_r4 y0 y1 y2 y3).1 ++ List.take r1 (f_r1 y4).1) (r0 + (f_r1 y4).2) (1 : Int32))) :: (xc, OA Z .int [y0, y1, y2, y3, y4, y5, y6, y7]) :: L') := H37
      show OE p e (FE s ({ frames := 2, cells := 3, slots := 13, locals := 32 } : Room)) below n0 Q' T37 (mkF m 146 #[.val (.ref xo), .val (.ref xc), .val (.int (4 : Int32)), .val (.int (2 : Int32)), .val (.int (1 : Int32)), .val (.int (1 : Int32)), .unset, .val (.int (4 : Int32))] [])
      refine o_iinc (v := (1 : Int32)) (w := (2 : Int32)) X37 d4_146 rfl rfl #[.val (.ref xo), .val (.ref xc), .val (.int (4 : Int32)), .val (.int (2 : Int32)), .val (.int (1 : Int32)), .val (.int (2 : Int32)), .unset, .val (.int (4 : Int32))] rfl 149 rfl ?_
      refine o_goto X37 d4_149 120 (by decide) (by decide) ?_
      refine J12 _ _ xz (xm + 1) X37 ?_ hz ?_
      · have hh := H37; rw [v_set1 _ _ _ _ _ _ (v_len4 y0 y1 y2 y3) h04] at hh; rw [e38]; exact hh
      · rw [e38]; exact v_ad _ 1 _ 1 hm rfl (by have := v_n4 y4 y5 y6 y7; omega) (by decide)
  have J10 : ∀ (T : State) (h : Heap) (xz xm : Int32), OW p l e ({ frames := 2, cells := 3, slots := 13, locals := 32 } : Room) s m #[(.ref xo), (.ref xc), (.int (4 : Int32))] below meth cd0 Z (⟨"com/example/palamedes/palamedes/lda/NonzeroTopics", "<init>", "([II)V"⟩ : MethodName) prog_40_method_1_code 8 none n0 T h 3 13 → OL n0 h ((xo, OO Z "com/example/palamedes/palamedes/lda/NonzeroTopics" [("com/example/palamedes/palamedes/lda/NonzeroTopics", "starts", "[I", .ref b2), ("com/example/palamedes/palamedes/lda/NonzeroTopics", "lengths", "[I", .ref b4), ("com/example/palamedes/palamedes/lda/NonzeroTopics", "topics", "[I", .ref b15)]) :: (b2, OA Z .int [(0 : Int32), xr0, (xr0 + xr1)]) :: (b4, OA Z .int [xz, xm]) :: (b15, OA Z .int (List.take r0 (f_r4 y0 y1 y2 y3).1 ++ List.take r1 f_r0.1)) :: (xc, OA Z .int [y0, y1, y2, y3, y4, y5, y6, y7]) :: L') → xz.toInt = ((f_r4 y0 y1 y2 y3).2 : Int) → xm.toInt = (f_r0.2 : Int) → OE p e (FE s ({ frames := 2, cells := 3, slots := 13, locals := 32 } : Room)) below n0 Q' T (mkF m 120 #[.val (.ref xo), .val (.ref xc), .val (.int (4 : Int32)), .val (.int (2 : Int32)), .val (.int (1 : Int32)), .val (.int (0 : Int32)), .unset, .val (.int (4 : Int32))] []) := by
    intro T h xz xm X_J10 H_J10 hz hm
    refine o_iload X_J10 d4_120 rfl 122 rfl ?_
    refine o_iloadN X_J10 d4_122 rfl 123 rfl ?_
    refine o_icmpGe X_J10 d4_123 152 126 (by decide) (by decide) rfl (fun q => by exfalso; exact absurd q (by decide)) ?_
    intro hc123
    refine o_aloadN X_J10 d4_126 rfl rfl 127 rfl ?_
    refine o_iload X_J10 d4_127 rfl 129 rfl ?_
    refine o_iloadN X_J10 d4_129 rfl 130 rfl ?_
    refine o_imul X_J10 d4_130 131 rfl ?_
    refine o_iload X_J10 d4_131 rfl 133 rfl ?_
    refine o_iadd X_J10 d4_133 134 rfl ?_
    refine o_iaload X_J10 H_J10 4 rfl d4_134 4 rfl y4 rfl 135 rfl ?_
    refine o_ifLe X_J10 d4_135 146 138 (by decide) (by decide) rfl ?_ ?_
    · intro hc135
      refine o_iinc (v := (0 : Int32)) (w := (1 : Int32)) X_J10 d4_146 rfl rfl #[.val (.ref xo), .val (.ref xc), .val (.int (4 : Int32)), .val (.int (2 : Int32)), .val (.int (1 : Int32)), .val (.int (1 : Int32)), .unset, .val (.int (4 : Int32))] rfl 149 rfl ?_
      refine o_goto X_J10 d4_149 120 (by decide) (by decide) ?_
      have e43 : (f_r1 y4) = f_r0 := v_no _ _ _ hc135
      exact J11 _ _ _ _ X_J10 (by rw [e43]; exact H_J10) hz (by rw [e43]; exact hm)
    · intro hc135
      refine o_aloadN X_J10 d4_138 rfl rfl 139 rfl ?_
      refine o_iload X_J10 d4_139 rfl 141 rfl ?_
      refine o_iload X_J10 d4_141 rfl 143 rfl ?_
      have e45 : (f_r1 y4) = (List.set f_r0.1 f_r0.2 0, f_r0.2 + 1) := v_yes _ _ _ hc135
      have q45 : (f_r1 y4).2 = f_r0.2 + 1 := congrArg Prod.snd e45
      have l45 : f_r0.2 < r1 := by have := v_le2 y4 y5; have := v_le3 y4 y5 y6; have := v_le4 y4 y5 y6 y7; omega
      have H46 : OL n0 h ((b15, OA Z .int (List.take r0 (f_r4 y0 y1 y2 y3).1 ++ List.take r1 f_r0.1)) :: (xo, OO Z "com/example/palamedes/palamedes/lda/NonzeroTopics" [("com/example/palamedes/palamedes/lda/NonzeroTopics", "starts", "[I", .ref b2), ("com/example/palamedes/palamedes/lda/NonzeroTopics", "lengths", "[I", .ref b4), ("com/example/palamedes/palamedes/lda/NonzeroTopics", "topics", "[I", .ref b15)]) :: (b2, OA Z .int [(0 : Int32), xr0, (xr0 + xr1)]) :: (b4, OA Z .int [xz, xm]) :: (xc, OA Z .int [y0, y1, y2, y3, y4, y5, y6, y7]) :: L') := H_J10.front 3 rfl
      have H47 : OL n0 h ((b4, OA Z .int [xz, xm]) :: (b15, OA Z .int (List.take r0 (f_r4 y0 y1 y2 y3).1 ++ List.take r1 f_r0.1)) :: (xo, OO Z "com/example/palamedes/palamedes/lda/NonzeroTopics" [("com/example/palamedes/palamedes/lda/NonzeroTopics", "starts", "[I", .ref b2), ("com/example/palamedes/palamedes/lda/NonzeroTopics", "lengths", "[I", .ref b4), ("com/example/palamedes/palamedes/lda/NonzeroTopics", "topics", "[I", .ref b15)]) :: (b2, OA Z .int [(0 : Int32), xr0, (xr0 + xr1)]) :: (xc, OA Z .int [y0, y1, y2, y3, y4, y5, y6, y7]) :: L') := H46.front 3 rfl
      have H48 : OL n0 h ((b2, OA Z .int [(0 : Int32), xr0, (xr0 + xr1)]) :: (b4, OA Z .int [xz, xm]) :: (b15, OA Z .int (List.take r0 (f_r4 y0 y1 y2 y3).1 ++ List.take r1 f_r0.1)) :: (xo, OO Z "com/example/palamedes/palamedes/lda/NonzeroTopics" [("com/example/palamedes/palamedes/lda/NonzeroTopics", "starts", "[I", .ref b2), ("com/example/palamedes/palamedes/lda/NonzeroTopics", "lengths", "[I", .ref b4), ("com/example/palamedes/palamedes/lda/NonzeroTopics", "topics", "[I", .ref b15)]) :: (xc, OA Z .int [y0, y1, y2, y3, y4, y5, y6, y7]) :: L') := H47.front 3 rfl
      have H49 : OL n0 h ((xo, OO Z "com/example/palamedes/palamedes/lda/NonzeroTopics" [("com/example/palamedes/palamedes/lda/NonzeroTopics", "starts", "[I", .ref b2), ("com/example/palamedes/palamedes/lda/NonzeroTopics", "lengths", "[I", .ref b4), ("com/example/palamedes/palamedes/lda/NonzeroTopics", "topics", "[I", .ref b15)]) :: (b2, OA Z .int [(0 : Int32), xr0, (xr0 + xr1)]) :: (b4, OA Z .int [xz, xm]) :: (b15, OA Z .int (List.take r0 (f_r4 y0 y1 y2 y3).1 ++ List.take r1 f_r0.1)) :: (xc, OA Z .int [y0, y1, y2, y3, y4, y5, y6, y7]) :: L') := H48.front 3 rfl
      refine o_callV X_J10 H49 0 rfl d4_143 (rest := []) (c_add1 l Z a0 hw [] n0 _ X_J10.size xo b2 b4 b15 (0 : Int32) xr0 (xr0 + xr1) xz xm (List.take r0 (f_r4 y0 y1 y2 y3).1 ++ List.take r1 f_r0.1) ((xc, OA Z .int [y0, y1, y2, y3, y4, y5, y6, y7]) :: L') H49 (0 : Int32) (r0 + f_r0.2) (v_ad _ _ r0 f_r0.2 hx0 hm (by omega) (by omega)) (by rw [v_tlen _ _ _ _ (v_len4 y0 y1 y2 y3) v_len0 h04 h14]; omega)) (hw _ (List.mem_of_getElem? (i := 33) rfl)) (hw _ (List.mem_of_getElem? (i := 34) rfl)) (hw _ (List.mem_of_getElem? (i := 36) rfl)) (hw _ (List.mem_of_getElem? (i := 35) rfl)) (hw _ (List.mem_of_getElem? (i := 14) rfl)) (hw _ (List.mem_of_getElem? (i := 37) rfl)) (by decide) 0 (by decide) (by decide) rfl [(.int (1 : Int32)), (.int (0 : Int32))] rfl pd_8 rfl rfl (Nat.le_of_eq rfl) 3 13 rfl rfl (by decide) (by decide) 146 rfl ?_
      rintro _ T44 h44 X44 ⟨rfl, H44⟩
      replace H44 : OL n0 h44 ((xo, OO Z "com/example/palamedes/palamedes/lda/NonzeroTopics" [("com/example/palamedes/palamedes/lda/NonzeroTopics", "starts", "[I", .ref b2), ("com/example/palamedes/palamedes/lda/NonzeroTopics", "lengths", "[I", .ref b4), ("com/example/palamedes/palamedes/lda/NonzeroTopics", "topics", "[I", .ref b15)]) :: (b2, OA Z .int [(0 : Int32), xr0, (xr0 + xr1)]) :: (b4, OA Z .int [xz, (xm + (1 : Int32))]) :: (b15, OA Z .int (List.set (List.take r0 (f_r4 y0 y1 y2 y3).1 ++ List.take r1 f_r0.1) (r0 + f_r0.2) (0 : Int32))) :: (xc, OA Z .int [y0, y1, y2, y3, y4, y5, y6, y7]) :: L') := H44
      show OE p e (FE s ({ frames := 2, cells := 3, slots := 13, locals := 32 } : Room)) below n0 Q' T44 (mkF m 146 #[.val (.ref xo), .val (.ref xc), .val (.int (4 : Int32)), .val (.int (2 : Int32)), .val (.int (1 : Int32)), .val (.int (0 : Int32)), .unset, .val (.int (4 : Int32))] [])
      refine o_iinc (v := (0 : Int32)) (w := (1 : Int32)) X44 d4_146 rfl rfl #[.val (.ref xo), .val (.ref xc), .val (.int (4 : Int32)), .val (.int (2 : Int32)), .val (.int (1 : Int32)), .val (.int (1 : Int32)), .unset, .val (.int (4 : Int32))] rfl 149 rfl ?_
      refine o_goto X44 d4_149 120 (by decide) (by decide) ?_
      refine J11 _ _ xz (xm + 1) X44 ?_ hz ?_
      · have hh := H44; rw [v_set1 _ _ _ _ _ _ (v_len4 y0 y1 y2 y3) h04] at hh; rw [e45]; exact hh
      · rw [e45]; exact v_ad _ 1 _ 1 hm rfl (by have := v_n4 y4 y5 y6 y7; omega) (by decide)
  have J04 : ∀ (T : State) (h : Heap) (xm : Int32), OW p l e ({ frames := 2, cells := 3, slots := 13, locals := 32 } : Room) s m #[(.ref xo), (.ref xc), (.int (4 : Int32))] below meth cd0 Z (⟨"com/example/palamedes/palamedes/lda/NonzeroTopics", "<init>", "([II)V"⟩ : MethodName) prog_40_method_1_code 8 none n0 T h 3 13 → OL n0 h ((xo, OO Z "com/example/palamedes/palamedes/lda/NonzeroTopics" [("com/example/palamedes/palamedes/lda/NonzeroTopics", "starts", "[I", .ref b2), ("com/example/palamedes/palamedes/lda/NonzeroTopics", "lengths", "[I", .ref b4), ("com/example/palamedes/palamedes/lda/NonzeroTopics", "topics", "[I", .ref b15)]) :: (b2, OA Z .int [(0 : Int32), xr0, (xr0 + xr1)]) :: (b4, OA Z .int [xm, (0 : Int32)]) :: (b15, OA Z .int (List.take r0 (f_r4 y0 y1 y2 y3).1 ++ List.take r1 f_r0.1)) :: (xc, OA Z .int [y0, y1, y2, y3, y4, y5, y6, y7]) :: L') → xm.toInt = ((f_r4 y0 y1 y2 y3).2 : Int) → OE p e (FE s ({ frames := 2, cells := 3, slots := 13, locals := 32 } : Room)) below n0 Q' T (mkF m 120 #[.val (.ref xo), .val (.ref xc), .val (.int (4 : Int32)), .val (.int (2 : Int32)), .val (.int (0 : Int32)), .val (.int (4 : Int32)), .unset, .val (.int (4 : Int32))] []) := by
    intro T h xm X_J04 H_J04 hm
    refine o_iload X_J04 d4_120 rfl 122 rfl ?_
    refine o_iloadN X_J04 d4_122 rfl 123 rfl ?_
    refine o_icmpGe X_J04 d4_123 152 126 (by decide) (by decide) rfl ?_ (fun q => by exfalso; exact absurd q (by decide))
    intro hc123
    refine o_iinc (v := (0 : Int32)) (w := (1 : Int32)) X_J04 d4_152 rfl rfl #[.val (.ref xo), .val (.ref xc), .val (.int (4 : Int32)), .val (.int (2 : Int32)), .val (.int (1 : Int32)), .val (.int (4 : Int32)), .unset, .val (.int (4 : Int32))] rfl 155 rfl ?_
    refine o_goto X_J04 d4_155 111 (by decide) (by decide) ?_
    refine o_iload X_J04 d4_111 rfl 113 rfl ?_
    refine o_iloadN X_J04 d4_113 rfl 114 rfl ?_
    refine o_icmpGe X_J04 d4_114 158 117 (by decide) (by decide) rfl (fun q => by exfalso; exact absurd q (by decide)) ?_
    intro hc114
    refine o_iconst (v := (0 : Int32)) X_J04 d4_117 rfl 118 rfl ?_
    refine o_istore X_J04 d4_118 #[.val (.ref xo), .val (.ref xc), .val (.int (4 : Int32)), .val (.int (2 : Int32)), .val (.int (1 : Int32)), .val (.int (0 : Int32)), .unset, .val (.int (4 : Int32))] rfl 120 rfl ?_
    exact J10 _ _ _ _ X_J04 H_J04 hm rfl
  have J03 : ∀ (T : State) (h : Heap) (xm : Int32), OW p l e ({ frames := 2, cells := 3, slots := 13, locals := 32 } : Room) s m #[(.ref xo), (.ref xc), (.int (4 : Int32))] below meth cd0 Z (⟨"com/example/palamedes/palamedes/lda/NonzeroTopics", "<init>", "([II)V"⟩ : MethodName) prog_40_method_1_code 8 none n0 T h 3 13 → OL n0 h ((xo, OO Z "com/example/palamedes/palamedes/lda/NonzeroTopics" [("com/example/palamedes/palamedes/lda/NonzeroTopics", "starts", "[I", .ref b2), ("com/example/palamedes/palamedes/lda/NonzeroTopics", "lengths", "[I", .ref b4), ("com/example/palamedes/palamedes/lda/NonzeroTopics", "topics", "[I", .ref b15)]) :: (b2, OA Z .int [(0 : Int32), xr0, (xr0 + xr1)]) :: (b4, OA Z .int [xm, (0 : Int32)]) :: (b15, OA Z .int (List.take r0 (f_r3 y0 y1 y2).1 ++ List.take r1 f_r0.1)) :: (xc, OA Z .int [y0, y1, y2, y3, y4, y5, y6, y7]) :: L') → xm.toInt = ((f_r3 y0 y1 y2).2 : Int) → OE p e (FE s ({ frames := 2, cells := 3, slots := 13, locals := 32 } : Room)) below n0 Q' T (mkF m 120 #[.val (.ref xo), .val (.ref xc), .val (.int (4 : Int32)), .val (.int (2 : Int32)), .val (.int (0 : Int32)), .val (.int (3 : Int32)), .unset, .val (.int (4 : Int32))] []) := by
    intro T h xm X_J03 H_J03 hm
    refine o_iload X_J03 d4_120 rfl 122 rfl ?_
    refine o_iloadN X_J03 d4_122 rfl 123 rfl ?_
    refine o_icmpGe X_J03 d4_123 152 126 (by decide) (by decide) rfl (fun q => by exfalso; exact absurd q (by decide)) ?_
    intro hc123
    refine o_aloadN X_J03 d4_126 rfl rfl 127 rfl ?_
    refine o_iload X_J03 d4_127 rfl 129 rfl ?_
    refine o_iloadN X_J03 d4_129 rfl 130 rfl ?_
    refine o_imul X_J03 d4_130 131 rfl ?_
    refine o_iload X_J03 d4_131 rfl 133 rfl ?_
    refine o_iadd X_J03 d4_133 134 rfl ?_
    refine o_iaload X_J03 H_J03 4 rfl d4_134 3 rfl y3 rfl 135 rfl ?_
    refine o_ifLe X_J03 d4_135 146 138 (by decide) (by decide) rfl ?_ ?_
    · intro hc135
      refine o_iinc (v := (3 : Int32)) (w := (4 : Int32)) X_J03 d4_146 rfl rfl #[.val (.ref xo), .val (.ref xc), .val (.int (4 : Int32)), .val (.int (2 : Int32)), .val (.int (0 : Int32)), .val (.int (4 : Int32)), .unset, .val (.int (4 : Int32))] rfl 149 rfl ?_
      refine o_goto X_J03 d4_149 120 (by decide) (by decide) ?_
      have e50 : (f_r4 y0 y1 y2 y3) = (f_r3 y0 y1 y2) := v_no _ _ _ hc135
      exact J04 _ _ _ X_J03 (by rw [e50]; exact H_J03) (by rw [e50]; exact hm)
    · intro hc135
      refine o_aloadN X_J03 d4_138 rfl rfl 139 rfl ?_
      refine o_iload X_J03 d4_139 rfl 141 rfl ?_
      refine o_iload X_J03 d4_141 rfl 143 rfl ?_
      have e52 : (f_r4 y0 y1 y2 y3) = (List.set (f_r3 y0 y1 y2).1 (f_r3 y0 y1 y2).2 3, (f_r3 y0 y1 y2).2 + 1) := v_yes _ _ _ hc135
      have q52 : (f_r4 y0 y1 y2 y3).2 = (f_r3 y0 y1 y2).2 + 1 := congrArg Prod.snd e52
      have l52 : (f_r3 y0 y1 y2).2 < r0 := by omega
      have H53 : OL n0 h ((b15, OA Z .int (List.take r0 (f_r3 y0 y1 y2).1 ++ List.take r1 f_r0.1)) :: (xo, OO Z "com/example/palamedes/palamedes/lda/NonzeroTopics" [("com/example/palamedes/palamedes/lda/NonzeroTopics", "starts", "[I", .ref b2), ("com/example/palamedes/palamedes/lda/NonzeroTopics", "lengths", "[I", .ref b4), ("com/example/palamedes/palamedes/lda/NonzeroTopics", "topics", "[I", .ref b15)]) :: (b2, OA Z .int [(0 : Int32), xr0, (xr0 + xr1)]) :: (b4, OA Z .int [xm, (0 : Int32)]) :: (xc, OA Z .int [y0, y1, y2, y3, y4, y5, y6, y7]) :: L') := H_J03.front 3 rfl
      have H54 : OL n0 h ((b4, OA Z .int [xm, (0 : Int32)]) :: (b15, OA Z .int (List.take r0 (f_r3 y0 y1 y2).1 ++ List.take r1 f_r0.1)) :: (xo, OO Z "com/example/palamedes/palamedes/lda/NonzeroTopics" [("com/example/palamedes/palamedes/lda/NonzeroTopics", "starts", "[I", .ref b2), ("com/example/palamedes/palamedes/lda/NonzeroTopics", "lengths", "[I", .ref b4), ("com/example/palamedes/palamedes/lda/NonzeroTopics", "topics", "[I", .ref b15)]) :: (b2, OA Z .int [(0 : Int32), xr0, (xr0 + xr1)]) :: (xc, OA Z .int [y0, y1, y2, y3, y4, y5, y6, y7]) :: L') := H53.front 3 rfl
      have H55 : OL n0 h ((b2, OA Z .int [(0 : Int32), xr0, (xr0 + xr1)]) :: (b4, OA Z .int [xm, (0 : Int32)]) :: (b15, OA Z .int (List.take r0 (f_r3 y0 y1 y2).1 ++ List.take r1 f_r0.1)) :: (xo, OO Z "com/example/palamedes/palamedes/lda/NonzeroTopics" [("com/example/palamedes/palamedes/lda/NonzeroTopics", "starts", "[I", .ref b2), ("com/example/palamedes/palamedes/lda/NonzeroTopics", "lengths", "[I", .ref b4), ("com/example/palamedes/palamedes/lda/NonzeroTopics", "topics", "[I", .ref b15)]) :: (xc, OA Z .int [y0, y1, y2, y3, y4, y5, y6, y7]) :: L') := H54.front 3 rfl
      have H56 : OL n0 h ((xo, OO Z "com/example/palamedes/palamedes/lda/NonzeroTopics" [("com/example/palamedes/palamedes/lda/NonzeroTopics", "starts", "[I", .ref b2), ("com/example/palamedes/palamedes/lda/NonzeroTopics", "lengths", "[I", .ref b4), ("com/example/palamedes/palamedes/lda/NonzeroTopics", "topics", "[I", .ref b15)]) :: (b2, OA Z .int [(0 : Int32), xr0, (xr0 + xr1)]) :: (b4, OA Z .int [xm, (0 : Int32)]) :: (b15, OA Z .int (List.take r0 (f_r3 y0 y1 y2).1 ++ List.take r1 f_r0.1)) :: (xc, OA Z .int [y0, y1, y2, y3, y4, y5, y6, y7]) :: L') := H55.front 3 rfl
      refine o_callV X_J03 H56 0 rfl d4_143 (rest := []) (c_add0 l Z a0 hw [] n0 _ X_J03.size xo b2 b4 b15 (0 : Int32) xr0 (xr0 + xr1) xm (0 : Int32) (List.take r0 (f_r3 y0 y1 y2).1 ++ List.take r1 f_r0.1) ((xc, OA Z .int [y0, y1, y2, y3, y4, y5, y6, y7]) :: L') H56 (3 : Int32) (0 + (f_r3 y0 y1 y2).2) (v_ad _ _ 0 (f_r3 y0 y1 y2).2 rfl hm (by omega) (by omega)) (by rw [v_tlen _ _ _ _ (v_len3 y0 y1 y2) v_len0 h04 h14]; omega)) (hw _ (List.mem_of_getElem? (i := 33) rfl)) (hw _ (List.mem_of_getElem? (i := 34) rfl)) (hw _ (List.mem_of_getElem? (i := 36) rfl)) (hw _ (List.mem_of_getElem? (i := 35) rfl)) (hw _ (List.mem_of_getElem? (i := 14) rfl)) (hw _ (List.mem_of_getElem? (i := 37) rfl)) (by decide) 0 (by decide) (by decide) rfl [(.int (0 : Int32)), (.int (3 : Int32))] rfl pd_8 rfl rfl (Nat.le_of_eq rfl) 3 13 rfl rfl (by decide) (by decide) 146 rfl ?_
      rintro _ T51 h51 X51 ⟨rfl, H51⟩
      replace H51 : OL n0 h51 ((xo, OO Z "com/example/palamedes/palamedes/lda/NonzeroTopics" [("com/example/palamedes/palamedes/lda/NonzeroTopics", "starts", "[I", .ref b2), ("com/example/palamedes/palamedes/lda/NonzeroTopics", "lengths", "[I", .ref b4), ("com/example/palamedes/palamedes/lda/NonzeroTopics", "topics", "[I", .ref b15)]) :: (b2, OA Z .int [(0 : Int32), xr0, (xr0 + xr1)]) :: (b4, OA Z .int [(xm + (1 : Int32)), (0 : Int32)]) :: (b15, OA Z .int (List.set (List.take r0 (f_r3 y0 y1 y2).1 ++ List.take r1 f_r0.1) (0 + (f_r3 y0 y1 y2).2) (3 : Int32))) :: (xc, OA Z .int [y0, y1, y2, y3, y4, y5, y6, y7]) :: L') := H51
      show OE p e (FE s ({ frames := 2, cells := 3, slots := 13, locals := 32 } : Room)) below n0 Q' T51 (mkF m 146 #[.val (.ref xo), .val (.ref xc), .val (.int (4 : Int32)), .val (.int (2 : Int32)), .val (.int (0 : Int32)), .val (.int (3 : Int32)), .unset, .val (.int (4 : Int32))] [])
      refine o_iinc (v := (3 : Int32)) (w := (4 : Int32)) X51 d4_146 rfl rfl #[.val (.ref xo), .val (.ref xc), .val (.int (4 : Int32)), .val (.int (2 : Int32)), .val (.int (0 : Int32)), .val (.int (4 : Int32)), .unset, .val (.int (4 : Int32))] rfl 149 rfl ?_
      refine o_goto X51 d4_149 120 (by decide) (by decide) ?_
      refine J04 _ _ (xm + 1) X51 ?_ ?_
      · have hh := H51; rw [Nat.zero_add, v_set0 _ _ _ _ _ _ (v_len3 y0 y1 y2) h04 l52] at hh; rw [e52]; exact hh
      · rw [e52]; exact v_ad _ 1 _ 1 hm rfl (by have := v_n4 y0 y1 y2 y3; omega) (by decide)
  have J02 : ∀ (T : State) (h : Heap) (xm : Int32), OW p l e ({ frames := 2, cells := 3, slots := 13, locals := 32 } : Room) s m #[(.ref xo), (.ref xc), (.int (4 : Int32))] below meth cd0 Z (⟨"com/example/palamedes/palamedes/lda/NonzeroTopics", "<init>", "([II)V"⟩ : MethodName) prog_40_method_1_code 8 none n0 T h 3 13 → OL n0 h ((xo, OO Z "com/example/palamedes/palamedes/lda/NonzeroTopics" [("com/example/palamedes/palamedes/lda/NonzeroTopics", "starts", "[I", .ref b2), ("com/example/palamedes/palamedes/lda/NonzeroTopics", "lengths", "[I", .ref b4), ("com/example/palamedes/palamedes/lda/NonzeroTopics", "topics", "[I", .ref b15)]) :: (b2, OA Z .int [(0 : Int32), xr0, (xr0 + xr1)]) :: (b4, OA Z .int [xm, (0 : Int32)]) :: (b15, OA Z .int (List.take r0 (f_r2 y0 y1).1 ++ List.take r1 f_r0.1)) :: (xc, OA Z .int [y0, y1, y2, y3, y4, y5, y6, y7]) :: L') → xm.toInt = ((f_r2 y0 y1).2 : Int) → OE p e (FE s ({ frames := 2, cells := 3, slots := 13, locals := 32 } : Room)) below n0 Q' T (mkF m 120 #[.val (.ref xo), .val (.ref xc), .val (.int (4 : Int32)), .val (.int (2 : Int32)), .val (.int (0 : Int32)), .val (.int (2 : Int32)), .unset, .val (.int (4 : Int32))] []) := by
    intro T h xm X_J02 H_J02 hm
    refine o_iload X_J02 d4_120 rfl 122 rfl ?_
    refine o_iloadN X_J02 d4_122 rfl 123 rfl ?_
    refine o_icmpGe X_J02 d4_123 152 126 (by decide) (by decide) rfl (fun q => by exfalso; exact absurd q (by decide)) ?_
    intro hc123
    refine o_aloadN X_J02 d4_126 rfl rfl 127 rfl ?_
    refine o_iload X_J02 d4_127 rfl 129 rfl ?_
    refine o_iloadN X_J02 d4_129 rfl 130 rfl ?_
    refine o_imul X_J02 d4_130 131 rfl ?_
    refine o_iload X_J02 d4_131 rfl 133 rfl ?_
    refine o_iadd X_J02 d4_133 134 rfl ?_
    refine o_iaload X_J02 H_J02 4 rfl d4_134 2 rfl y2 rfl 135 rfl ?_
    refine o_ifLe X_J02 d4_135 146 138 (by decide) (by decide) rfl ?_ ?_
    · intro hc135
      refine o_iinc (v := (2 : Int32)) (w := (3 : Int32)) X_J02 d4_146 rfl rfl #[.val (.ref xo), .val (.ref xc), .val (.int (4 : Int32)), .val (.int (2 : Int32)), .val (.int (0 : Int32)), .val (.int (3 : Int32)), .unset, .val (.int (4 : Int32))] rfl 149 rfl ?_
      refine o_goto X_J02 d4_149 120 (by decide) (by decide) ?_
      have e57 : (f_r3 y0 y1 y2) = (f_r2 y0 y1) := v_no _ _ _ hc135
      exact J03 _ _ _ X_J02 (by rw [e57]; exact H_J02) (by rw [e57]; exact hm)
    · intro hc135
      refine o_aloadN X_J02 d4_138 rfl rfl 139 rfl ?_
      refine o_iload X_J02 d4_139 rfl 141 rfl ?_
      refine o_iload X_J02 d4_141 rfl 143 rfl ?_
      have e59 : (f_r3 y0 y1 y2) = (List.set (f_r2 y0 y1).1 (f_r2 y0 y1).2 2, (f_r2 y0 y1).2 + 1) := v_yes _ _ _ hc135
      have q59 : (f_r3 y0 y1 y2).2 = (f_r2 y0 y1).2 + 1 := congrArg Prod.snd e59
      have l59 : (f_r2 y0 y1).2 < r0 := by have := v_le4 y0 y1 y2 y3; omega
      have H60 : OL n0 h ((b15, OA Z .int (List.take r0 (f_r2 y0 y1).1 ++ List.take r1 f_r0.1)) :: (xo, OO Z "com/example/palamedes/palamedes/lda/NonzeroTopics" [("com/example/palamedes/palamedes/lda/NonzeroTopics", "starts", "[I", .ref b2), ("com/example/palamedes/palamedes/lda/NonzeroTopics", "lengths", "[I", .ref b4), ("com/example/palamedes/palamedes/lda/NonzeroTopics", "topics", "[I", .ref b15)]) :: (b2, OA Z .int [(0 : Int32), xr0, (xr0 + xr1)]) :: (b4, OA Z .int [xm, (0 : Int32)]) :: (xc, OA Z .int [y0, y1, y2, y3, y4, y5, y6, y7]) :: L') := H_J02.front 3 rfl
      have H61 : OL n0 h ((b4, OA Z .int [xm, (0 : Int32)]) :: (b15, OA Z .int (List.take r0 (f_r2 y0 y1).1 ++ List.take r1 f_r0.1)) :: (xo, OO Z "com/example/palamedes/palamedes/lda/NonzeroTopics" [("com/example/palamedes/palamedes/lda/NonzeroTopics", "starts", "[I", .ref b2), ("com/example/palamedes/palamedes/lda/NonzeroTopics", "lengths", "[I", .ref b4), ("com/example/palamedes/palamedes/lda/NonzeroTopics", "topics", "[I", .ref b15)]) :: (b2, OA Z .int [(0 : Int32), xr0, (xr0 + xr1)]) :: (xc, OA Z .int [y0, y1, y2, y3, y4, y5, y6, y7]) :: L') := H60.front 3 rfl
      have H62 : OL n0 h ((b2, OA Z .int [(0 : Int32), xr0, (xr0 + xr1)]) :: (b4, OA Z .int [xm, (0 : Int32)]) :: (b15, OA Z .int (List.take r0 (f_r2 y0 y1).1 ++ List.take r1 f_r0.1)) :: (xo, OO Z "com/example/palamedes/palamedes/lda/NonzeroTopics" [("com/example/palamedes/palamedes/lda/NonzeroTopics", "starts", "[I", .ref b2), ("com/example/palamedes/palamedes/lda/NonzeroTopics", "lengths", "[I", .ref b4), ("com/example/palamedes/palamedes/lda/NonzeroTopics", "topics", "[I", .ref b15)]) :: (xc, OA Z .int [y0, y1, y2, y3, y4, y5, y6, y7]) :: L') := H61.front 3 rfl
      have H63 : OL n0 h ((xo, OO Z "com/example/palamedes/palamedes/lda/NonzeroTopics" [("com/example/palamedes/palamedes/lda/NonzeroTopics", "starts", "[I", .ref b2), ("com/example/palamedes/palamedes/lda/NonzeroTopics", "lengths", "[I", .ref b4), ("com/example/palamedes/palamedes/lda/NonzeroTopics", "topics", "[I", .ref b15)]) :: (b2, OA Z .int [(0 : Int32), xr0, (xr0 + xr1)]) :: (b4, OA Z .int [xm, (0 : Int32)]) :: (b15, OA Z .int (List.take r0 (f_r2 y0 y1).1 ++ List.take r1 f_r0.1)) :: (xc, OA Z .int [y0, y1, y2, y3, y4, y5, y6, y7]) :: L') := H62.front 3 rfl
      refine o_callV X_J02 H63 0 rfl d4_143 (rest := []) (c_add0 l Z a0 hw [] n0 _ X_J02.size xo b2 b4 b15 (0 : Int32) xr0 (xr0 + xr1) xm (0 : Int32) (List.take r0 (f_r2 y0 y1).1 ++ List.take r1 f_r0.1) ((xc, OA Z .int [y0, y1, y2, y3, y4, y5, y6, y7]) :: L') H63 (2 : Int32) (0 + (f_r2 y0 y1).2) (v_ad _ _ 0 (f_r2 y0 y1).2 rfl hm (by omega) (by omega)) (by rw [v_tlen _ _ _ _ (v_len2 y0 y1) v_len0 h04 h14]; omega)) (hw _ (List.mem_of_getElem? (i := 33) rfl)) (hw _ (List.mem_of_getElem? (i := 34) rfl)) (hw _ (List.mem_of_getElem? (i := 36) rfl)) (hw _ (List.mem_of_getElem? (i := 35) rfl)) (hw _ (List.mem_of_getElem? (i := 14) rfl)) (hw _ (List.mem_of_getElem? (i := 37) rfl)) (by decide) 0 (by decide) (by decide) rfl [(.int (0 : Int32)), (.int (2 : Int32))] rfl pd_8 rfl rfl (Nat.le_of_eq rfl) 3 13 rfl rfl (by decide) (by decide) 146 rfl ?_
      rintro _ T58 h58 X58 ⟨rfl, H58⟩
      replace H58 : OL n0 h58 ((xo, OO Z "com/example/palamedes/palamedes/lda/NonzeroTopics" [("com/example/palamedes/palamedes/lda/NonzeroTopics", "starts", "[I", .ref b2), ("com/example/palamedes/palamedes/lda/NonzeroTopics", "lengths", "[I", .ref b4), ("com/example/palamedes/palamedes/lda/NonzeroTopics", "topics", "[I", .ref b15)]) :: (b2, OA Z .int [(0 : Int32), xr0, (xr0 + xr1)]) :: (b4, OA Z .int [(xm + (1 : Int32)), (0 : Int32)]) :: (b15, OA Z .int (List.set (List.take r0 (f_r2 y0 y1).1 ++ List.take r1 f_r0.1) (0 + (f_r2 y0 y1).2) (2 : Int32))) :: (xc, OA Z .int [y0, y1, y2, y3, y4, y5, y6, y7]) :: L') := H58
      show OE p e (FE s ({ frames := 2, cells := 3, slots := 13, locals := 32 } : Room)) below n0 Q' T58 (mkF m 146 #[.val (.ref xo), .val (.ref xc), .val (.int (4 : Int32)), .val (.int (2 : Int32)), .val (.int (0 : Int32)), .val (.int (2 : Int32)), .unset, .val (.int (4 : Int32))] [])
      refine o_iinc (v := (2 : Int32)) (w := (3 : Int32)) X58 d4_146 rfl rfl #[.val (.ref xo), .val (.ref xc), .val (.int (4 : Int32)), .val (.int (2 : Int32)), .val (.int (0 : Int32)), .val (.int (3 : Int32)), .unset, .val (.int (4 : Int32))] rfl 149 rfl ?_
      refine o_goto X58 d4_149 120 (by decide) (by decide) ?_
      refine J03 _ _ (xm + 1) X58 ?_ ?_
      · have hh := H58; rw [Nat.zero_add, v_set0 _ _ _ _ _ _ (v_len2 y0 y1) h04 l59] at hh; rw [e59]; exact hh
      · rw [e59]; exact v_ad _ 1 _ 1 hm rfl (by have := v_n4 y0 y1 y2 y3; omega) (by decide)
  have J01 : ∀ (T : State) (h : Heap) (xm : Int32), OW p l e ({ frames := 2, cells := 3, slots := 13, locals := 32 } : Room) s m #[(.ref xo), (.ref xc), (.int (4 : Int32))] below meth cd0 Z (⟨"com/example/palamedes/palamedes/lda/NonzeroTopics", "<init>", "([II)V"⟩ : MethodName) prog_40_method_1_code 8 none n0 T h 3 13 → OL n0 h ((xo, OO Z "com/example/palamedes/palamedes/lda/NonzeroTopics" [("com/example/palamedes/palamedes/lda/NonzeroTopics", "starts", "[I", .ref b2), ("com/example/palamedes/palamedes/lda/NonzeroTopics", "lengths", "[I", .ref b4), ("com/example/palamedes/palamedes/lda/NonzeroTopics", "topics", "[I", .ref b15)]) :: (b2, OA Z .int [(0 : Int32), xr0, (xr0 + xr1)]) :: (b4, OA Z .int [xm, (0 : Int32)]) :: (b15, OA Z .int (List.take r0 (f_r1 y0).1 ++ List.take r1 f_r0.1)) :: (xc, OA Z .int [y0, y1, y2, y3, y4, y5, y6, y7]) :: L') → xm.toInt = ((f_r1 y0).2 : Int) → OE p e (FE s ({ frames := 2, cells := 3, slots := 13, locals := 32 } : Room)) below n0 Q' T (mkF m 120 #[.val (.ref xo), .val (.ref xc), .val (.int (4 : Int32)), .val (.int (2 : Int32)), .val (.int (0 : Int32)), .val (.int (1 : Int32)), .unset, .val (.int (4 : Int32))] []) := by
    intro T h xm X_J01 H_J01 hm
    refine o_iload X_J01 d4_120 rfl 122 rfl ?_
    refine o_iloadN X_J01 d4_122 rfl 123 rfl ?_
    refine o_icmpGe X_J01 d4_123 152 126 (by decide) (by decide) rfl (fun q => by exfalso; exact absurd q (by decide)) ?_
    intro hc123
    refine o_aloadN X_J01 d4_126 rfl rfl 127 rfl ?_
    refine o_iload X_J01 d4_127 rfl 129 rfl ?_
    refine o_iloadN X_J01 d4_129 rfl 130 rfl ?_
    refine o_imul X_J01 d4_130 131 rfl ?_
    refine o_iload X_J01 d4_131 rfl 133 rfl ?_
    refine o_iadd X_J01 d4_133 134 rfl ?_
    refine o_iaload X_J01 H_J01 4 rfl d4_134 1 rfl y1 rfl 135 rfl ?_
    refine o_ifLe X_J01 d4_135 146 138 (by decide) (by decide) rfl ?_ ?_
    · intro hc135
      refine o_iinc (v := (1 : Int32)) (w := (2 : Int32)) X_J01 d4_146 rfl rfl #[.val (.ref xo), .val (.ref xc), .val (.int (4 : Int32)), .val (.int (2 : Int32)), .val (.int (0 : Int32)), .val (.int (2 : Int32)), .unset, .val (.int (4 : Int32))] rfl 149 rfl ?_
      refine o_goto X_J01 d4_149 120 (by decide) (by decide) ?_
      have e64 : (f_r2 y0 y1) = (f_r1 y0) := v_no _ _ _ hc135
      exact J02 _ _ _ X_J01 (by rw [e64]; exact H_J01) (by rw [e64]; exact hm)
    · intro hc135
      refine o_aloadN X_J01 d4_138 rfl rfl 139 rfl ?_
      refine o_iload X_J01 d4_139 rfl 141 rfl ?_
      refine o_iload X_J01 d4_141 rfl 143 rfl ?_
      have e66 : (f_r2 y0 y1) = (List.set (f_r1 y0).1 (f_r1 y0).2 1, (f_r1 y0).2 + 1) := v_yes _ _ _ hc135
      have q66 : (f_r2 y0 y1).2 = (f_r1 y0).2 + 1 := congrArg Prod.snd e66
      have l66 : (f_r1 y0).2 < r0 := by have := v_le3 y0 y1 y2; have := v_le4 y0 y1 y2 y3; omega
      have H67 : OL n0 h ((b15, OA Z .int (List.take r0 (f_r1 y0).1 ++ List.take r1 f_r0.1)) :: (xo, OO Z "com/example/palamedes/palamedes/lda/NonzeroTopics" [("com/example/palamedes/palamedes/lda/NonzeroTopics", "starts", "[I", .ref b2), ("com/example/palamedes/palamedes/lda/NonzeroTopics", "lengths", "[I", .ref b4), ("com/example/palamedes/palamedes/lda/NonzeroTopics", "topics", "[I", .ref b15)]) :: (b2, OA Z .int [(0 : Int32), xr0, (xr0 + xr1)]) :: (b4, OA Z .int [xm, (0 : Int32)]) :: (xc, OA Z .int [y0, y1, y2, y3, y4, y5, y6, y7]) :: L') := H_J01.front 3 rfl
      have H68 : OL n0 h ((b4, OA Z .int [xm, (0 : Int32)]) :: (b15, OA Z .int (List.take r0 (f_r1 y0).1 ++ List.take r1 f_r0.1)) :: (xo, OO Z "com/example/palamedes/palamedes/lda/NonzeroTopics" [("com/example/palamedes/palamedes/lda/NonzeroTopics", "starts", "[I", .ref b2), ("com/example/palamedes/palamedes/lda/NonzeroTopics", "lengths", "[I", .ref b4), ("com/example/palamedes/palamedes/lda/NonzeroTopics", "topics", "[I", .ref b15)]) :: (b2, OA Z .int [(0 : Int32), xr0, (xr0 + xr1)]) :: (xc, OA Z .int [y0, y1, y2, y3, y4, y5, y6, y7]) :: L') := H67.front 3 rfl
      have H69 : OL n0 h ((b2, OA Z .int [(0 : Int32), xr0, (xr0 + xr1)]) :: (b4, OA Z .int [xm, (0 : Int32)]) :: (b15, OA Z .int (List.take r0 (f_r1 y0).1 ++ List.take r1 f_r0.1)) :: (xo, OO Z "com/example/palamedes/palamedes/lda/NonzeroTopics" [("com/example/palamedes/palamedes/lda/NonzeroTopics", "starts", "[I", .ref b2), ("com/example/palamedes/palamedes/lda/NonzeroTopics", "lengths", "[I", .ref b4), ("com/example/palamedes/palamedes/lda/NonzeroTopics", "topics", "[I", .ref b15)]) :: (xc, OA Z .int [y0, y1, y2, y3, y4, y5, y6, y7]) :: L') := H68.front 3 rfl
      have H70 : OL n0 h ((xo, OO Z "com/example/palamedes/palamedes/lda/NonzeroTopics" [("com/example/palamedes/palamedes/lda/NonzeroTopics", "starts", "[I", .ref b2), ("com/example/palamedes/palamedes/lda/NonzeroTopics", "lengths", "[I", .ref b4), ("com/example/palamedes/palamedes/lda/NonzeroTopics", "topics", "[I", .ref b15)]) :: (b2, OA Z .int [(0 : Int32), xr0, (xr0 + xr1)]) :: (b4, OA Z .int [xm, (0 : Int32)]) :: (b15, OA Z .int (List.take r0 (f_r1 y0).1 ++ List.take r1 f_r0.1)) :: (xc, OA Z .int [y0, y1, y2, y3, y4, y5, y6, y7]) :: L') := H69.front 3 rfl
      refine o_callV X_J01 H70 0 rfl d4_143 (rest := []) (c_add0 l Z a0 hw [] n0 _ X_J01.size xo b2 b4 b15 (0 : Int32) xr0 (xr0 + xr1) xm (0 : Int32) (List.take r0 (f_r1 y0).1 ++ List.take r1 f_r0.1) ((xc, OA Z .int [y0, y1, y2, y3, y4, y5, y6, y7]) :: L') H70 (1 : Int32) (0 + (f_r1 y0).2) (v_ad _ _ 0 (f_r1 y0).2 rfl hm (by omega) (by omega)) (by rw [v_tlen _ _ _ _ (v_len1 y0) v_len0 h04 h14]; omega)) (hw _ (List.mem_of_getElem? (i := 33) rfl)) (hw _ (List.mem_of_getElem? (i := 34) rfl)) (hw _ (List.mem_of_getElem? (i := 36) rfl)) (hw _ (List.mem_of_getElem? (i := 35) rfl)) (hw _ (List.mem_of_getElem? (i := 14) rfl)) (hw _ (List.mem_of_getElem? (i := 37) rfl)) (by decide) 0 (by decide) (by decide) rfl [(.int (0 : Int32)), (.int (1 : Int32))] rfl pd_8 rfl rfl (Nat.le_of_eq rfl) 3 13 rfl rfl (by decide) (by decide) 146 rfl ?_
      rintro _ T65 h65 X65 ⟨rfl, H65⟩
      replace H65 : OL n0 h65 ((xo, OO Z "com/example/palamedes/palamedes/lda/NonzeroTopics" [("com/example/palamedes/palamedes/lda/NonzeroTopics", "starts", "[I", .ref b2), ("com/example/palamedes/palamedes/lda/NonzeroTopics", "lengths", "[I", .ref b4), ("com/example/palamedes/palamedes/lda/NonzeroTopics", "topics", "[I", .ref b15)]) :: (b2, OA Z .int [(0 : Int32), xr0, (xr0 + xr1)]) :: (b4, OA Z .int [(xm + (1 : Int32)), (0 : Int32)]) :: (b15, OA Z .int (List.set (List.take r0 (f_r1 y0).1 ++ List.take r1 f_r0.1) (0 + (f_r1 y0).2) (1 : Int32))) :: (xc, OA Z .int [y0, y1, y2, y3, y4, y5, y6, y7]) :: L') := H65
      show OE p e (FE s ({ frames := 2, cells := 3, slots := 13, locals := 32 } : Room)) below n0 Q' T65 (mkF m 146 #[.val (.ref xo), .val (.ref xc), .val (.int (4 : Int32)), .val (.int (2 : Int32)), .val (.int (0 : Int32)), .val (.int (1 : Int32)), .unset, .val (.int (4 : Int32))] [])
      refine o_iinc (v := (1 : Int32)) (w := (2 : Int32)) X65 d4_146 rfl rfl #[.val (.ref xo), .val (.ref xc), .val (.int (4 : Int32)), .val (.int (2 : Int32)), .val (.int (0 : Int32)), .val (.int (2 : Int32)), .unset, .val (.int (4 : Int32))] rfl 149 rfl ?_
      refine o_goto X65 d4_149 120 (by decide) (by decide) ?_
      refine J02 _ _ (xm + 1) X65 ?_ ?_
      · have hh := H65; rw [Nat.zero_add, v_set0 _ _ _ _ _ _ (v_len1 y0) h04 l66] at hh; rw [e66]; exact hh
      · rw [e66]; exact v_ad _ 1 _ 1 hm rfl (by have := v_n4 y0 y1 y2 y3; omega) (by decide)
  have J00 : ∀ (T : State) (h : Heap) (xm : Int32), OW p l e ({ frames := 2, cells := 3, slots := 13, locals := 32 } : Room) s m #[(.ref xo), (.ref xc), (.int (4 : Int32))] below meth cd0 Z (⟨"com/example/palamedes/palamedes/lda/NonzeroTopics", "<init>", "([II)V"⟩ : MethodName) prog_40_method_1_code 8 none n0 T h 3 13 → OL n0 h ((xo, OO Z "com/example/palamedes/palamedes/lda/NonzeroTopics" [("com/example/palamedes/palamedes/lda/NonzeroTopics", "starts", "[I", .ref b2), ("com/example/palamedes/palamedes/lda/NonzeroTopics", "lengths", "[I", .ref b4), ("com/example/palamedes/palamedes/lda/NonzeroTopics", "topics", "[I", .ref b15)]) :: (b2, OA Z .int [(0 : Int32), xr0, (xr0 + xr1)]) :: (b4, OA Z .int [xm, (0 : Int32)]) :: (b15, OA Z .int (List.take r0 f_r0.1 ++ List.take r1 f_r0.1)) :: (xc, OA Z .int [y0, y1, y2, y3, y4, y5, y6, y7]) :: L') → xm.toInt = (f_r0.2 : Int) → OE p e (FE s ({ frames := 2, cells := 3, slots := 13, locals := 32 } : Room)) below n0 Q' T (mkF m 120 #[.val (.ref xo), .val (.ref xc), .val (.int (4 : Int32)), .val (.int (2 : Int32)), .val (.int (0 : Int32)), .val (.int (0 : Int32)), .unset, .val (.int (4 : Int32))] []) := by
    intro T h xm X_J00 H_J00 hm
    refine o_iload X_J00 d4_120 rfl 122 rfl ?_
    refine o_iloadN X_J00 d4_122 rfl 123 rfl ?_
    refine o_icmpGe X_J00 d4_123 152 126 (by decide) (by decide) rfl (fun q => by exfalso; exact absurd q (by decide)) ?_
    intro hc123
    refine o_aloadN X_J00 d4_126 rfl rfl 127 rfl ?_
    refine o_iload X_J00 d4_127 rfl 129 rfl ?_
    refine o_iloadN X_J00 d4_129 rfl 130 rfl ?_
    refine o_imul X_J00 d4_130 131 rfl ?_
    refine o_iload X_J00 d4_131 rfl 133 rfl ?_
    refine o_iadd X_J00 d4_133 134 rfl ?_
    refine o_iaload X_J00 H_J00 4 rfl d4_134 0 rfl y0 rfl 135 rfl ?_
    refine o_ifLe X_J00 d4_135 146 138 (by decide) (by decide) rfl ?_ ?_
    · intro hc135
      refine o_iinc (v := (0 : Int32)) (w := (1 : Int32)) X_J00 d4_146 rfl rfl #[.val (.ref xo), .val (.ref xc), .val (.int (4 : Int32)), .val (.int (2 : Int32)), .val (.int (0 : Int32)), .val (.int (1 : Int32)), .unset, .val (.int (4 : Int32))] rfl 149 rfl ?_
      refine o_goto X_J00 d4_149 120 (by decide) (by decide) ?_
      have e71 : (f_r1 y0) = f_r0 := v_no _ _ _ hc135
      exact J01 _ _ _ X_J00 (by rw [e71]; exact H_J00) (by rw [e71]; exact hm)
    · intro hc135
      refine o_aloadN X_J00 d4_138 rfl rfl 139 rfl ?_
      refine o_iload X_J00 d4_139 rfl 141 rfl ?_
      refine o_iload X_J00 d4_141 rfl 143 rfl ?_
      have e73 : (f_r1 y0) = (List.set f_r0.1 f_r0.2 0, f_r0.2 + 1) := v_yes _ _ _ hc135
      have q73 : (f_r1 y0).2 = f_r0.2 + 1 := congrArg Prod.snd e73
      have l73 : f_r0.2 < r0 := by have := v_le2 y0 y1; have := v_le3 y0 y1 y2; have := v_le4 y0 y1 y2 y3; omega
      have H74 : OL n0 h ((b15, OA Z .int (List.take r0 f_r0.1 ++ List.take r1 f_r0.1)) :: (xo, OO Z "com/example/palamedes/palamedes/lda/NonzeroTopics" [("com/example/palamedes/palamedes/lda/NonzeroTopics", "starts", "[I", .ref b2), ("com/example/palamedes/palamedes/lda/NonzeroTopics", "lengths", "[I", .ref b4), ("com/example/palamedes/palamedes/lda/NonzeroTopics", "topics", "[I", .ref b15)]) :: (b2, OA Z .int [(0 : Int32), xr0, (xr0 + xr1)]) :: (b4, OA Z .int [xm, (0 : Int32)]) :: (xc, OA Z .int [y0, y1, y2, y3, y4, y5, y6, y7]) :: L') := H_J00.front 3 rfl
      have H75 : OL n0 h ((b4, OA Z .int [xm, (0 : Int32)]) :: (b15, OA Z .int (List.take r0 f_r0.1 ++ List.take r1 f_r0.1)) :: (xo, OO Z "com/example/palamedes/palamedes/lda/NonzeroTopics" [("com/example/palamedes/palamedes/lda/NonzeroTopics", "starts", "[I", .ref b2), ("com/example/palamedes/palamedes/lda/NonzeroTopics", "lengths", "[I", .ref b4), ("com/example/palamedes/palamedes/lda/NonzeroTopics", "topics", "[I", .ref b15)]) :: (b2, OA Z .int [(0 : Int32), xr0, (xr0 + xr1)]) :: (xc, OA Z .int [y0, y1, y2, y3, y4, y5, y6, y7]) :: L') := H74.front 3 rfl
      have H76 : OL n0 h ((b2, OA Z .int [(0 : Int32), xr0, (xr0 + xr1)]) :: (b4, OA Z .int [xm, (0 : Int32)]) :: (b15, OA Z .int (List.take r0 f_r0.1 ++ List.take r1 f_r0.1)) :: (xo, OO Z "com/example/palamedes/palamedes/lda/NonzeroTopics" [("com/example/palamedes/palamedes/lda/NonzeroTopics", "starts", "[I", .ref b2), ("com/example/palamedes/palamedes/lda/NonzeroTopics", "lengths", "[I", .ref b4), ("com/example/palamedes/palamedes/lda/NonzeroTopics", "topics", "[I", .ref b15)]) :: (xc, OA Z .int [y0, y1, y2, y3, y4, y5, y6, y7]) :: L') := H75.front 3 rfl
      have H77 : OL n0 h ((xo, OO Z "com/example/palamedes/palamedes/lda/NonzeroTopics" [("com/example/palamedes/palamedes/lda/NonzeroTopics", "starts", "[I", .ref b2), ("com/example/palamedes/palamedes/lda/NonzeroTopics", "lengths", "[I", .ref b4), ("com/example/palamedes/palamedes/lda/NonzeroTopics", "topics", "[I", .ref b15)]) :: (b2, OA Z .int [(0 : Int32), xr0, (xr0 + xr1)]) :: (b4, OA Z .int [xm, (0 : Int32)]) :: (b15, OA Z .int (List.take r0 f_r0.1 ++ List.take r1 f_r0.1)) :: (xc, OA Z .int [y0, y1, y2, y3, y4, y5, y6, y7]) :: L') := H76.front 3 rfl
      refine o_callV X_J00 H77 0 rfl d4_143 (rest := []) (c_add0 l Z a0 hw [] n0 _ X_J00.size xo b2 b4 b15 (0 : Int32) xr0 (xr0 + xr1) xm (0 : Int32) (List.take r0 f_r0.1 ++ List.take r1 f_r0.1) ((xc, OA Z .int [y0, y1, y2, y3, y4, y5, y6, y7]) :: L') H77 (0 : Int32) (0 + f_r0.2) (v_ad _ _ 0 f_r0.2 rfl hm (by omega) (by omega)) (by rw [v_tlen _ _ _ _ v_len0 v_len0 h04 h14]; omega)) (hw _ (List.mem_of_getElem? (i := 33) rfl)) (hw _ (List.mem_of_getElem? (i := 34) rfl)) (hw _ (List.mem_of_getElem? (i := 36) rfl)) (hw _ (List.mem_of_getElem? (i := 35) rfl)) (hw _ (List.mem_of_getElem? (i := 14) rfl)) (hw _ (List.mem_of_getElem? (i := 37) rfl)) (by decide) 0 (by decide) (by decide) rfl [(.int (0 : Int32)), (.int (0 : Int32))] rfl pd_8 rfl rfl (Nat.le_of_eq rfl) 3 13 rfl rfl (by decide) (by decide) 146 rfl ?_
      rintro _ T72 h72 X72 ⟨rfl, H72⟩
      replace H72 : OL n0 h72 ((xo, OO Z "com/example/palamedes/palamedes/lda/NonzeroTopics" [("com/example/palamedes/palamedes/lda/NonzeroTopics", "starts", "[I", .ref b2), ("com/example/palamedes/palamedes/lda/NonzeroTopics", "lengths", "[I", .ref b4), ("com/example/palamedes/palamedes/lda/NonzeroTopics", "topics", "[I", .ref b15)]) :: (b2, OA Z .int [(0 : Int32), xr0, (xr0 + xr1)]) :: (b4, OA Z .int [(xm + (1 : Int32)), (0 : Int32)]) :: (b15, OA Z .int (List.set (List.take r0 f_r0.1 ++ List.take r1 f_r0.1) (0 + f_r0.2) (0 : Int32))) :: (xc, OA Z .int [y0, y1, y2, y3, y4, y5, y6, y7]) :: L') := H72
      show OE p e (FE s ({ frames := 2, cells := 3, slots := 13, locals := 32 } : Room)) below n0 Q' T72 (mkF m 146 #[.val (.ref xo), .val (.ref xc), .val (.int (4 : Int32)), .val (.int (2 : Int32)), .val (.int (0 : Int32)), .val (.int (0 : Int32)), .unset, .val (.int (4 : Int32))] [])
      refine o_iinc (v := (0 : Int32)) (w := (1 : Int32)) X72 d4_146 rfl rfl #[.val (.ref xo), .val (.ref xc), .val (.int (4 : Int32)), .val (.int (2 : Int32)), .val (.int (0 : Int32)), .val (.int (1 : Int32)), .unset, .val (.int (4 : Int32))] rfl 149 rfl ?_
      refine o_goto X72 d4_149 120 (by decide) (by decide) ?_
      refine J01 _ _ (xm + 1) X72 ?_ ?_
      · have hh := H72; rw [Nat.zero_add, v_set0 _ _ _ _ _ _ v_len0 h04 l73] at hh; rw [e73]; exact hh
      · rw [e73]; exact v_ad _ 1 _ 1 hm rfl (by have := v_n4 y0 y1 y2 y3; omega) (by decide)
  refine o_iconst (v := (0 : Int32)) X16 d4_108 rfl 109 rfl ?_
  refine o_istore X16 d4_109 #[.val (.ref xo), .val (.ref xc), .val (.int (4 : Int32)), .val (.int (2 : Int32)), .val (.int (0 : Int32)), .val (.long (((((0 : Int64) + (Int32.toInt64 y4)) + (Int32.toInt64 y5)) + (Int32.toInt64 y6)) + (Int32.toInt64 y7))), .second, .val (.int (4 : Int32))] rfl 111 rfl ?_
  refine o_iload X16 d4_111 rfl 113 rfl ?_
  refine o_iloadN X16 d4_113 rfl 114 rfl ?_
  refine o_icmpGe X16 d4_114 158 117 (by decide) (by decide) rfl (fun q => by exfalso; exact absurd q (by decide)) ?_
  intro hc114
  refine o_iconst (v := (0 : Int32)) X16 d4_117 rfl 118 rfl ?_
  refine o_istore X16 d4_118 #[.val (.ref xo), .val (.ref xc), .val (.int (4 : Int32)), .val (.int (2 : Int32)), .val (.int (0 : Int32)), .val (.int (0 : Int32)), .unset, .val (.int (4 : Int32))] rfl 120 rfl ?_
  exact J00 _ _ _ X16 H21 rfl
set_option maxRecDepth 65536 in
set_option maxHeartbeats 40000000 in
theorem c_law (l : Launch) (Z : State) (a0 : Array Value) (hw : ∀ d ∈ tables_1, d.before a0 Z = true) (ws : List Jvm.Cond) (n0 : Nat) (h0 : Heap) (hn0 : n0 ≤ h0.size) (xa : Int32) (xb : Int32) (xc : Int32) :
    OC l Z x code maxLocals ret ws room_1 n0 #[(.int xa), (.int xb), (.int xc)] h0 (fun r h => r = some (.int 1)) := by
  refine OC.of (plainFor_of_name pn_1) hn0 #[.val (.int xa), .val (.int xb), .val (.int xc), .unset, .unset, .unset, .unset, .unset, .unset, .unset, .unset, .unset, .unset, .unset, .unset, .unset, .unset, .unset, .unset, .unset, .unset, .unset] (fun m => by first | (simp [entryFrame, mkF, argsToLocals, Value.category, maxLocals]; done) | rfl) ?_
  intro p e s m below meth cd0 T0 X0 Q' hQ
  have J108_0 : ∀ (T : State) (h : Heap) (xk : Addr) (y0 y1 y2 y3 y4 y5 y6 y7 : Int32) (xtop xix : Int32), OW p l e room_1 s m #[(.int xa), (.int xb), (.int xc)] below meth cd0 Z x code maxLocals ret n0 T h 1 8 → OL n0 h ((xk, OA Z .int [y0, y1, y2, y3, y4, y5, y6, y7]) :: []) → f_ok y0 → f_ok y1 → f_ok y2 → f_ok y3 → f_ok y4 → f_ok y5 → f_ok y6 → f_ok y7 → (∃ j : Nat, j < (f_r4 y0 y1 y2 y3).2 ∧ (f_r4 y0 y1 y2 y3).1[j]? = some xtop ∧ ∀ k, k < j → ¬ (f_r4 y0 y1 y2 y3).1[k]? = some xtop) → OE p e (FE s room_1) below n0 Q' T (mkF m 108 #[.val (.int xa), .val (.int xb), .val (.int xc), .val (.ref xk), .val (.int (0 : Int32)), .val (.int xtop), .val (.int xix), .unset, .unset, .unset, .unset, .unset, .unset, .unset, .unset, .unset, .unset, .unset, .unset, .unset, .unset, .unset] []) := by
    intro T h xk y0 y1 y2 y3 y4 y5 y6 y7 xtop xix X_J108_0 H_J108_0 o0 o1 o2 o3 o4 o5 o6 o7 hfind
    refine o_iconst (v := (4 : Int32)) X_J108_0 at_108 rfl 109 rfl ?_
    refine o_aloadN X_J108_0 at_109 rfl rfl 110 rfl ?_
    refine o_iconst (v := (0 : Int32)) X_J108_0 at_110 rfl 111 rfl ?_
    refine o_iaload X_J108_0 H_J108_0 0 rfl at_111 0 rfl y0 rfl 112 rfl ?_
    refine o_aloadN X_J108_0 at_112 rfl rfl 113 rfl ?_
    refine o_iconst (v := (1 : Int32)) X_J108_0 at_113 rfl 114 rfl ?_
    refine o_iaload X_J108_0 H_J108_0 0 rfl at_114 1 rfl y1 rfl 115 rfl ?_
    refine o_iadd X_J108_0 at_115 116 rfl ?_
    refine o_aloadN X_J108_0 at_116 rfl rfl 117 rfl ?_
    refine o_iconst (v := (2 : Int32)) X_J108_0 at_117 rfl 118 rfl ?_
    refine o_iaload X_J108_0 H_J108_0 0 rfl at_118 2 rfl y2 rfl 119 rfl ?_
    refine o_iadd X_J108_0 at_119 120 rfl ?_
    refine o_aloadN X_J108_0 at_120 rfl rfl 121 rfl ?_
    refine o_iconst (v := (3 : Int32)) X_J108_0 at_121 rfl 122 rfl ?_
    refine o_iaload X_J108_0 H_J108_0 0 rfl at_122 3 rfl y3 rfl 123 rfl ?_
    refine o_iadd X_J108_0 at_123 124 rfl ?_
    refine o_callS X_J108_0 at_124 (rest := []) (c_min l Z a0 hw [] n0 _ X_J108_0.size (4 : Int32) (((y0 + y1) + y2) + y3) ) (hw _ (List.mem_of_getElem? (i := 1) rfl)) (hw _ (List.mem_of_getElem? (i := 2) rfl)) (hw _ (List.mem_of_getElem? (i := 3) rfl)) (hw _ (List.mem_of_getElem? (i := 4) rfl)) (by decide) 0 (by decide) (by decide) rfl [(.int (4 : Int32)), (.int (((y0 + y1) + y2) + y3))] rfl pd_1 rfl rfl (Nat.le_of_eq rfl) 1 8 rfl rfl (by decide) (by decide) 127 rfl ?_
    rintro _ T1 _ X1 ⟨rfl, rfl⟩
    show OE p e (FE s room_1) below n0 Q' T1 (mkF m 127 #[.val (.int xa), .val (.int xb), .val (.int xc), .val (.ref xk), .val (.int (0 : Int32)), .val (.int xtop), .val (.int xix), .unset, .unset, .unset, .unset, .unset, .unset, .unset, .unset, .unset, .unset, .unset, .unset, .unset, .unset, .unset] [(.int (f_min (4 : Int32) (((y0 + y1) + y2) + y3)))])
    refine o_istore X1 at_127 #[.val (.int xa), .val (.int xb), .val (.int xc), .val (.ref xk), .val (.int (0 : Int32)), .val (.int xtop), .val (.int xix), .val (.int (f_min (4 : Int32) (((y0 + y1) + y2) + y3))), .unset, .unset, .unset, .unset, .unset, .unset, .unset, .unset, .unset, .unset, .unset, .unset, .unset, .unset] rfl 129 rfl ?_
    generalize hxr0 : (f_min (4 : Int32) (((y0 + y1) + y2) + y3)) = xr0
    refine o_iconst (v := (4 : Int32)) X1 at_129 rfl 130 rfl ?_
    refine o_aloadN X1 at_130 rfl rfl 131 rfl ?_
    refine o_iconst (v := (4 : Int32)) X1 at_131 rfl 132 rfl ?_
    refine o_iaload X1 H_J108_0 0 rfl at_132 4 rfl y4 rfl 133 rfl ?_
    refine o_aloadN X1 at_133 rfl rfl 134 rfl ?_
    refine o_iconst (v := (5 : Int32)) X1 at_134 rfl 135 rfl ?_
    refine o_iaload X1 H_J108_0 0 rfl at_135 5 rfl y5 rfl 136 rfl ?_
    refine o_iadd X1 at_136 137 rfl ?_
    refine o_aloadN X1 at_137 rfl rfl 138 rfl ?_
    refine o_bipush (v := (6 : Int32)) X1 at_138 rfl 140 rfl ?_
    refine o_iaload X1 H_J108_0 0 rfl at_140 6 rfl y6 rfl 141 rfl ?_
    refine o_iadd X1 at_141 142 rfl ?_
    refine o_aloadN X1 at_142 rfl rfl 143 rfl ?_
    refine o_bipush (v := (7 : Int32)) X1 at_143 rfl 145 rfl ?_
    refine o_iaload X1 H_J108_0 0 rfl at_145 7 rfl y7 rfl 146 rfl ?_
    refine o_iadd X1 at_146 147 rfl ?_
    refine o_callS X1 at_147 (rest := []) (c_min l Z a0 hw [] n0 _ X1.size (4 : Int32) (((y4 + y5) + y6) + y7) ) (hw _ (List.mem_of_getElem? (i := 1) rfl)) (hw _ (List.mem_of_getElem? (i := 2) rfl)) (hw _ (List.mem_of_getElem? (i := 3) rfl)) (hw _ (List.mem_of_getElem? (i := 4) rfl)) (by decide) 0 (by decide) (by decide) rfl [(.int (4 : Int32)), (.int (((y4 + y5) + y6) + y7))] rfl pd_1 rfl rfl (Nat.le_of_eq rfl) 1 8 rfl rfl (by decide) (by decide) 150 rfl ?_
    rintro _ T2 _ X2 ⟨rfl, rfl⟩
    show OE p e (FE s room_1) below n0 Q' T2 (mkF m 150 #[.val (.int xa), .val (.int xb), .val (.int xc), .val (.ref xk), .val (.int (0 : Int32)), .val (.int xtop), .val (.int xix), .val (.int xr0), .unset, .unset, .unset, .unset, .unset, .unset, .unset, .unset, .unset, .unset, .unset, .unset, .unset, .unset] [(.int (f_min (4 : Int32) (((y4 + y5) + y6) + y7)))])
    refine o_istore X2 at_150 #[.val (.int xa), .val (.int xb), .val (.int xc), .val (.ref xk), .val (.int (0 : Int32)), .val (.int xtop), .val (.int xix), .val (.int xr0), .val (.int (f_min (4 : Int32) (((y4 + y5) + y6) + y7))), .unset, .unset, .unset, .unset, .unset, .unset, .unset, .unset, .unset, .unset, .unset, .unset, .unset] rfl 152 rfl ?_
    generalize hxr1 : (f_min (4 : Int32) (((y4 + y5) + y6) + y7)) = xr1
    obtain ⟨r0, hx0, h04, hc0⟩ := v_r y0 y1 y2 y3 o0 o1 o2 o3
    rw [hxr0] at hx0
    have hn40 := v_n4 y0 y1 y2 y3
    obtain ⟨r1, hx1, h14, hc1⟩ := v_r y4 y5 y6 y7 o4 o5 o6 o7
    rw [hxr1] at hx1
    have hn41 := v_n4 y4 y5 y6 y7
    obtain ⟨j, hjN, hj, hne⟩ := hfind
    refine o_iconst (v := (4 : Int32)) X2 at_152 rfl 153 rfl ?_
    refine o_newarray (L := ((xk, OA Z .int [y0, y1, y2, y3, y4, y5, y6, y7]) :: [])) X2 H_J108_0 at_153 (hw _ (List.mem_of_getElem? (i := 0) rfl)) rfl rfl 4 4 rfl (by decide) (by decide) 2 12 rfl rfl (by decide) (by decide) 155 rfl ?_
    intro T3 h3 b3 X3 H3
    replace H3 : OL n0 h3 ((b3, OA Z .int [(0 : Int32), (0 : Int32), (0 : Int32), (0 : Int32)]) :: (xk, OA Z .int [y0, y1, y2, y3, y4, y5, y6, y7]) :: []) := H3
    refine o_astore X3 at_155 rfl #[.val (.int xa), .val (.int xb), .val (.int xc), .val (.ref xk), .val (.int (0 : Int32)), .val (.int xtop), .val (.int xix), .val (.int xr0), .val (.int xr1), .val (.ref b3), .unset, .unset, .unset, .unset, .unset, .unset, .unset, .unset, .unset, .unset, .unset, .unset] rfl 157 rfl ?_
    refine o_aloadN X3 at_157 rfl rfl 158 rfl ?_
    refine o_iconst (v := (0 : Int32)) X3 at_158 rfl 159 rfl ?_
    refine o_aload X3 at_159 rfl rfl 161 rfl ?_
    have H5 : OL n0 h3 ((xk, OA Z .int [y0, y1, y2, y3, y4, y5, y6, y7]) :: (b3, OA Z .int [(0 : Int32), (0 : Int32), (0 : Int32), (0 : Int32)]) :: []) := H3.front 1 rfl
    refine o_callS X3 at_161 (rest := []) (c_fill0 l Z a0 hw [] n0 _ X3.size xk b3 y0 y1 y2 y3 y4 y5 y6 y7 [] H5) (hw _ (List.mem_of_getElem? (i := 5) rfl)) (hw _ (List.mem_of_getElem? (i := 6) rfl)) (hw _ (List.mem_of_getElem? (i := 7) rfl)) (hw _ (List.mem_of_getElem? (i := 8) rfl)) (by decide) 0 (by decide) (by decide) rfl [(.ref xk), (.int (0 : Int32)), (.ref b3)] rfl pd_2 rfl rfl (Nat.le_of_eq rfl) 2 12 rfl rfl (by decide) (by decide) 164 rfl ?_
    rintro _ T4 h4 X4 ⟨pa4, pb4, pc4, pd4, xn4, rfl, H4, hF4⟩
    replace H4 : OL n0 h4 ((xk, OA Z .int [y0, y1, y2, y3, y4, y5, y6, y7]) :: (b3, OA Z .int [pa4, pb4, pc4, pd4]) :: []) := H4
    show OE p e (FE s room_1) below n0 Q' T4 (mkF m 164 #[.val (.int xa), .val (.int xb), .val (.int xc), .val (.ref xk), .val (.int (0 : Int32)), .val (.int xtop), .val (.int xix), .val (.int xr0), .val (.int xr1), .val (.ref b3), .unset, .unset, .unset, .unset, .unset, .unset, .unset, .unset, .unset, .unset, .unset, .unset] [(.int xn4)])
    refine o_istore X4 at_164 #[.val (.int xa), .val (.int xb), .val (.int xc), .val (.ref xk), .val (.int (0 : Int32)), .val (.int xtop), .val (.int xix), .val (.int xr0), .val (.int xr1), .val (.ref b3), .val (.int xn4), .unset, .unset, .unset, .unset, .unset, .unset, .unset, .unset, .unset, .unset, .unset] rfl 166 rfl ?_
    refine o_iconst (v := (4 : Int32)) X4 at_166 rfl 167 rfl ?_
    refine o_newarray (L := ((xk, OA Z .int [y0, y1, y2, y3, y4, y5, y6, y7]) :: (b3, OA Z .int [pa4, pb4, pc4, pd4]) :: [])) X4 H4 at_167 (hw _ (List.mem_of_getElem? (i := 0) rfl)) rfl rfl 4 4 rfl (by decide) (by decide) 3 16 rfl rfl (by decide) (by decide) 169 rfl ?_
    intro T6 h6 b6 X6 H6
    replace H6 : OL n0 h6 ((b6, OA Z .int [(0 : Int32), (0 : Int32), (0 : Int32), (0 : Int32)]) :: (xk, OA Z .int [y0, y1, y2, y3, y4, y5, y6, y7]) :: (b3, OA Z .int [pa4, pb4, pc4, pd4]) :: []) := H6
    refine o_astore X6 at_169 rfl #[.val (.int xa), .val (.int xb), .val (.int xc), .val (.ref xk), .val (.int (0 : Int32)), .val (.int xtop), .val (.int xix), .val (.int xr0), .val (.int xr1), .val (.ref b3), .val (.int xn4), .val (.ref b6), .unset, .unset, .unset, .unset, .unset, .unset, .unset, .unset, .unset, .unset] rfl 171 rfl ?_
    refine o_aloadN X6 at_171 rfl rfl 172 rfl ?_
    refine o_iconst (v := (4 : Int32)) X6 at_172 rfl 173 rfl ?_
    refine o_aload X6 at_173 rfl rfl 175 rfl ?_
    have H8 : OL n0 h6 ((xk, OA Z .int [y0, y1, y2, y3, y4, y5, y6, y7]) :: (b6, OA Z .int [(0 : Int32), (0 : Int32), (0 : Int32), (0 : Int32)]) :: (b3, OA Z .int [pa4, pb4, pc4, pd4]) :: []) := H6.front 1 rfl
    refine o_callS X6 at_175 (rest := []) (c_fill4 l Z a0 hw [] n0 _ X6.size xk b6 y0 y1 y2 y3 y4 y5 y6 y7 ((b3, OA Z .int [pa4, pb4, pc4, pd4]) :: []) H8) (hw _ (List.mem_of_getElem? (i := 5) rfl)) (hw _ (List.mem_of_getElem? (i := 6) rfl)) (hw _ (List.mem_of_getElem? (i := 7) rfl)) (hw _ (List.mem_of_getElem? (i := 8) rfl)) (by decide) 0 (by decide) (by decide) rfl [(.ref xk), (.int (4 : Int32)), (.ref b6)] rfl pd_2 rfl rfl (Nat.le_of_eq rfl) 3 16 rfl rfl (by decide) (by decide) 178 rfl ?_
    rintro _ T7 h7 X7 ⟨pa7, pb7, pc7, pd7, xn7, rfl, H7, hF7⟩
    replace H7 : OL n0 h7 ((xk, OA Z .int [y0, y1, y2, y3, y4, y5, y6, y7]) :: (b6, OA Z .int [pa7, pb7, pc7, pd7]) :: (b3, OA Z .int [pa4, pb4, pc4, pd4]) :: []) := H7
    show OE p e (FE s room_1) below n0 Q' T7 (mkF m 178 #[.val (.int xa), .val (.int xb), .val (.int xc), .val (.ref xk), .val (.int (0 : Int32)), .val (.int xtop), .val (.int xix), .val (.int xr0), .val (.int xr1), .val (.ref b3), .val (.int xn4), .val (.ref b6), .unset, .unset, .unset, .unset, .unset, .unset, .unset, .unset, .unset, .unset] [(.int xn7)])
    refine o_istore X7 at_178 #[.val (.int xa), .val (.int xb), .val (.int xc), .val (.ref xk), .val (.int (0 : Int32)), .val (.int xtop), .val (.int xix), .val (.int xr0), .val (.int xr1), .val (.ref b3), .val (.int xn4), .val (.ref b6), .val (.int xn7), .unset, .unset, .unset, .unset, .unset, .unset, .unset, .unset, .unset] rfl 180 rfl ?_
    refine o_bipush (v := (8 : Int32)) X7 at_180 rfl 182 rfl ?_
    refine o_newarray (L := ((xk, OA Z .int [y0, y1, y2, y3, y4, y5, y6, y7]) :: (b6, OA Z .int [pa7, pb7, pc7, pd7]) :: (b3, OA Z .int [pa4, pb4, pc4, pd4]) :: [])) X7 H7 at_182 (hw _ (List.mem_of_getElem? (i := 0) rfl)) rfl rfl 8 8 rfl (by decide) (by decide) 4 24 rfl rfl (by decide) (by decide) 184 rfl ?_
    intro T9 h9 b9 X9 H9
    replace H9 : OL n0 h9 ((b9, OA Z .int [(0 : Int32), (0 : Int32), (0 : Int32), (0 : Int32), (0 : Int32), (0 : Int32), (0 : Int32), (0 : Int32)]) :: (xk, OA Z .int [y0, y1, y2, y3, y4, y5, y6, y7]) :: (b6, OA Z .int [pa7, pb7, pc7, pd7]) :: (b3, OA Z .int [pa4, pb4, pc4, pd4]) :: []) := H9
    refine o_astore X9 at_184 rfl #[.val (.int xa), .val (.int xb), .val (.int xc), .val (.ref xk), .val (.int (0 : Int32)), .val (.int xtop), .val (.int xix), .val (.int xr0), .val (.int xr1), .val (.ref b3), .val (.int xn4), .val (.ref b6), .val (.int xn7), .val (.ref b9), .unset, .unset, .unset, .unset, .unset, .unset, .unset, .unset] rfl 186 rfl ?_
    refine o_aload X9 at_186 rfl rfl 188 rfl ?_
    refine o_iconst (v := (0 : Int32)) X9 at_188 rfl 189 rfl ?_
    refine o_aload X9 at_189 rfl rfl 191 rfl ?_
    refine o_iload X9 at_191 rfl 193 rfl ?_
    have H11 : OL n0 h9 ((b3, OA Z .int [pa4, pb4, pc4, pd4]) :: (b9, OA Z .int [(0 : Int32), (0 : Int32), (0 : Int32), (0 : Int32), (0 : Int32), (0 : Int32), (0 : Int32), (0 : Int32)]) :: (xk, OA Z .int [y0, y1, y2, y3, y4, y5, y6, y7]) :: (b6, OA Z .int [pa7, pb7, pc7, pd7]) :: []) := H9.front 3 rfl
    have H12 : OL n0 h9 ((b9, OA Z .int [(0 : Int32), (0 : Int32), (0 : Int32), (0 : Int32), (0 : Int32), (0 : Int32), (0 : Int32), (0 : Int32)]) :: (b3, OA Z .int [pa4, pb4, pc4, pd4]) :: (xk, OA Z .int [y0, y1, y2, y3, y4, y5, y6, y7]) :: (b6, OA Z .int [pa7, pb7, pc7, pd7]) :: []) := H11.front 1 rfl
    refine o_callS X9 at_193 (rest := []) (c_put l Z a0 hw [] n0 _ X9.size b9 (0 : Int32) b3 xn4 [(0 : Int32), (0 : Int32), (0 : Int32), (0 : Int32), (0 : Int32), (0 : Int32), (0 : Int32), (0 : Int32)] pa4 pb4 pc4 pd4 ((xk, OA Z .int [y0, y1, y2, y3, y4, y5, y6, y7]) :: (b6, OA Z .int [pa7, pb7, pc7, pd7]) :: []) H12 0 (f_r4 y0 y1 y2 y3).2 rfl hF4.2 (v_n4 ..) (by show 0 + _ ≤ 8; have := v_n4 y0 y1 y2 y3; omega) (by omega)) (hw _ (List.mem_of_getElem? (i := 9) rfl)) (hw _ (List.mem_of_getElem? (i := 10) rfl)) (hw _ (List.mem_of_getElem? (i := 7) rfl)) (hw _ (List.mem_of_getElem? (i := 11) rfl)) (by decide) 0 (by decide) (by decide) rfl [(.ref b9), (.int (0 : Int32)), (.ref b3), (.int xn4)] rfl pd_3 rfl rfl (Nat.le_of_eq rfl) 4 24 rfl rfl (by decide) (by decide) 196 rfl ?_
    rintro _ T10 h10 X10 ⟨E10, rfl, H10, hP10⟩
    replace H10 : OL n0 h10 ((b9, OA Z .int E10) :: (b3, OA Z .int [pa4, pb4, pc4, pd4]) :: (xk, OA Z .int [y0, y1, y2, y3, y4, y5, y6, y7]) :: (b6, OA Z .int [pa7, pb7, pc7, pd7]) :: []) := H10
    show OE p e (FE s room_1) below n0 Q' T10 (mkF m 196 #[.val (.int xa), .val (.int xb), .val (.int xc), .val (.ref xk), .val (.int (0 : Int32)), .val (.int xtop), .val (.int xix), .val (.int xr0), .val (.int xr1), .val (.ref b3), .val (.int xn4), .val (.ref b6), .val (.int xn7), .val (.ref b9), .unset, .unset, .unset, .unset, .unset, .unset, .unset, .unset] [])
    have hL10 : E10.length = 8 := hP10.1
    refine o_aload X10 at_196 rfl rfl 198 rfl ?_
    refine o_iload X10 at_198 rfl 200 rfl ?_
    refine o_aload X10 at_200 rfl rfl 202 rfl ?_
    refine o_iload X10 at_202 rfl 204 rfl ?_
    have H14 : OL n0 h10 ((b6, OA Z .int [pa7, pb7, pc7, pd7]) :: (b9, OA Z .int E10) :: (b3, OA Z .int [pa4, pb4, pc4, pd4]) :: (xk, OA Z .int [y0, y1, y2, y3, y4, y5, y6, y7]) :: []) := H10.front 3 rfl
    have H15 : OL n0 h10 ((b9, OA Z .int E10) :: (b6, OA Z .int [pa7, pb7, pc7, pd7]) :: (b3, OA Z .int [pa4, pb4, pc4, pd4]) :: (xk, OA Z .int [y0, y1, y2, y3, y4, y5, y6, y7]) :: []) := H14.front 1 rfl
    refine o_callS X10 at_204 (rest := []) (c_put l Z a0 hw [] n0 _ X10.size b9 xr0 b6 xn7 E10 pa7 pb7 pc7 pd7 ((b3, OA Z .int [pa4, pb4, pc4, pd4]) :: (xk, OA Z .int [y0, y1, y2, y3, y4, y5, y6, y7]) :: []) H15 r0 (f_r4 y4 y5 y6 y7).2 hx0 hF7.2 (v_n4 ..) (by have := v_n4 y4 y5 y6 y7; omega) (by omega)) (hw _ (List.mem_of_getElem? (i := 9) rfl)) (hw _ (List.mem_of_getElem? (i := 10) rfl)) (hw _ (List.mem_of_getElem? (i := 7) rfl)) (hw _ (List.mem_of_getElem? (i := 11) rfl)) (by decide) 0 (by decide) (by decide) rfl [(.ref b9), (.int xr0), (.ref b6), (.int xn7)] rfl pd_3 rfl rfl (Nat.le_of_eq rfl) 4 24 rfl rfl (by decide) (by decide) 207 rfl ?_
    rintro _ T13 h13 X13 ⟨E13, rfl, H13, hP13⟩
    replace H13 : OL n0 h13 ((b9, OA Z .int E13) :: (b6, OA Z .int [pa7, pb7, pc7, pd7]) :: (b3, OA Z .int [pa4, pb4, pc4, pd4]) :: (xk, OA Z .int [y0, y1, y2, y3, y4, y5, y6, y7]) :: []) := H13
    show OE p e (FE s room_1) below n0 Q' T13 (mkF m 207 #[.val (.int xa), .val (.int xb), .val (.int xc), .val (.ref xk), .val (.int (0 : Int32)), .val (.int xtop), .val (.int xix), .val (.int xr0), .val (.int xr1), .val (.ref b3), .val (.int xn4), .val (.ref b6), .val (.int xn7), .val (.ref b9), .unset, .unset, .unset, .unset, .unset, .unset, .unset, .unset] [])
    have hL13 : E13.length = 8 := hP13.1.trans hL10
    refine o_iload X13 at_207 rfl 209 rfl ?_
    refine o_ifNe X13 at_209 217 212 (by decide) (by decide) rfl (fun q => by exfalso; exact absurd q (by decide)) ?_
    intro hc209
    refine o_aload X13 at_212 rfl rfl 214 rfl ?_
    refine o_goto X13 at_214 219 (by decide) (by decide) ?_
    refine o_astore X13 at_219 rfl #[.val (.int xa), .val (.int xb), .val (.int xc), .val (.ref xk), .val (.int (0 : Int32)), .val (.int xtop), .val (.int xix), .val (.int xr0), .val (.int xr1), .val (.ref b3), .val (.int xn4), .val (.ref b6), .val (.int xn7), .val (.ref b9), .val (.ref b3), .unset, .unset, .unset, .unset, .unset, .unset, .unset] rfl 221 rfl ?_
    refine o_iload X13 at_221 rfl 223 rfl ?_
    refine o_ifNe X13 at_223 231 226 (by decide) (by decide) rfl (fun q => by exfalso; exact absurd q (by decide)) ?_
    intro hc223
    refine o_iload X13 at_226 rfl 228 rfl ?_
    refine o_goto X13 at_228 233 (by decide) (by decide) ?_
    refine o_istore X13 at_233 #[.val (.int xa), .val (.int xb), .val (.int xc), .val (.ref xk), .val (.int (0 : Int32)), .val (.int xtop), .val (.int xix), .val (.int xr0), .val (.int xr1), .val (.ref b3), .val (.int xn4), .val (.ref b6), .val (.int xn7), .val (.ref b9), .val (.ref b3), .val (.int xn4), .unset, .unset, .unset, .unset, .unset, .unset] rfl 235 rfl ?_
    refine o_iload X13 at_235 rfl 237 rfl ?_
    refine o_ifNe X13 at_237 244 240 (by decide) (by decide) rfl (fun q => by exfalso; exact absurd q (by decide)) ?_
    intro hc237
    refine o_iconst (v := (0 : Int32)) X13 at_240 rfl 241 rfl ?_
    refine o_goto X13 at_241 246 (by decide) (by decide) ?_
    refine o_istore X13 at_246 #[.val (.int xa), .val (.int xb), .val (.int xc), .val (.ref xk), .val (.int (0 : Int32)), .val (.int xtop), .val (.int xix), .val (.int xr0), .val (.int xr1), .val (.ref b3), .val (.int xn4), .val (.ref b6), .val (.int xn7), .val (.ref b9), .val (.ref b3), .val (.int xn4), .val (.int (0 : Int32)), .unset, .unset, .unset, .unset, .unset] rfl 248 rfl ?_
    rw [hF4.1] at hj hne
    have J290 : ∀ (T : State) (h : Heap) (xj : Int32), OW p l e room_1 s m #[(.int xa), (.int xb), (.int xc)] below meth cd0 Z x code maxLocals ret n0 T h 4 24 → OL n0 h ((b9, OA Z .int E13) :: (b6, OA Z .int [pa7, pb7, pc7, pd7]) :: (b3, OA Z .int [pa4, pb4, pc4, pd4]) :: (xk, OA Z .int [y0, y1, y2, y3, y4, y5, y6, y7]) :: []) → xj.toInt = (j : Int) → OE p e (FE s room_1) below n0 Q' T (mkF m 290 #[.val (.int xa), .val (.int xb), .val (.int xc), .val (.ref xk), .val (.int (0 : Int32)), .val (.int xtop), .val (.int xix), .val (.int xr0), .val (.int xr1), .val (.ref b3), .val (.int xn4), .val (.ref b6), .val (.int xn7), .val (.ref b9), .val (.ref b3), .val (.int xn4), .val (.int (0 : Int32)), .val (.int xj), .unset, .unset, .unset, .unset] []) := by
      intro T h xj X_J290 H_J290 hxj
      obtain ⟨mm, hmm⟩ : ∃ mm, (f_r4 y0 y1 y2 y3).2 = mm + 1 := ⟨(f_r4 y0 y1 y2 y3).2 - 1, by omega⟩
      have hxn : xn4.toInt = ((mm + 1 : Nat) : Int) := by rw [← hmm]; exact hF4.2
      obtain ⟨wv, hwv⟩ : ∃ w, [pa4, pb4, pc4, pd4][mm]? = some w := ⟨_, List.getElem?_eq_getElem (by show mm < 4; omega)⟩
      replace hne : ∀ k, k < j → ∃ v, [pa4, pb4, pc4, pd4][k]? = some v ∧ ¬ v = xtop := fun k hk => ⟨_, List.getElem?_eq_getElem (by show k < 4; omega), fun q => hne k hk (by rw [List.getElem?_eq_getElem (by show k < 4; omega), q])⟩
      refine o_aload X_J290 at_290 rfl rfl 292 rfl ?_
      refine o_iload X_J290 at_292 rfl 294 rfl ?_
      refine o_iload X_J290 at_294 rfl 296 rfl ?_
      refine o_iadd X_J290 at_296 297 rfl ?_
      refine o_aload X_J290 at_297 rfl rfl 299 rfl ?_
      refine o_iload X_J290 at_299 rfl 301 rfl ?_
      refine o_iconst (v := (1 : Int32)) X_J290 at_301 rfl 302 rfl ?_
      refine o_isub X_J290 at_302 303 rfl ?_
      refine o_iaload X_J290 H_J290 2 rfl at_303 mm (v_sb xn4 1 mm 1 hxn rfl (by omega) (by decide)) wv hwv 304 rfl ?_
      refine o_iastore X_J290 H_J290 0 rfl at_304 (0 + j) (v_ad _ xj 0 j rfl hxj (by omega) (by omega)) (by omega) 305 rfl ?_
      intro T16 h16 X16 H16
      replace H16 : OL n0 h16 ((b9, OA Z .int (List.set E13 (0 + j) wv)) :: (b6, OA Z .int [pa7, pb7, pc7, pd7]) :: (b3, OA Z .int [pa4, pb4, pc4, pd4]) :: (xk, OA Z .int [y0, y1, y2, y3, y4, y5, y6, y7]) :: []) := H16
      refine o_iload X16 at_305 rfl 307 rfl ?_
      refine o_ifNe X16 at_307 317 310 (by decide) (by decide) rfl (fun q => by exfalso; exact absurd q (by decide)) ?_
      intro hc307
      refine o_iload X16 at_310 rfl 312 rfl ?_
      refine o_iconst (v := (1 : Int32)) X16 at_312 rfl 313 rfl ?_
      refine o_isub X16 at_313 314 rfl ?_
      refine o_goto X16 at_314 319 (by decide) (by decide) ?_
      refine o_istore X16 at_319 #[.val (.int xa), .val (.int xb), .val (.int xc), .val (.ref xk), .val (.int (0 : Int32)), .val (.int xtop), .val (.int xix), .val (.int xr0), .val (.int xr1), .val (.ref b3), .val (.int xn4), .val (.ref b6), .val (.int xn7), .val (.ref b9), .val (.ref b3), .val (.int xn4), .val (.int (0 : Int32)), .val (.int xj), .val (.int (xn4 - (1 : Int32))), .unset, .unset, .unset] rfl 321 rfl ?_
      refine o_iload X16 at_321 rfl 323 rfl ?_
      refine o_iconst (v := (1 : Int32)) X16 at_323 rfl 324 rfl ?_
      refine o_icmpNe X16 at_324 334 327 (by decide) (by decide) rfl ?_ (fun q => by exfalso; exact absurd q (by decide))
      intro hc324
      refine o_iload X16 at_334 rfl 336 rfl ?_
      refine o_istore X16 at_336 #[.val (.int xa), .val (.int xb), .val (.int xc), .val (.ref xk), .val (.int (0 : Int32)), .val (.int xtop), .val (.int xix), .val (.int xr0), .val (.int xr1), .val (.ref b3), .val (.int xn4), .val (.ref b6), .val (.int xn7), .val (.ref b9), .val (.ref b3), .val (.int xn4), .val (.int (0 : Int32)), .val (.int xj), .val (.int (xn4 - (1 : Int32))), .val (.int xn7), .unset, .unset] rfl 338 rfl ?_
      refine o_new (L := ((b9, OA Z .int (List.set E13 (0 + j) wv)) :: (b6, OA Z .int [pa7, pb7, pc7, pd7]) :: (b3, OA Z .int [pa4, pb4, pc4, pd4]) :: (xk, OA Z .int [y0, y1, y2, y3, y4, y5, y6, y7]) :: [])) X16 H16 at_338 (hw _ (List.mem_of_getElem? (i := 12) rfl)) (hw _ (List.mem_of_getElem? (i := 13) rfl)) (hw _ (List.mem_of_getElem? (i := 14) rfl)) [("com/example/palamedes/palamedes/lda/NonzeroTopics", "starts", "[I", .null), ("com/example/palamedes/palamedes/lda/NonzeroTopics", "lengths", "[I", .null), ("com/example/palamedes/palamedes/lda/NonzeroTopics", "topics", "[I", .null)] (oqS ⟨(.array .int), Or.inr (hw _ (List.mem_of_getElem? (i := 22) rfl)), by decide, rfl⟩ (oqS ⟨(.array .int), Or.inr (hw _ (List.mem_of_getElem? (i := 24) rfl)), by decide, rfl⟩ (oqS ⟨(.array .int), Or.inr (hw _ (List.mem_of_getElem? (i := 32) rfl)), by decide, rfl⟩ oq0))) 5 27 rfl rfl (by decide) (by decide) 341 rfl ?_
      intro T17 h17 b17 X17 H17
      refine o_dup X17 at_341 rfl 342 rfl ?_
      refine o_aloadN X17 at_342 rfl rfl 343 rfl ?_
      refine o_iconst (v := (4 : Int32)) X17 at_343 rfl 344 rfl ?_
      have H19 : OL n0 h17 ((xk, OA Z .int [y0, y1, y2, y3, y4, y5, y6, y7]) :: (b17, OO Z "com/example/palamedes/palamedes/lda/NonzeroTopics" [("com/example/palamedes/palamedes/lda/NonzeroTopics", "starts", "[I", .null), ("com/example/palamedes/palamedes/lda/NonzeroTopics", "lengths", "[I", .null), ("com/example/palamedes/palamedes/lda/NonzeroTopics", "topics", "[I", .null)]) :: (b9, OA Z .int (List.set E13 (0 + j) wv)) :: (b6, OA Z .int [pa7, pb7, pc7, pd7]) :: (b3, OA Z .int [pa4, pb4, pc4, pd4]) :: []) := H17.front 4 rfl
      have H20 : OL n0 h17 ((b17, OO Z "com/example/palamedes/palamedes/lda/NonzeroTopics" [("com/example/palamedes/palamedes/lda/NonzeroTopics", "starts", "[I", .null), ("com/example/palamedes/palamedes/lda/NonzeroTopics", "lengths", "[I", .null), ("com/example/palamedes/palamedes/lda/NonzeroTopics", "topics", "[I", .null)]) :: (xk, OA Z .int [y0, y1, y2, y3, y4, y5, y6, y7]) :: (b9, OA Z .int (List.set E13 (0 + j) wv)) :: (b6, OA Z .int [pa7, pb7, pc7, pd7]) :: (b3, OA Z .int [pa4, pb4, pc4, pd4]) :: []) := H19.front 1 rfl
      refine o_callI X17 at_344 (rest := [(.ref b17)]) (c_init l Z a0 hw [] n0 _ X17.size b17 xk y0 y1 y2 y3 y4 y5 y6 y7 _ _ _ ((b9, OA Z .int (List.set E13 (0 + j) wv)) :: (b6, OA Z .int [pa7, pb7, pc7, pd7]) :: (b3, OA Z .int [pa4, pb4, pc4, pd4]) :: []) H20 xr0 xr1 r0 r1 ((v_room _ _ _ _ o0 o1 o2 o3).trans hxr0) ((v_room _ _ _ _ o4 o5 o6 o7).trans hxr1) hx0 hx1 h04 h14 hc0 hc1) rfl (hw _ (List.mem_of_getElem? (i := 15) rfl)) (hw _ (List.mem_of_getElem? (i := 16) rfl)) (hw _ (List.mem_of_getElem? (i := 14) rfl)) (hw _ (List.mem_of_getElem? (i := 17) rfl)) (by decide) 1 (by decide) (by decide) rfl [(.ref xk), (.int (4 : Int32))] rfl pd_4 rfl rfl (Nat.le_of_eq rfl) 8 40 rfl rfl (by decide) (by decide) 347 rfl ?_
      rintro _ T18 h18 X18 ⟨bs18, bl18, bt18, xz18, xm18, rfl, H18, hz18, hm18⟩
      replace H18 : OL n0 h18 ((b17, OO Z "com/example/palamedes/palamedes/lda/NonzeroTopics" [("com/example/palamedes/palamedes/lda/NonzeroTopics", "starts", "[I", .ref bs18), ("com/example/palamedes/palamedes/lda/NonzeroTopics", "lengths", "[I", .ref bl18), ("com/example/palamedes/palamedes/lda/NonzeroTopics", "topics", "[I", .ref bt18)]) :: (bs18, OA Z .int [(0 : Int32), xr0, (xr0 + xr1)]) :: (bl18, OA Z .int [xz18, xm18]) :: (bt18, OA Z .int (List.take r0 (f_r4 y0 y1 y2 y3).1 ++ List.take r1 (f_r4 y4 y5 y6 y7).1)) :: (xk, OA Z .int [y0, y1, y2, y3, y4, y5, y6, y7]) :: (b9, OA Z .int (List.set E13 (0 + j) wv)) :: (b6, OA Z .int [pa7, pb7, pc7, pd7]) :: (b3, OA Z .int [pa4, pb4, pc4, pd4]) :: []) := H18
      show OE p e (FE s room_1) below n0 Q' T18 (mkF m 347 #[.val (.int xa), .val (.int xb), .val (.int xc), .val (.ref xk), .val (.int (0 : Int32)), .val (.int xtop), .val (.int xix), .val (.int xr0), .val (.int xr1), .val (.ref b3), .val (.int xn4), .val (.ref b6), .val (.int xn7), .val (.ref b9), .val (.ref b3), .val (.int xn4), .val (.int (0 : Int32)), .val (.int xj), .val (.int (xn4 - (1 : Int32))), .val (.int xn7), .unset, .unset] [(.ref b17)])
      rw [hF4.1, hF7.1] at H18
      have ez : xz18 = xn4 := Int32.toInt_inj.mp (hz18.trans hF4.2.symm)
      have em : xm18 = xn7 := Int32.toInt_inj.mp (hm18.trans hF7.2.symm)
      refine o_astore X18 at_347 rfl #[.val (.int xa), .val (.int xb), .val (.int xc), .val (.ref xk), .val (.int (0 : Int32)), .val (.int xtop), .val (.int xix), .val (.int xr0), .val (.int xr1), .val (.ref b3), .val (.int xn4), .val (.ref b6), .val (.int xn7), .val (.ref b9), .val (.ref b3), .val (.int xn4), .val (.int (0 : Int32)), .val (.int xj), .val (.int (xn4 - (1 : Int32))), .val (.int xn7), .val (.ref b17), .unset] rfl 349 rfl ?_
      refine o_aload X18 at_349 rfl rfl 351 rfl ?_
      refine o_iload X18 at_351 rfl 353 rfl ?_
      refine o_iload X18 at_353 rfl 355 rfl ?_
      have H22 : OL n0 h18 ((bt18, OA Z .int (List.take r0 [pa4, pb4, pc4, pd4] ++ List.take r1 [pa7, pb7, pc7, pd7])) :: (b17, OO Z "com/example/palamedes/palamedes/lda/NonzeroTopics" [("com/example/palamedes/palamedes/lda/NonzeroTopics", "starts", "[I", .ref bs18), ("com/example/palamedes/palamedes/lda/NonzeroTopics", "lengths", "[I", .ref bl18), ("com/example/palamedes/palamedes/lda/NonzeroTopics", "topics", "[I", .ref bt18)]) :: (bs18, OA Z .int [(0 : Int32), xr0, (xr0 + xr1)]) :: (bl18, OA Z .int [xz18, xm18]) :: (xk, OA Z .int [y0, y1, y2, y3, y4, y5, y6, y7]) :: (b9, OA Z .int (List.set E13 (0 + j) wv)) :: (b6, OA Z .int [pa7, pb7, pc7, pd7]) :: (b3, OA Z .int [pa4, pb4, pc4, pd4]) :: []) := H18.front 3 rfl
      have H23 : OL n0 h18 ((bl18, OA Z .int [xz18, xm18]) :: (bt18, OA Z .int (List.take r0 [pa4, pb4, pc4, pd4] ++ List.take r1 [pa7, pb7, pc7, pd7])) :: (b17, OO Z "com/example/palamedes/palamedes/lda/NonzeroTopics" [("com/example/palamedes/palamedes/lda/NonzeroTopics", "starts", "[I", .ref bs18), ("com/example/palamedes/palamedes/lda/NonzeroTopics", "lengths", "[I", .ref bl18), ("com/example/palamedes/palamedes/lda/NonzeroTopics", "topics", "[I", .ref bt18)]) :: (bs18, OA Z .int [(0 : Int32), xr0, (xr0 + xr1)]) :: (xk, OA Z .int [y0, y1, y2, y3, y4, y5, y6, y7]) :: (b9, OA Z .int (List.set E13 (0 + j) wv)) :: (b6, OA Z .int [pa7, pb7, pc7, pd7]) :: (b3, OA Z .int [pa4, pb4, pc4, pd4]) :: []) := H22.front 3 rfl
      have H24 : OL n0 h18 ((bs18, OA Z .int [(0 : Int32), xr0, (xr0 + xr1)]) :: (bl18, OA Z .int [xz18, xm18]) :: (bt18, OA Z .int (List.take r0 [pa4, pb4, pc4, pd4] ++ List.take r1 [pa7, pb7, pc7, pd7])) :: (b17, OO Z "com/example/palamedes/palamedes/lda/NonzeroTopics" [("com/example/palamedes/palamedes/lda/NonzeroTopics", "starts", "[I", .ref bs18), ("com/example/palamedes/palamedes/lda/NonzeroTopics", "lengths", "[I", .ref bl18), ("com/example/palamedes/palamedes/lda/NonzeroTopics", "topics", "[I", .ref bt18)]) :: (xk, OA Z .int [y0, y1, y2, y3, y4, y5, y6, y7]) :: (b9, OA Z .int (List.set E13 (0 + j) wv)) :: (b6, OA Z .int [pa7, pb7, pc7, pd7]) :: (b3, OA Z .int [pa4, pb4, pc4, pd4]) :: []) := H23.front 3 rfl
      have H25 : OL n0 h18 ((b17, OO Z "com/example/palamedes/palamedes/lda/NonzeroTopics" [("com/example/palamedes/palamedes/lda/NonzeroTopics", "starts", "[I", .ref bs18), ("com/example/palamedes/palamedes/lda/NonzeroTopics", "lengths", "[I", .ref bl18), ("com/example/palamedes/palamedes/lda/NonzeroTopics", "topics", "[I", .ref bt18)]) :: (bs18, OA Z .int [(0 : Int32), xr0, (xr0 + xr1)]) :: (bl18, OA Z .int [xz18, xm18]) :: (bt18, OA Z .int (List.take r0 [pa4, pb4, pc4, pd4] ++ List.take r1 [pa7, pb7, pc7, pd7])) :: (xk, OA Z .int [y0, y1, y2, y3, y4, y5, y6, y7]) :: (b9, OA Z .int (List.set E13 (0 + j) wv)) :: (b6, OA Z .int [pa7, pb7, pc7, pd7]) :: (b3, OA Z .int [pa4, pb4, pc4, pd4]) :: []) := H24.front 3 rfl
      refine o_callV X18 H25 0 rfl at_355 (rest := []) (c_rem0 l Z a0 hw [] n0 _ X18.size b17 bs18 bl18 bt18 (0 : Int32) xr0 (xr0 + xr1) xz18 xm18 (List.take r0 [pa4, pb4, pc4, pd4] ++ List.take r1 [pa7, pb7, pc7, pd7]) ((xk, OA Z .int [y0, y1, y2, y3, y4, y5, y6, y7]) :: (b9, OA Z .int (List.set E13 (0 + j) wv)) :: (b6, OA Z .int [pa7, pb7, pc7, pd7]) :: (b3, OA Z .int [pa4, pb4, pc4, pd4]) :: []) H25 xtop 0 j mm rfl (by rw [hz18, hmm]) (by omega) (by rw [Nat.zero_add, v_get0 _ _ _ _ _ rfl h04 (by omega)]; exact hj) (fun k hk => by obtain ⟨v, qa, qb⟩ := hne k hk; exact ⟨v, by rw [Nat.zero_add, v_get0 _ _ _ _ _ rfl h04 (by omega)]; exact qa, qb⟩) wv (by rw [Nat.zero_add, v_get0 _ _ _ _ _ rfl h04 (by omega)]; exact hwv)) (hw _ (List.mem_of_getElem? (i := 38) rfl)) (hw _ (List.mem_of_getElem? (i := 39) rfl)) (hw _ (List.mem_of_getElem? (i := 41) rfl)) (hw _ (List.mem_of_getElem? (i := 40) rfl)) (hw _ (List.mem_of_getElem? (i := 14) rfl)) (hw _ (List.mem_of_getElem? (i := 42) rfl)) (by decide) 0 (by decide) (by decide) rfl [(.int (0 : Int32)), (.int xtop)] rfl pd_9 rfl rfl (Nat.le_of_eq rfl) 8 40 rfl rfl (by decide) (by decide) 358 rfl ?_
      rintro _ T21 h21 X21 ⟨rfl, H21⟩
      replace H21 : OL n0 h21 ((b17, OO Z "com/example/palamedes/palamedes/lda/NonzeroTopics" [("com/example/palamedes/palamedes/lda/NonzeroTopics", "starts", "[I", .ref bs18), ("com/example/palamedes/palamedes/lda/NonzeroTopics", "lengths", "[I", .ref bl18), ("com/example/palamedes/palamedes/lda/NonzeroTopics", "topics", "[I", .ref bt18)]) :: (bs18, OA Z .int [(0 : Int32), xr0, (xr0 + xr1)]) :: (bl18, OA Z .int [(xz18 - (1 : Int32)), xm18]) :: (bt18, OA Z .int (List.set (List.take r0 [pa4, pb4, pc4, pd4] ++ List.take r1 [pa7, pb7, pc7, pd7]) (0 + j) wv)) :: (xk, OA Z .int [y0, y1, y2, y3, y4, y5, y6, y7]) :: (b9, OA Z .int (List.set E13 (0 + j) wv)) :: (b6, OA Z .int [pa7, pb7, pc7, pd7]) :: (b3, OA Z .int [pa4, pb4, pc4, pd4]) :: []) := H21
      show OE p e (FE s room_1) below n0 Q' T21 (mkF m 358 #[.val (.int xa), .val (.int xb), .val (.int xc), .val (.ref xk), .val (.int (0 : Int32)), .val (.int xtop), .val (.int xix), .val (.int xr0), .val (.int xr1), .val (.ref b3), .val (.int xn4), .val (.ref b6), .val (.int xn7), .val (.ref b9), .val (.ref b3), .val (.int xn4), .val (.int (0 : Int32)), .val (.int xj), .val (.int (xn4 - (1 : Int32))), .val (.int xn7), .val (.ref b17), .unset] [])
      refine o_iload X21 at_358 rfl 360 rfl ?_
      refine o_iload X21 at_360 rfl 362 rfl ?_
      refine o_iadd X21 at_362 363 rfl ?_
      refine o_istore X21 at_363 #[.val (.int xa), .val (.int xb), .val (.int xc), .val (.ref xk), .val (.int (0 : Int32)), .val (.int xtop), .val (.int xix), .val (.int xr0), .val (.int xr1), .val (.ref b3), .val (.int xn4), .val (.ref b6), .val (.int xn7), .val (.ref b9), .val (.ref b3), .val (.int xn4), .val (.int (0 : Int32)), .val (.int xj), .val (.int (xn4 - (1 : Int32))), .val (.int xn7), .val (.ref b17), .val (.int (xr0 + xr1))] rfl 365 rfl ?_
      refine o_aload X21 at_365 rfl rfl 367 rfl ?_
      refine o_getF X21 H21 0 rfl at_367 2 rfl (hw _ (List.mem_of_getElem? (i := 43) rfl)) 370 rfl ?_
      intro T26 X26
      refine o_arraylength X26 H21 3 rfl at_370 (xr0 + xr1) (v_al _ _ _ _ _ _ _ _ rfl rfl h04 h14 hx0 hx1) 371 rfl ?_
      refine o_iload X26 at_371 rfl 373 rfl ?_
      refine o_icmpEq X26 at_373 378 376 (by decide) (by decide) rfl ?_ (fun q => by exfalso; exact q rfl)
      intro hc373
      refine o_aload X26 at_378 rfl rfl 380 rfl ?_
      refine o_getF X26 H21 0 rfl at_380 2 rfl (hw _ (List.mem_of_getElem? (i := 43) rfl)) 383 rfl ?_
      intro T27 X27
      refine o_aload X27 at_383 rfl rfl 385 rfl ?_
      refine o_iload X27 at_385 rfl 387 rfl ?_
      have H29 : OL n0 h21 ((b9, OA Z .int (List.set E13 (0 + j) wv)) :: (b17, OO Z "com/example/palamedes/palamedes/lda/NonzeroTopics" [("com/example/palamedes/palamedes/lda/NonzeroTopics", "starts", "[I", .ref bs18), ("com/example/palamedes/palamedes/lda/NonzeroTopics", "lengths", "[I", .ref bl18), ("com/example/palamedes/palamedes/lda/NonzeroTopics", "topics", "[I", .ref bt18)]) :: (bs18, OA Z .int [(0 : Int32), xr0, (xr0 + xr1)]) :: (bl18, OA Z .int [(xz18 - (1 : Int32)), xm18]) :: (bt18, OA Z .int (List.set (List.take r0 [pa4, pb4, pc4, pd4] ++ List.take r1 [pa7, pb7, pc7, pd7]) (0 + j) wv)) :: (xk, OA Z .int [y0, y1, y2, y3, y4, y5, y6, y7]) :: (b6, OA Z .int [pa7, pb7, pc7, pd7]) :: (b3, OA Z .int [pa4, pb4, pc4, pd4]) :: []) := H21.front 5 rfl
      have H30 : OL n0 h21 ((bt18, OA Z .int (List.set (List.take r0 [pa4, pb4, pc4, pd4] ++ List.take r1 [pa7, pb7, pc7, pd7]) (0 + j) wv)) :: (b9, OA Z .int (List.set E13 (0 + j) wv)) :: (b17, OO Z "com/example/palamedes/palamedes/lda/NonzeroTopics" [("com/example/palamedes/palamedes/lda/NonzeroTopics", "starts", "[I", .ref bs18), ("com/example/palamedes/palamedes/lda/NonzeroTopics", "lengths", "[I", .ref bl18), ("com/example/palamedes/palamedes/lda/NonzeroTopics", "topics", "[I", .ref bt18)]) :: (bs18, OA Z .int [(0 : Int32), xr0, (xr0 + xr1)]) :: (bl18, OA Z .int [(xz18 - (1 : Int32)), xm18]) :: (xk, OA Z .int [y0, y1, y2, y3, y4, y5, y6, y7]) :: (b6, OA Z .int [pa7, pb7, pc7, pd7]) :: (b3, OA Z .int [pa4, pb4, pc4, pd4]) :: []) := H29.front 4 rfl
      refine o_callS X27 at_387 (rest := []) (c_same l Z a0 hw [] n0 _ X27.size bt18 b9 (xr0 + xr1) (List.set (List.take r0 [pa4, pb4, pc4, pd4] ++ List.take r1 [pa7, pb7, pc7, pd7]) (0 + j) wv) (List.set E13 (0 + j) wv) ((b17, OO Z "com/example/palamedes/palamedes/lda/NonzeroTopics" [("com/example/palamedes/palamedes/lda/NonzeroTopics", "starts", "[I", .ref bs18), ("com/example/palamedes/palamedes/lda/NonzeroTopics", "lengths", "[I", .ref bl18), ("com/example/palamedes/palamedes/lda/NonzeroTopics", "topics", "[I", .ref bt18)]) :: (bs18, OA Z .int [(0 : Int32), xr0, (xr0 + xr1)]) :: (bl18, OA Z .int [(xz18 - (1 : Int32)), xm18]) :: (xk, OA Z .int [y0, y1, y2, y3, y4, y5, y6, y7]) :: (b6, OA Z .int [pa7, pb7, pc7, pd7]) :: (b3, OA Z .int [pa4, pb4, pc4, pd4]) :: []) H30 (r0 + r1) (v_ad xr0 xr1 r0 r1 hx0 hx1 (by omega) (by omega)) (by omega) (v_same _ _ _ _ _ (v_tlen _ _ _ _ rfl rfl h04 h14) (by omega) (v_E [pa4, pb4, pc4, pd4] [pa7, pb7, pc7, pd7] _ _ r0 r1 _ _ rfl rfl h04 h14 hc0 hc1 (by have q := v_zero y0 y1 y2 y3; rw [hF4.1] at q; exact q) (by have q := v_zero y4 y5 y6 y7; rw [hF7.1] at q; exact q) hP10 hP13))) (hw _ (List.mem_of_getElem? (i := 44) rfl)) (hw _ (List.mem_of_getElem? (i := 45) rfl)) (hw _ (List.mem_of_getElem? (i := 7) rfl)) (hw _ (List.mem_of_getElem? (i := 46) rfl)) (by decide) 0 (by decide) (by decide) rfl [(.ref bt18), (.ref b9), (.int (xr0 + xr1))] rfl pd_10 rfl rfl (Nat.le_of_eq rfl) 8 40 rfl rfl (by decide) (by decide) 390 rfl ?_
      rintro _ T28 _ X28 ⟨rfl, rfl⟩
      show OE p e (FE s room_1) below n0 Q' T28 (mkF m 390 #[.val (.int xa), .val (.int xb), .val (.int xc), .val (.ref xk), .val (.int (0 : Int32)), .val (.int xtop), .val (.int xix), .val (.int xr0), .val (.int xr1), .val (.ref b3), .val (.int xn4), .val (.ref b6), .val (.int xn7), .val (.ref b9), .val (.ref b3), .val (.int xn4), .val (.int (0 : Int32)), .val (.int xj), .val (.int (xn4 - (1 : Int32))), .val (.int xn7), .val (.ref b17), .val (.int (xr0 + xr1))] [(.int (1 : Int32))])
      refine o_ifEq X28 at_390 439 393 (by decide) (by decide) rfl (fun q => by exfalso; exact absurd q (by decide)) ?_
      intro hc390
      refine o_aload X28 at_393 rfl rfl 395 rfl ?_
      refine o_iconst (v := (0 : Int32)) X28 at_395 rfl 396 rfl ?_
      have H32 : OL n0 h21 ((bl18, OA Z .int [(xz18 - (1 : Int32)), xm18]) :: (bt18, OA Z .int (List.set (List.take r0 [pa4, pb4, pc4, pd4] ++ List.take r1 [pa7, pb7, pc7, pd7]) (0 + j) wv)) :: (b9, OA Z .int (List.set E13 (0 + j) wv)) :: (b17, OO Z "com/example/palamedes/palamedes/lda/NonzeroTopics" [("com/example/palamedes/palamedes/lda/NonzeroTopics", "starts", "[I", .ref bs18), ("com/example/palamedes/palamedes/lda/NonzeroTopics", "lengths", "[I", .ref bl18), ("com/example/palamedes/palamedes/lda/NonzeroTopics", "topics", "[I", .ref bt18)]) :: (bs18, OA Z .int [(0 : Int32), xr0, (xr0 + xr1)]) :: (xk, OA Z .int [y0, y1, y2, y3, y4, y5, y6, y7]) :: (b6, OA Z .int [pa7, pb7, pc7, pd7]) :: (b3, OA Z .int [pa4, pb4, pc4, pd4]) :: []) := H30.front 4 rfl
      have H33 : OL n0 h21 ((bs18, OA Z .int [(0 : Int32), xr0, (xr0 + xr1)]) :: (bl18, OA Z .int [(xz18 - (1 : Int32)), xm18]) :: (bt18, OA Z .int (List.set (List.take r0 [pa4, pb4, pc4, pd4] ++ List.take r1 [pa7, pb7, pc7, pd7]) (0 + j) wv)) :: (b9, OA Z .int (List.set E13 (0 + j) wv)) :: (b17, OO Z "com/example/palamedes/palamedes/lda/NonzeroTopics" [("com/example/palamedes/palamedes/lda/NonzeroTopics", "starts", "[I", .ref bs18), ("com/example/palamedes/palamedes/lda/NonzeroTopics", "lengths", "[I", .ref bl18), ("com/example/palamedes/palamedes/lda/NonzeroTopics", "topics", "[I", .ref bt18)]) :: (xk, OA Z .int [y0, y1, y2, y3, y4, y5, y6, y7]) :: (b6, OA Z .int [pa7, pb7, pc7, pd7]) :: (b3, OA Z .int [pa4, pb4, pc4, pd4]) :: []) := H32.front 4 rfl
      have H34 : OL n0 h21 ((b17, OO Z "com/example/palamedes/palamedes/lda/NonzeroTopics" [("com/example/palamedes/palamedes/lda/NonzeroTopics", "starts", "[I", .ref bs18), ("com/example/palamedes/palamedes/lda/NonzeroTopics", "lengths", "[I", .ref bl18), ("com/example/palamedes/palamedes/lda/NonzeroTopics", "topics", "[I", .ref bt18)]) :: (bs18, OA Z .int [(0 : Int32), xr0, (xr0 + xr1)]) :: (bl18, OA Z .int [(xz18 - (1 : Int32)), xm18]) :: (bt18, OA Z .int (List.set (List.take r0 [pa4, pb4, pc4, pd4] ++ List.take r1 [pa7, pb7, pc7, pd7]) (0 + j) wv)) :: (b9, OA Z .int (List.set E13 (0 + j) wv)) :: (xk, OA Z .int [y0, y1, y2, y3, y4, y5, y6, y7]) :: (b6, OA Z .int [pa7, pb7, pc7, pd7]) :: (b3, OA Z .int [pa4, pb4, pc4, pd4]) :: []) := H33.front 4 rfl
      refine o_callV X28 H34 0 rfl at_396 (rest := []) (c_len0 l Z a0 hw [] n0 _ X28.size b17 bs18 bl18 bt18 (0 : Int32) xr0 (xr0 + xr1) (xz18 - (1 : Int32)) xm18 (List.set (List.take r0 [pa4, pb4, pc4, pd4] ++ List.take r1 [pa7, pb7, pc7, pd7]) (0 + j) wv) ((b9, OA Z .int (List.set E13 (0 + j) wv)) :: (xk, OA Z .int [y0, y1, y2, y3, y4, y5, y6, y7]) :: (b6, OA Z .int [pa7, pb7, pc7, pd7]) :: (b3, OA Z .int [pa4, pb4, pc4, pd4]) :: []) H34) (hw _ (List.mem_of_getElem? (i := 47) rfl)) (hw _ (List.mem_of_getElem? (i := 48) rfl)) (hw _ (List.mem_of_getElem? (i := 50) rfl)) (hw _ (List.mem_of_getElem? (i := 49) rfl)) (hw _ (List.mem_of_getElem? (i := 14) rfl)) (hw _ (List.mem_of_getElem? (i := 51) rfl)) (by decide) 0 (by decide) (by decide) rfl [(.int (0 : Int32))] rfl pd_11 rfl rfl (Nat.le_of_eq rfl) 8 40 rfl rfl (by decide) (by decide) 399 rfl ?_
      rintro _ T31 _ X31 ⟨rfl, rfl⟩
      show OE p e (FE s room_1) below n0 Q' T31 (mkF m 399 #[.val (.int xa), .val (.int xb), .val (.int xc), .val (.ref xk), .val (.int (0 : Int32)), .val (.int xtop), .val (.int xix), .val (.int xr0), .val (.int xr1), .val (.ref b3), .val (.int xn4), .val (.ref b6), .val (.int xn7), .val (.ref b9), .val (.ref b3), .val (.int xn4), .val (.int (0 : Int32)), .val (.int xj), .val (.int (xn4 - (1 : Int32))), .val (.int xn7), .val (.ref b17), .val (.int (xr0 + xr1))] [(.int (xz18 - (1 : Int32)))])
      refine o_iload X31 at_399 rfl 401 rfl ?_
      refine o_icmpNe X31 at_401 439 404 (by decide) (by decide) rfl (fun q => by exfalso; exact q (by rw [ez])) ?_
      intro hc401
      refine o_aload X31 at_404 rfl rfl 406 rfl ?_
      refine o_iconst (v := (1 : Int32)) X31 at_406 rfl 407 rfl ?_
      have H36 : OL n0 h21 ((bt18, OA Z .int (List.set (List.take r0 [pa4, pb4, pc4, pd4] ++ List.take r1 [pa7, pb7, pc7, pd7]) (0 + j) wv)) :: (b17, OO Z "com/example/palamedes/palamedes/lda/NonzeroTopics" [("com/example/palamedes/palamedes/lda/NonzeroTopics", "starts", "[I", .ref bs18), ("com/example/palamedes/palamedes/lda/NonzeroTopics", "lengths", "[I", .ref bl18), ("com/example/palamedes/palamedes/lda/NonzeroTopics", "topics", "[I", .ref bt18)]) :: (bs18, OA Z .int [(0 : Int32), xr0, (xr0 + xr1)]) :: (bl18, OA Z .int [(xz18 - (1 : Int32)), xm18]) :: (b9, OA Z .int (List.set E13 (0 + j) wv)) :: (xk, OA Z .int [y0, y1, y2, y3, y4, y5, y6, y7]) :: (b6, OA Z .int [pa7, pb7, pc7, pd7]) :: (b3, OA Z .int [pa4, pb4, pc4, pd4]) :: []) := H34.front 3 rfl
      have H37 : OL n0 h21 ((bl18, OA Z .int [(xz18 - (1 : Int32)), xm18]) :: (bt18, OA Z .int (List.set (List.take r0 [pa4, pb4, pc4, pd4] ++ List.take r1 [pa7, pb7, pc7, pd7]) (0 + j) wv)) :: (b17, OO Z "com/example/palamedes/palamedes/lda/NonzeroTopics" [("com/example/palamedes/palamedes/lda/NonzeroTopics", "starts", "[I", .ref bs18), ("com/example/palamedes/palamedes/lda/NonzeroTopics", "lengths", "[I", .ref bl18), ("com/example/palamedes/palamedes/lda/NonzeroTopics", "topics", "[I", .ref bt18)]) :: (bs18, OA Z .int [(0 : Int32), xr0, (xr0 + xr1)]) :: (b9, OA Z .int (List.set E13 (0 + j) wv)) :: (xk, OA Z .int [y0, y1, y2, y3, y4, y5, y6, y7]) :: (b6, OA Z .int [pa7, pb7, pc7, pd7]) :: (b3, OA Z .int [pa4, pb4, pc4, pd4]) :: []) := H36.front 3 rfl
      have H38 : OL n0 h21 ((bs18, OA Z .int [(0 : Int32), xr0, (xr0 + xr1)]) :: (bl18, OA Z .int [(xz18 - (1 : Int32)), xm18]) :: (bt18, OA Z .int (List.set (List.take r0 [pa4, pb4, pc4, pd4] ++ List.take r1 [pa7, pb7, pc7, pd7]) (0 + j) wv)) :: (b17, OO Z "com/example/palamedes/palamedes/lda/NonzeroTopics" [("com/example/palamedes/palamedes/lda/NonzeroTopics", "starts", "[I", .ref bs18), ("com/example/palamedes/palamedes/lda/NonzeroTopics", "lengths", "[I", .ref bl18), ("com/example/palamedes/palamedes/lda/NonzeroTopics", "topics", "[I", .ref bt18)]) :: (b9, OA Z .int (List.set E13 (0 + j) wv)) :: (xk, OA Z .int [y0, y1, y2, y3, y4, y5, y6, y7]) :: (b6, OA Z .int [pa7, pb7, pc7, pd7]) :: (b3, OA Z .int [pa4, pb4, pc4, pd4]) :: []) := H37.front 3 rfl
      have H39 : OL n0 h21 ((b17, OO Z "com/example/palamedes/palamedes/lda/NonzeroTopics" [("com/example/palamedes/palamedes/lda/NonzeroTopics", "starts", "[I", .ref bs18), ("com/example/palamedes/palamedes/lda/NonzeroTopics", "lengths", "[I", .ref bl18), ("com/example/palamedes/palamedes/lda/NonzeroTopics", "topics", "[I", .ref bt18)]) :: (bs18, OA Z .int [(0 : Int32), xr0, (xr0 + xr1)]) :: (bl18, OA Z .int [(xz18 - (1 : Int32)), xm18]) :: (bt18, OA Z .int (List.set (List.take r0 [pa4, pb4, pc4, pd4] ++ List.take r1 [pa7, pb7, pc7, pd7]) (0 + j) wv)) :: (b9, OA Z .int (List.set E13 (0 + j) wv)) :: (xk, OA Z .int [y0, y1, y2, y3, y4, y5, y6, y7]) :: (b6, OA Z .int [pa7, pb7, pc7, pd7]) :: (b3, OA Z .int [pa4, pb4, pc4, pd4]) :: []) := H38.front 3 rfl
      refine o_callV X31 H39 0 rfl at_407 (rest := []) (c_len1 l Z a0 hw [] n0 _ X31.size b17 bs18 bl18 bt18 (0 : Int32) xr0 (xr0 + xr1) (xz18 - (1 : Int32)) xm18 (List.set (List.take r0 [pa4, pb4, pc4, pd4] ++ List.take r1 [pa7, pb7, pc7, pd7]) (0 + j) wv) ((b9, OA Z .int (List.set E13 (0 + j) wv)) :: (xk, OA Z .int [y0, y1, y2, y3, y4, y5, y6, y7]) :: (b6, OA Z .int [pa7, pb7, pc7, pd7]) :: (b3, OA Z .int [pa4, pb4, pc4, pd4]) :: []) H39) (hw _ (List.mem_of_getElem? (i := 47) rfl)) (hw _ (List.mem_of_getElem? (i := 48) rfl)) (hw _ (List.mem_of_getElem? (i := 50) rfl)) (hw _ (List.mem_of_getElem? (i := 49) rfl)) (hw _ (List.mem_of_getElem? (i := 14) rfl)) (hw _ (List.mem_of_getElem? (i := 51) rfl)) (by decide) 0 (by decide) (by decide) rfl [(.int (1 : Int32))] rfl pd_11 rfl rfl (Nat.le_of_eq rfl) 8 40 rfl rfl (by decide) (by decide) 410 rfl ?_
      rintro _ T35 _ X35 ⟨rfl, rfl⟩
      show OE p e (FE s room_1) below n0 Q' T35 (mkF m 410 #[.val (.int xa), .val (.int xb), .val (.int xc), .val (.ref xk), .val (.int (0 : Int32)), .val (.int xtop), .val (.int xix), .val (.int xr0), .val (.int xr1), .val (.ref b3), .val (.int xn4), .val (.ref b6), .val (.int xn7), .val (.ref b9), .val (.ref b3), .val (.int xn4), .val (.int (0 : Int32)), .val (.int xj), .val (.int (xn4 - (1 : Int32))), .val (.int xn7), .val (.ref b17), .val (.int (xr0 + xr1))] [(.int xm18)])
      refine o_iload X35 at_410 rfl 412 rfl ?_
      refine o_icmpNe X35 at_412 439 415 (by decide) (by decide) rfl (fun q => by exfalso; exact q (by rw [em])) ?_
      intro hc412
      refine o_aload X35 at_415 rfl rfl 417 rfl ?_
      refine o_iconst (v := (0 : Int32)) X35 at_417 rfl 418 rfl ?_
      have H41 : OL n0 h21 ((bt18, OA Z .int (List.set (List.take r0 [pa4, pb4, pc4, pd4] ++ List.take r1 [pa7, pb7, pc7, pd7]) (0 + j) wv)) :: (b17, OO Z "com/example/palamedes/palamedes/lda/NonzeroTopics" [("com/example/palamedes/palamedes/lda/NonzeroTopics", "starts", "[I", .ref bs18), ("com/example/palamedes/palamedes/lda/NonzeroTopics", "lengths", "[I", .ref bl18), ("com/example/palamedes/palamedes/lda/NonzeroTopics", "topics", "[I", .ref bt18)]) :: (bs18, OA Z .int [(0 : Int32), xr0, (xr0 + xr1)]) :: (bl18, OA Z .int [(xz18 - (1 : Int32)), xm18]) :: (b9, OA Z .int (List.set E13 (0 + j) wv)) :: (xk, OA Z .int [y0, y1, y2, y3, y4, y5, y6, y7]) :: (b6, OA Z .int [pa7, pb7, pc7, pd7]) :: (b3, OA Z .int [pa4, pb4, pc4, pd4]) :: []) := H39.front 3 rfl
      have H42 : OL n0 h21 ((bl18, OA Z .int [(xz18 - (1 : Int32)), xm18]) :: (bt18, OA Z .int (List.set (List.take r0 [pa4, pb4, pc4, pd4] ++ List.take r1 [pa7, pb7, pc7, pd7]) (0 + j) wv)) :: (b17, OO Z "com/example/palamedes/palamedes/lda/NonzeroTopics" [("com/example/palamedes/palamedes/lda/NonzeroTopics", "starts", "[I", .ref bs18), ("com/example/palamedes/palamedes/lda/NonzeroTopics", "lengths", "[I", .ref bl18), ("com/example/palamedes/palamedes/lda/NonzeroTopics", "topics", "[I", .ref bt18)]) :: (bs18, OA Z .int [(0 : Int32), xr0, (xr0 + xr1)]) :: (b9, OA Z .int (List.set E13 (0 + j) wv)) :: (xk, OA Z .int [y0, y1, y2, y3, y4, y5, y6, y7]) :: (b6, OA Z .int [pa7, pb7, pc7, pd7]) :: (b3, OA Z .int [pa4, pb4, pc4, pd4]) :: []) := H41.front 3 rfl
      have H43 : OL n0 h21 ((bs18, OA Z .int [(0 : Int32), xr0, (xr0 + xr1)]) :: (bl18, OA Z .int [(xz18 - (1 : Int32)), xm18]) :: (bt18, OA Z .int (List.set (List.take r0 [pa4, pb4, pc4, pd4] ++ List.take r1 [pa7, pb7, pc7, pd7]) (0 + j) wv)) :: (b17, OO Z "com/example/palamedes/palamedes/lda/NonzeroTopics" [("com/example/palamedes/palamedes/lda/NonzeroTopics", "starts", "[I", .ref bs18), ("com/example/palamedes/palamedes/lda/NonzeroTopics", "lengths", "[I", .ref bl18), ("com/example/palamedes/palamedes/lda/NonzeroTopics", "topics", "[I", .ref bt18)]) :: (b9, OA Z .int (List.set E13 (0 + j) wv)) :: (xk, OA Z .int [y0, y1, y2, y3, y4, y5, y6, y7]) :: (b6, OA Z .int [pa7, pb7, pc7, pd7]) :: (b3, OA Z .int [pa4, pb4, pc4, pd4]) :: []) := H42.front 3 rfl
      have H44 : OL n0 h21 ((b17, OO Z "com/example/palamedes/palamedes/lda/NonzeroTopics" [("com/example/palamedes/palamedes/lda/NonzeroTopics", "starts", "[I", .ref bs18), ("com/example/palamedes/palamedes/lda/NonzeroTopics", "lengths", "[I", .ref bl18), ("com/example/palamedes/palamedes/lda/NonzeroTopics", "topics", "[I", .ref bt18)]) :: (bs18, OA Z .int [(0 : Int32), xr0, (xr0 + xr1)]) :: (bl18, OA Z .int [(xz18 - (1 : Int32)), xm18]) :: (bt18, OA Z .int (List.set (List.take r0 [pa4, pb4, pc4, pd4] ++ List.take r1 [pa7, pb7, pc7, pd7]) (0 + j) wv)) :: (b9, OA Z .int (List.set E13 (0 + j) wv)) :: (xk, OA Z .int [y0, y1, y2, y3, y4, y5, y6, y7]) :: (b6, OA Z .int [pa7, pb7, pc7, pd7]) :: (b3, OA Z .int [pa4, pb4, pc4, pd4]) :: []) := H43.front 3 rfl
      refine o_callV X35 H44 0 rfl at_418 (rest := []) (c_sta0 l Z a0 hw [] n0 _ X35.size b17 bs18 bl18 bt18 (0 : Int32) xr0 (xr0 + xr1) (xz18 - (1 : Int32)) xm18 (List.set (List.take r0 [pa4, pb4, pc4, pd4] ++ List.take r1 [pa7, pb7, pc7, pd7]) (0 + j) wv) ((b9, OA Z .int (List.set E13 (0 + j) wv)) :: (xk, OA Z .int [y0, y1, y2, y3, y4, y5, y6, y7]) :: (b6, OA Z .int [pa7, pb7, pc7, pd7]) :: (b3, OA Z .int [pa4, pb4, pc4, pd4]) :: []) H44) (hw _ (List.mem_of_getElem? (i := 52) rfl)) (hw _ (List.mem_of_getElem? (i := 53) rfl)) (hw _ (List.mem_of_getElem? (i := 55) rfl)) (hw _ (List.mem_of_getElem? (i := 54) rfl)) (hw _ (List.mem_of_getElem? (i := 14) rfl)) (hw _ (List.mem_of_getElem? (i := 56) rfl)) (by decide) 0 (by decide) (by decide) rfl [(.int (0 : Int32))] rfl pd_12 rfl rfl (Nat.le_of_eq rfl) 8 40 rfl rfl (by decide) (by decide) 421 rfl ?_
      rintro _ T40 _ X40 ⟨rfl, rfl⟩
      show OE p e (FE s room_1) below n0 Q' T40 (mkF m 421 #[.val (.int xa), .val (.int xb), .val (.int xc), .val (.ref xk), .val (.int (0 : Int32)), .val (.int xtop), .val (.int xix), .val (.int xr0), .val (.int xr1), .val (.ref b3), .val (.int xn4), .val (.ref b6), .val (.int xn7), .val (.ref b9), .val (.ref b3), .val (.int xn4), .val (.int (0 : Int32)), .val (.int xj), .val (.int (xn4 - (1 : Int32))), .val (.int xn7), .val (.ref b17), .val (.int (xr0 + xr1))] [(.int (0 : Int32))])
      refine o_ifNe X40 at_421 439 424 (by decide) (by decide) rfl (fun q => by exfalso; exact absurd q (by decide)) ?_
      intro hc421
      refine o_aload X40 at_424 rfl rfl 426 rfl ?_
      refine o_iconst (v := (1 : Int32)) X40 at_426 rfl 427 rfl ?_
      have H46 : OL n0 h21 ((bt18, OA Z .int (List.set (List.take r0 [pa4, pb4, pc4, pd4] ++ List.take r1 [pa7, pb7, pc7, pd7]) (0 + j) wv)) :: (b17, OO Z "com/example/palamedes/palamedes/lda/NonzeroTopics" [("com/example/palamedes/palamedes/lda/NonzeroTopics", "starts", "[I", .ref bs18), ("com/example/palamedes/palamedes/lda/NonzeroTopics", "lengths", "[I", .ref bl18), ("com/example/palamedes/palamedes/lda/NonzeroTopics", "topics", "[I", .ref bt18)]) :: (bs18, OA Z .int [(0 : Int32), xr0, (xr0 + xr1)]) :: (bl18, OA Z .int [(xz18 - (1 : Int32)), xm18]) :: (b9, OA Z .int (List.set E13 (0 + j) wv)) :: (xk, OA Z .int [y0, y1, y2, y3, y4, y5, y6, y7]) :: (b6, OA Z .int [pa7, pb7, pc7, pd7]) :: (b3, OA Z .int [pa4, pb4, pc4, pd4]) :: []) := H44.front 3 rfl
      have H47 : OL n0 h21 ((bl18, OA Z .int [(xz18 - (1 : Int32)), xm18]) :: (bt18, OA Z .int (List.set (List.take r0 [pa4, pb4, pc4, pd4] ++ List.take r1 [pa7, pb7, pc7, pd7]) (0 + j) wv)) :: (b17, OO Z "com/example/palamedes/palamedes/lda/NonzeroTopics" [("com/example/palamedes/palamedes/lda/NonzeroTopics", "starts", "[I", .ref bs18), ("com/example/palamedes/palamedes/lda/NonzeroTopics", "lengths", "[I", .ref bl18), ("com/example/palamedes/palamedes/lda/NonzeroTopics", "topics", "[I", .ref bt18)]) :: (bs18, OA Z .int [(0 : Int32), xr0, (xr0 + xr1)]) :: (b9, OA Z .int (List.set E13 (0 + j) wv)) :: (xk, OA Z .int [y0, y1, y2, y3, y4, y5, y6, y7]) :: (b6, OA Z .int [pa7, pb7, pc7, pd7]) :: (b3, OA Z .int [pa4, pb4, pc4, pd4]) :: []) := H46.front 3 rfl
      have H48 : OL n0 h21 ((bs18, OA Z .int [(0 : Int32), xr0, (xr0 + xr1)]) :: (bl18, OA Z .int [(xz18 - (1 : Int32)), xm18]) :: (bt18, OA Z .int (List.set (List.take r0 [pa4, pb4, pc4, pd4] ++ List.take r1 [pa7, pb7, pc7, pd7]) (0 + j) wv)) :: (b17, OO Z "com/example/palamedes/palamedes/lda/NonzeroTopics" [("com/example/palamedes/palamedes/lda/NonzeroTopics", "starts", "[I", .ref bs18), ("com/example/palamedes/palamedes/lda/NonzeroTopics", "lengths", "[I", .ref bl18), ("com/example/palamedes/palamedes/lda/NonzeroTopics", "topics", "[I", .ref bt18)]) :: (b9, OA Z .int (List.set E13 (0 + j) wv)) :: (xk, OA Z .int [y0, y1, y2, y3, y4, y5, y6, y7]) :: (b6, OA Z .int [pa7, pb7, pc7, pd7]) :: (b3, OA Z .int [pa4, pb4, pc4, pd4]) :: []) := H47.front 3 rfl
      have H49 : OL n0 h21 ((b17, OO Z "com/example/palamedes/palamedes/lda/NonzeroTopics" [("com/example/palamedes/palamedes/lda/NonzeroTopics", "starts", "[I", .ref bs18), ("com/example/palamedes/palamedes/lda/NonzeroTopics", "lengths", "[I", .ref bl18), ("com/example/palamedes/palamedes/lda/NonzeroTopics", "topics", "[I", .ref bt18)]) :: (bs18, OA Z .int [(0 : Int32), xr0, (xr0 + xr1)]) :: (bl18, OA Z .int [(xz18 - (1 : Int32)), xm18]) :: (bt18, OA Z .int (List.set (List.take r0 [pa4, pb4, pc4, pd4] ++ List.take r1 [pa7, pb7, pc7, pd7]) (0 + j) wv)) :: (b9, OA Z .int (List.set E13 (0 + j) wv)) :: (xk, OA Z .int [y0, y1, y2, y3, y4, y5, y6, y7]) :: (b6, OA Z .int [pa7, pb7, pc7, pd7]) :: (b3, OA Z .int [pa4, pb4, pc4, pd4]) :: []) := H48.front 3 rfl
      refine o_callV X40 H49 0 rfl at_427 (rest := []) (c_sta1 l Z a0 hw [] n0 _ X40.size b17 bs18 bl18 bt18 (0 : Int32) xr0 (xr0 + xr1) (xz18 - (1 : Int32)) xm18 (List.set (List.take r0 [pa4, pb4, pc4, pd4] ++ List.take r1 [pa7, pb7, pc7, pd7]) (0 + j) wv) ((b9, OA Z .int (List.set E13 (0 + j) wv)) :: (xk, OA Z .int [y0, y1, y2, y3, y4, y5, y6, y7]) :: (b6, OA Z .int [pa7, pb7, pc7, pd7]) :: (b3, OA Z .int [pa4, pb4, pc4, pd4]) :: []) H49) (hw _ (List.mem_of_getElem? (i := 52) rfl)) (hw _ (List.mem_of_getElem? (i := 53) rfl)) (hw _ (List.mem_of_getElem? (i := 55) rfl)) (hw _ (List.mem_of_getElem? (i := 54) rfl)) (hw _ (List.mem_of_getElem? (i := 14) rfl)) (hw _ (List.mem_of_getElem? (i := 56) rfl)) (by decide) 0 (by decide) (by decide) rfl [(.int (1 : Int32))] rfl pd_12 rfl rfl (Nat.le_of_eq rfl) 8 40 rfl rfl (by decide) (by decide) 430 rfl ?_
      rintro _ T45 _ X45 ⟨rfl, rfl⟩
      show OE p e (FE s room_1) below n0 Q' T45 (mkF m 430 #[.val (.int xa), .val (.int xb), .val (.int xc), .val (.ref xk), .val (.int (0 : Int32)), .val (.int xtop), .val (.int xix), .val (.int xr0), .val (.int xr1), .val (.ref b3), .val (.int xn4), .val (.ref b6), .val (.int xn7), .val (.ref b9), .val (.ref b3), .val (.int xn4), .val (.int (0 : Int32)), .val (.int xj), .val (.int (xn4 - (1 : Int32))), .val (.int xn7), .val (.ref b17), .val (.int (xr0 + xr1))] [(.int xr0)])
      refine o_iload X45 at_430 rfl 432 rfl ?_
      refine o_icmpNe X45 at_432 439 435 (by decide) (by decide) rfl (fun q => by exfalso; exact q rfl) ?_
      intro hc432
      refine o_iconst (v := (1 : Int32)) X45 at_435 rfl 436 rfl ?_
      refine o_goto X45 at_436 440 (by decide) (by decide) ?_
      exact o_retZ X45 at_440 (by decide) (by decide) (hQ _ _ rfl)
    have hj4 : j = 0 ∨ j = 1 ∨ j = 2 ∨ j = 3 := by omega
    rcases hj4 with rfl | rfl | rfl | rfl
    · have hp : pa4 = xtop := Option.some.inj hj
      refine o_aload X13 at_248 rfl rfl 250 rfl ?_
      refine o_iconst (v := (0 : Int32)) X13 at_250 rfl 251 rfl ?_
      refine o_iaload X13 H13 2 rfl at_251 0 rfl pa4 rfl 252 rfl ?_
      refine o_iload X13 at_252 rfl 254 rfl ?_
      refine o_icmpNe X13 at_254 261 257 (by decide) (by decide) rfl (fun q => by exfalso; exact q hp) ?_
      intro hc254
      refine o_iconst (v := (0 : Int32)) X13 at_257 rfl 258 rfl ?_
      refine o_goto X13 at_258 288 (by decide) (by decide) ?_
      refine o_istore X13 at_288 #[.val (.int xa), .val (.int xb), .val (.int xc), .val (.ref xk), .val (.int (0 : Int32)), .val (.int xtop), .val (.int xix), .val (.int xr0), .val (.int xr1), .val (.ref b3), .val (.int xn4), .val (.ref b6), .val (.int xn7), .val (.ref b9), .val (.ref b3), .val (.int xn4), .val (.int (0 : Int32)), .val (.int (0 : Int32)), .unset, .unset, .unset, .unset] rfl 290 rfl ?_
      exact J290 _ _ _ X13 H13 rfl
    · have hp : pb4 = xtop := Option.some.inj hj
      have hn_0 : ¬ pa4 = xtop := fun q => hne 0 (by decide) (congrArg some q)
      refine o_aload X13 at_248 rfl rfl 250 rfl ?_
      refine o_iconst (v := (0 : Int32)) X13 at_250 rfl 251 rfl ?_
      refine o_iaload X13 H13 2 rfl at_251 0 rfl pa4 rfl 252 rfl ?_
      refine o_iload X13 at_252 rfl 254 rfl ?_
      refine o_icmpNe X13 at_254 261 257 (by decide) (by decide) rfl ?_ (fun q => by exfalso; exact hn_0 q)
      intro hc254
      refine o_aload X13 at_261 rfl rfl 263 rfl ?_
      refine o_iconst (v := (1 : Int32)) X13 at_263 rfl 264 rfl ?_
      refine o_iaload X13 H13 2 rfl at_264 1 rfl pb4 rfl 265 rfl ?_
      refine o_iload X13 at_265 rfl 267 rfl ?_
      refine o_icmpNe X13 at_267 274 270 (by decide) (by decide) rfl (fun q => by exfalso; exact q hp) ?_
      intro hc267
      refine o_iconst (v := (1 : Int32)) X13 at_270 rfl 271 rfl ?_
      refine o_goto X13 at_271 288 (by decide) (by decide) ?_
      refine o_istore X13 at_288 #[.val (.int xa), .val (.int xb), .val (.int xc), .val (.ref xk), .val (.int (0 : Int32)), .val (.int xtop), .val (.int xix), .val (.int xr0), .val (.int xr1), .val (.ref b3), .val (.int xn4), .val (.ref b6), .val (.int xn7), .val (.ref b9), .val (.ref b3), .val (.int xn4), .val (.int (0 : Int32)), .val (.int (1 : Int32)), .unset, .unset, .unset, .unset] rfl 290 rfl ?_
      exact J290 _ _ _ X13 H13 rfl
    · have hp : pc4 = xtop := Option.some.inj hj
      have hn_0 : ¬ pa4 = xtop := fun q => hne 0 (by decide) (congrArg some q)
      have hn_1 : ¬ pb4 = xtop := fun q => hne 1 (by decide) (congrArg some q)
      refine o_aload X13 at_248 rfl rfl 250 rfl ?_
      refine o_iconst (v := (0 : Int32)) X13 at_250 rfl 251 rfl ?_
      refine o_iaload X13 H13 2 rfl at_251 0 rfl pa4 rfl 252 rfl ?_
      refine o_iload X13 at_252 rfl 254 rfl ?_
      refine o_icmpNe X13 at_254 261 257 (by decide) (by decide) rfl ?_ (fun q => by exfalso; exact hn_0 q)
      intro hc254
      refine o_aload X13 at_261 rfl rfl 263 rfl ?_
      refine o_iconst (v := (1 : Int32)) X13 at_263 rfl 264 rfl ?_
      refine o_iaload X13 H13 2 rfl at_264 1 rfl pb4 rfl 265 rfl ?_
      refine o_iload X13 at_265 rfl 267 rfl ?_
      refine o_icmpNe X13 at_267 274 270 (by decide) (by decide) rfl ?_ (fun q => by exfalso; exact hn_1 q)
      intro hc267
      refine o_aload X13 at_274 rfl rfl 276 rfl ?_
      refine o_iconst (v := (2 : Int32)) X13 at_276 rfl 277 rfl ?_
      refine o_iaload X13 H13 2 rfl at_277 2 rfl pc4 rfl 278 rfl ?_
      refine o_iload X13 at_278 rfl 280 rfl ?_
      refine o_icmpNe X13 at_280 287 283 (by decide) (by decide) rfl (fun q => by exfalso; exact q hp) ?_
      intro hc280
      refine o_iconst (v := (2 : Int32)) X13 at_283 rfl 284 rfl ?_
      refine o_goto X13 at_284 288 (by decide) (by decide) ?_
      refine o_istore X13 at_288 #[.val (.int xa), .val (.int xb), .val (.int xc), .val (.ref xk), .val (.int (0 : Int32)), .val (.int xtop), .val (.int xix), .val (.int xr0), .val (.int xr1), .val (.ref b3), .val (.int xn4), .val (.ref b6), .val (.int xn7), .val (.ref b9), .val (.ref b3), .val (.int xn4), .val (.int (0 : Int32)), .val (.int (2 : Int32)), .unset, .unset, .unset, .unset] rfl 290 rfl ?_
      exact J290 _ _ _ X13 H13 rfl
    · have hp : pd4 = xtop := Option.some.inj hj
      have hn_0 : ¬ pa4 = xtop := fun q => hne 0 (by decide) (congrArg some q)
      have hn_1 : ¬ pb4 = xtop := fun q => hne 1 (by decide) (congrArg some q)
      have hn_2 : ¬ pc4 = xtop := fun q => hne 2 (by decide) (congrArg some q)
      refine o_aload X13 at_248 rfl rfl 250 rfl ?_
      refine o_iconst (v := (0 : Int32)) X13 at_250 rfl 251 rfl ?_
      refine o_iaload X13 H13 2 rfl at_251 0 rfl pa4 rfl 252 rfl ?_
      refine o_iload X13 at_252 rfl 254 rfl ?_
      refine o_icmpNe X13 at_254 261 257 (by decide) (by decide) rfl ?_ (fun q => by exfalso; exact hn_0 q)
      intro hc254
      refine o_aload X13 at_261 rfl rfl 263 rfl ?_
      refine o_iconst (v := (1 : Int32)) X13 at_263 rfl 264 rfl ?_
      refine o_iaload X13 H13 2 rfl at_264 1 rfl pb4 rfl 265 rfl ?_
      refine o_iload X13 at_265 rfl 267 rfl ?_
      refine o_icmpNe X13 at_267 274 270 (by decide) (by decide) rfl ?_ (fun q => by exfalso; exact hn_1 q)
      intro hc267
      refine o_aload X13 at_274 rfl rfl 276 rfl ?_
      refine o_iconst (v := (2 : Int32)) X13 at_276 rfl 277 rfl ?_
      refine o_iaload X13 H13 2 rfl at_277 2 rfl pc4 rfl 278 rfl ?_
      refine o_iload X13 at_278 rfl 280 rfl ?_
      refine o_icmpNe X13 at_280 287 283 (by decide) (by decide) rfl ?_ (fun q => by exfalso; exact hn_2 q)
      intro hc280
      refine o_iconst (v := (3 : Int32)) X13 at_287 rfl 288 rfl ?_
      refine o_istore X13 at_288 #[.val (.int xa), .val (.int xb), .val (.int xc), .val (.ref xk), .val (.int (0 : Int32)), .val (.int xtop), .val (.int xix), .val (.int xr0), .val (.int xr1), .val (.ref b3), .val (.int xn4), .val (.ref b6), .val (.int xn7), .val (.ref b9), .val (.ref b3), .val (.int xn4), .val (.int (0 : Int32)), .val (.int (3 : Int32)), .unset, .unset, .unset, .unset] rfl 290 rfl ?_
      exact J290 _ _ _ X13 H13 rfl
  have J108_1 : ∀ (T : State) (h : Heap) (xk : Addr) (y0 y1 y2 y3 y4 y5 y6 y7 : Int32) (xtop xix : Int32), OW p l e room_1 s m #[(.int xa), (.int xb), (.int xc)] below meth cd0 Z x code maxLocals ret n0 T h 1 8 → OL n0 h ((xk, OA Z .int [y0, y1, y2, y3, y4, y5, y6, y7]) :: []) → f_ok y0 → f_ok y1 → f_ok y2 → f_ok y3 → f_ok y4 → f_ok y5 → f_ok y6 → f_ok y7 → (∃ j : Nat, j < (f_r4 y4 y5 y6 y7).2 ∧ (f_r4 y4 y5 y6 y7).1[j]? = some xtop ∧ ∀ k, k < j → ¬ (f_r4 y4 y5 y6 y7).1[k]? = some xtop) → OE p e (FE s room_1) below n0 Q' T (mkF m 108 #[.val (.int xa), .val (.int xb), .val (.int xc), .val (.ref xk), .val (.int (1 : Int32)), .val (.int xtop), .val (.int xix), .unset, .unset, .unset, .unset, .unset, .unset, .unset, .unset, .unset, .unset, .unset, .unset, .unset, .unset, .unset] []) := by
    intro T h xk y0 y1 y2 y3 y4 y5 y6 y7 xtop xix X_J108_1 H_J108_1 o0 o1 o2 o3 o4 o5 o6 o7 hfind
    refine o_iconst (v := (4 : Int32)) X_J108_1 at_108 rfl 109 rfl ?_
    refine o_aloadN X_J108_1 at_109 rfl rfl 110 rfl ?_
    refine o_iconst (v := (0 : Int32)) X_J108_1 at_110 rfl 111 rfl ?_
    refine o_iaload X_J108_1 H_J108_1 0 rfl at_111 0 rfl y0 rfl 112 rfl ?_
    refine o_aloadN X_J108_1 at_112 rfl rfl 113 rfl ?_
    refine o_iconst (v := (1 : Int32)) X_J108_1 at_113 rfl 114 rfl ?_
    refine o_iaload X_J108_1 H_J108_1 0 rfl at_114 1 rfl y1 rfl 115 rfl ?_
    refine o_iadd X_J108_1 at_115 116 rfl ?_
    refine o_aloadN X_J108_1 at_116 rfl rfl 117 rfl ?_
    refine o_iconst (v := (2 : Int32)) X_J108_1 at_117 rfl 118 rfl ?_
    refine o_iaload X_J108_1 H_J108_1 0 rfl at_118 2 rfl y2 rfl 119 rfl ?_
    refine o_iadd X_J108_1 at_119 120 rfl ?_
    refine o_aloadN X_J108_1 at_120 rfl rfl 121 rfl ?_
    refine o_iconst (v := (3 : Int32)) X_J108_1 at_121 rfl 122 rfl ?_
    refine o_iaload X_J108_1 H_J108_1 0 rfl at_122 3 rfl y3 rfl 123 rfl ?_
    refine o_iadd X_J108_1 at_123 124 rfl ?_
    refine o_callS X_J108_1 at_124 (rest := []) (c_min l Z a0 hw [] n0 _ X_J108_1.size (4 : Int32) (((y0 + y1) + y2) + y3) ) (hw _ (List.mem_of_getElem? (i := 1) rfl)) (hw _ (List.mem_of_getElem? (i := 2) rfl)) (hw _ (List.mem_of_getElem? (i := 3) rfl)) (hw _ (List.mem_of_getElem? (i := 4) rfl)) (by decide) 0 (by decide) (by decide) rfl [(.int (4 : Int32)), (.int (((y0 + y1) + y2) + y3))] rfl pd_1 rfl rfl (Nat.le_of_eq rfl) 1 8 rfl rfl (by decide) (by decide) 127 rfl ?_
    rintro _ T50 _ X50 ⟨rfl, rfl⟩
    show OE p e (FE s room_1) below n0 Q' T50 (mkF m 127 #[.val (.int xa), .val (.int xb), .val (.int xc), .val (.ref xk), .val (.int (1 : Int32)), .val (.int xtop), .val (.int xix), .unset, .unset, .unset, .unset, .unset, .unset, .unset, .unset, .unset, .unset, .unset, .unset, .unset, .unset, .unset] [(.int (f_min (4 : Int32) (((y0 + y1) + y2) + y3)))])
    refine o_istore X50 at_127 #[.val (.int xa), .val (.int xb), .val (.int xc), .val (.ref xk), .val (.int (1 : Int32)), .val (.int xtop), .val (.int xix), .val (.int (f_min (4 : Int32) (((y0 + y1) + y2) + y3))), .unset, .unset, .unset, .unset, .unset, .unset, .unset, .unset, .unset, .unset, .unset, .unset, .unset, .unset] rfl 129 rfl ?_
    generalize hxr0 : (f_min (4 : Int32) (((y0 + y1) + y2) + y3)) = xr0
    refine o_iconst (v := (4 : Int32)) X50 at_129 rfl 130 rfl ?_
    refine o_aloadN X50 at_130 rfl rfl 131 rfl ?_
    refine o_iconst (v := (4 : Int32)) X50 at_131 rfl 132 rfl ?_
    refine o_iaload X50 H_J108_1 0 rfl at_132 4 rfl y4 rfl 133 rfl ?_
    refine o_aloadN X50 at_133 rfl rfl 134 rfl ?_
    refine o_iconst (v := (5 : Int32)) X50 at_134 rfl 135 rfl ?_
    refine o_iaload X50 H_J108_1 0 rfl at_135 5 rfl y5 rfl 136 rfl ?_
    refine o_iadd X50 at_136 137 rfl ?_
    refine o_aloadN X50 at_137 rfl rfl 138 rfl ?_
    refine o_bipush (v := (6 : Int32)) X50 at_138 rfl 140 rfl ?_
    refine o_iaload X50 H_J108_1 0 rfl at_140 6 rfl y6 rfl 141 rfl ?_
    refine o_iadd X50 at_141 142 rfl ?_
    refine o_aloadN X50 at_142 rfl rfl 143 rfl ?_
    refine o_bipush (v := (7 : Int32)) X50 at_143 rfl 145 rfl ?_
    refine o_iaload X50 H_J108_1 0 rfl at_145 7 rfl y7 rfl 146 rfl ?_
    refine o_iadd X50 at_146 147 rfl ?_
    refine o_callS X50 at_147 (rest := []) (c_min l Z a0 hw [] n0 _ X50.size (4 : Int32) (((y4 + y5) + y6) + y7) ) (hw _ (List.mem_of_getElem? (i := 1) rfl)) (hw _ (List.mem_of_getElem? (i := 2) rfl)) (hw _ (List.mem_of_getElem? (i := 3) rfl)) (hw _ (List.mem_of_getElem? (i := 4) rfl)) (by decide) 0 (by decide) (by decide) rfl [(.int (4 : Int32)), (.int (((y4 + y5) + y6) + y7))] rfl pd_1 rfl rfl (Nat.le_of_eq rfl) 1 8 rfl rfl (by decide) (by decide) 150 rfl ?_
    rintro _ T51 _ X51 ⟨rfl, rfl⟩
    show OE p e (FE s room_1) below n0 Q' T51 (mkF m 150 #[.val (.int xa), .val (.int xb), .val (.int xc), .val (.ref xk), .val (.int (1 : Int32)), .val (.int xtop), .val (.int xix), .val (.int xr0), .unset, .unset, .unset, .unset, .unset, .unset, .unset, .unset, .unset, .unset, .unset, .unset, .unset, .unset] [(.int (f_min (4 : Int32) (((y4 + y5) + y6) + y7)))])
    refine o_istore X51 at_150 #[.val (.int xa), .val (.int xb), .val (.int xc), .val (.ref xk), .val (.int (1 : Int32)), .val (.int xtop), .val (.int xix), .val (.int xr0), .val (.int (f_min (4 : Int32) (((y4 + y5) + y6) + y7))), .unset, .unset, .unset, .unset, .unset, .unset, .unset, .unset, .unset, .unset, .unset, .unset, .unset] rfl 152 rfl ?_
    generalize hxr1 : (f_min (4 : Int32) (((y4 + y5) + y6) + y7)) = xr1
    obtain ⟨r0, hx0, h04, hc0⟩ := v_r y0 y1 y2 y3 o0 o1 o2 o3
    rw [hxr0] at hx0
    have hn40 := v_n4 y0 y1 y2 y3
    obtain ⟨r1, hx1, h14, hc1⟩ := v_r y4 y5 y6 y7 o4 o5 o6 o7
    rw [hxr1] at hx1
    have hn41 := v_n4 y4 y5 y6 y7
    obtain ⟨j, hjN, hj, hne⟩ := hfind
    refine o_iconst (v := (4 : Int32)) X51 at_152 rfl 153 rfl ?_
    refine o_newarray (L := ((xk, OA Z .int [y0, y1, y2, y3, y4, y5, y6, y7]) :: [])) X51 H_J108_1 at_153 (hw _ (List.mem_of_getElem? (i := 0) rfl)) rfl rfl 4 4 rfl (by decide) (by decide) 2 12 rfl rfl (by decide) (by decide) 155 rfl ?_
    intro T52 h52 b52 X52 H52
    replace H52 : OL n0 h52 ((b52, OA Z .int [(0 : Int32), (0 : Int32), (0 : Int32), (0 : Int32)]) :: (xk, OA Z .int [y0, y1, y2, y3, y4, y5, y6, y7]) :: []) := H52
    refine o_astore X52 at_155 rfl #[.val (.int xa), .val (.int xb), .val (.int xc), .val (.ref xk), .val (.int (1 : Int32)), .val (.int xtop), .val (.int xix), .val (.int xr0), .val (.int xr1), .val (.ref b52), .unset, .unset, .unset, .unset, .unset, .unset, .unset, .unset, .unset, .unset, .unset, .unset] rfl 157 rfl ?_
    refine o_aloadN X52 at_157 rfl rfl 158 rfl ?_
    refine o_iconst (v := (0 : Int32)) X52 at_158 rfl 159 rfl ?_
    refine o_aload X52 at_159 rfl rfl 161 rfl ?_
    have H54 : OL n0 h52 ((xk, OA Z .int [y0, y1, y2, y3, y4, y5, y6, y7]) :: (b52, OA Z .int [(0 : Int32), (0 : Int32), (0 : Int32), (0 : Int32)]) :: []) := H52.front 1 rfl
    refine o_callS X52 at_161 (rest := []) (c_fill0 l Z a0 hw [] n0 _ X52.size xk b52 y0 y1 y2 y3 y4 y5 y6 y7 [] H54) (hw _ (List.mem_of_getElem? (i := 5) rfl)) (hw _ (List.mem_of_getElem? (i := 6) rfl)) (hw _ (List.mem_of_getElem? (i := 7) rfl)) (hw _ (List.mem_of_getElem? (i := 8) rfl)) (by decide) 0 (by decide) (by decide) rfl [(.ref xk), (.int (0 : Int32)), (.ref b52)] rfl pd_2 rfl rfl (Nat.le_of_eq rfl) 2 12 rfl rfl (by decide) (by decide) 164 rfl ?_
    rintro _ T53 h53 X53 ⟨pa53, pb53, pc53, pd53, xn53, rfl, H53, hF53⟩
    replace H53 : OL n0 h53 ((xk, OA Z .int [y0, y1, y2, y3, y4, y5, y6, y7]) :: (b52, OA Z .int [pa53, pb53, pc53, pd53]) :: []) := H53
    show OE p e (FE s room_1) below n0 Q' T53 (mkF m 164 #[.val (.int xa), .val (.int xb), .val (.int xc), .val (.ref xk), .val (.int (1 : Int32)), .val (.int xtop), .val (.int xix), .val (.int xr0), .val (.int xr1), .val (.ref b52), .unset, .unset, .unset, .unset, .unset, .unset, .unset, .unset, .unset, .unset, .unset, .unset] [(.int xn53)])
    refine o_istore X53 at_164 #[.val (.int xa), .val (.int xb), .val (.int xc), .val (.ref xk), .val (.int (1 : Int32)), .val (.int xtop), .val (.int xix), .val (.int xr0), .val (.int xr1), .val (.ref b52), .val (.int xn53), .unset, .unset, .unset, .unset, .unset, .unset, .unset, .unset, .unset, .unset, .unset] rfl 166 rfl ?_
    refine o_iconst (v := (4 : Int32)) X53 at_166 rfl 167 rfl ?_
    refine o_newarray (L := ((xk, OA Z .int [y0, y1, y2, y3, y4, y5, y6, y7]) :: (b52, OA Z .int [pa53, pb53, pc53, pd53]) :: [])) X53 H53 at_167 (hw _ (List.mem_of_getElem? (i := 0) rfl)) rfl rfl 4 4 rfl (by decide) (by decide) 3 16 rfl rfl (by decide) (by decide) 169 rfl ?_
    intro T55 h55 b55 X55 H55
    replace H55 : OL n0 h55 ((b55, OA Z .int [(0 : Int32), (0 : Int32), (0 : Int32), (0 : Int32)]) :: (xk, OA Z .int [y0, y1, y2, y3, y4, y5, y6, y7]) :: (b52, OA Z .int [pa53, pb53, pc53, pd53]) :: []) := H55
    refine o_astore X55 at_169 rfl #[.val (.int xa), .val (.int xb), .val (.int xc), .val (.ref xk), .val (.int (1 : Int32)), .val (.int xtop), .val (.int xix), .val (.int xr0), .val (.int xr1), .val (.ref b52), .val (.int xn53), .val (.ref b55), .unset, .unset, .unset, .unset, .unset, .unset, .unset, .unset, .unset, .unset] rfl 171 rfl ?_
    refine o_aloadN X55 at_171 rfl rfl 172 rfl ?_
    refine o_iconst (v := (4 : Int32)) X55 at_172 rfl 173 rfl ?_
    refine o_aload X55 at_173 rfl rfl 175 rfl ?_
    have H57 : OL n0 h55 ((xk, OA Z .int [y0, y1, y2, y3, y4, y5, y6, y7]) :: (b55, OA Z .int [(0 : Int32), (0 : Int32), (0 : Int32), (0 : Int32)]) :: (b52, OA Z .int [pa53, pb53, pc53, pd53]) :: []) := H55.front 1 rfl
    refine o_callS X55 at_175 (rest := []) (c_fill4 l Z a0 hw [] n0 _ X55.size xk b55 y0 y1 y2 y3 y4 y5 y6 y7 ((b52, OA Z .int [pa53, pb53, pc53, pd53]) :: []) H57) (hw _ (List.mem_of_getElem? (i := 5) rfl)) (hw _ (List.mem_of_getElem? (i := 6) rfl)) (hw _ (List.mem_of_getElem? (i := 7) rfl)) (hw _ (List.mem_of_getElem? (i := 8) rfl)) (by decide) 0 (by decide) (by decide) rfl [(.ref xk), (.int (4 : Int32)), (.ref b55)] rfl pd_2 rfl rfl (Nat.le_of_eq rfl) 3 16 rfl rfl (by decide) (by decide) 178 rfl ?_
    rintro _ T56 h56 X56 ⟨pa56, pb56, pc56, pd56, xn56, rfl, H56, hF56⟩
    replace H56 : OL n0 h56 ((xk, OA Z .int [y0, y1, y2, y3, y4, y5, y6, y7]) :: (b55, OA Z .int [pa56, pb56, pc56, pd56]) :: (b52, OA Z .int [pa53, pb53, pc53, pd53]) :: []) := H56
    show OE p e (FE s room_1) below n0 Q' T56 (mkF m 178 #[.val (.int xa), .val (.int xb), .val (.int xc), .val (.ref xk), .val (.int (1 : Int32)), .val (.int xtop), .val (.int xix), .val (.int xr0), .val (.int xr1), .val (.ref b52), .val (.int xn53), .val (.ref b55), .unset, .unset, .unset, .unset, .unset, .unset, .unset, .unset, .unset, .unset] [(.int xn56)])
    refine o_istore X56 at_178 #[.val (.int xa), .val (.int xb), .val (.int xc), .val (.ref xk), .val (.int (1 : Int32)), .val (.int xtop), .val (.int xix), .val (.int xr0), .val (.int xr1), .val (.ref b52), .val (.int xn53), .val (.ref b55), .val (.int xn56), .unset, .unset, .unset, .unset, .unset, .unset, .unset, .unset, .unset] rfl 180 rfl ?_
    refine o_bipush (v := (8 : Int32)) X56 at_180 rfl 182 rfl ?_
    refine o_newarray (L := ((xk, OA Z .int [y0, y1, y2, y3, y4, y5, y6, y7]) :: (b55, OA Z .int [pa56, pb56, pc56, pd56]) :: (b52, OA Z .int [pa53, pb53, pc53, pd53]) :: [])) X56 H56 at_182 (hw _ (List.mem_of_getElem? (i := 0) rfl)) rfl rfl 8 8 rfl (by decide) (by decide) 4 24 rfl rfl (by decide) (by decide) 184 rfl ?_
    intro T58 h58 b58 X58 H58
    replace H58 : OL n0 h58 ((b58, OA Z .int [(0 : Int32), (0 : Int32), (0 : Int32), (0 : Int32), (0 : Int32), (0 : Int32), (0 : Int32), (0 : Int32)]) :: (xk, OA Z .int [y0, y1, y2, y3, y4, y5, y6, y7]) :: (b55, OA Z .int [pa56, pb56, pc56, pd56]) :: (b52, OA Z .int [pa53, pb53, pc53, pd53]) :: []) := H58
    refine o_astore X58 at_184 rfl #[.val (.int xa), .val (.int xb), .val (.int xc), .val (.ref xk), .val (.int (1 : Int32)), .val (.int xtop), .val (.int xix), .val (.int xr0), .val (.int xr1), .val (.ref b52), .val (.int xn53), .val (.ref b55), .val (.int xn56), .val (.ref b58), .unset, .unset, .unset, .unset, .unset, .unset, .unset, .unset] rfl 186 rfl ?_
    refine o_aload X58 at_186 rfl rfl 188 rfl ?_
    refine o_iconst (v := (0 : Int32)) X58 at_188 rfl 189 rfl ?_
    refine o_aload X58 at_189 rfl rfl 191 rfl ?_
    refine o_iload X58 at_191 rfl 193 rfl ?_
    have H60 : OL n0 h58 ((b52, OA Z .int [pa53, pb53, pc53, pd53]) :: (b58, OA Z .int [(0 : Int32), (0 : Int32), (0 : Int32), (0 : Int32), (0 : Int32), (0 : Int32), (0 : Int32), (0 : Int32)]) :: (xk, OA Z .int [y0, y1, y2, y3, y4, y5, y6, y7]) :: (b55, OA Z .int [pa56, pb56, pc56, pd56]) :: []) := H58.front 3 rfl
    have H61 : OL n0 h58 ((b58, OA Z .int [(0 : Int32), (0 : Int32), (0 : Int32), (0 : Int32), (0 : Int32), (0 : Int32), (0 : Int32), (0 : Int32)]) :: (b52, OA Z .int [pa53, pb53, pc53, pd53]) :: (xk, OA Z .int [y0, y1, y2, y3, y4, y5, y6, y7]) :: (b55, OA Z .int [pa56, pb56, pc56, pd56]) :: []) := H60.front 1 rfl
    refine o_callS X58 at_193 (rest := []) (c_put l Z a0 hw [] n0 _ X58.size b58 (0 : Int32) b52 xn53 [(0 : Int32), (0 : Int32), (0 : Int32), (0 : Int32), (0 : Int32), (0 : Int32), (0 : Int32), (0 : Int32)] pa53 pb53 pc53 pd53 ((xk, OA Z .int [y0, y1, y2, y3, y4, y5, y6, y7]) :: (b55, OA Z .int [pa56, pb56, pc56, pd56]) :: []) H61 0 (f_r4 y0 y1 y2 y3).2 rfl hF53.2 (v_n4 ..) (by show 0 + _ ≤ 8; have := v_n4 y0 y1 y2 y3; omega) (by omega)) (hw _ (List.mem_of_getElem? (i := 9) rfl)) (hw _ (List.mem_of_getElem? (i := 10) rfl)) (hw _ (List.mem_of_getElem? (i := 7) rfl)) (hw _ (List.mem_of_getElem? (i := 11) rfl)) (by decide) 0 (by decide) (by decide) rfl [(.ref b58), (.int (0 : Int32)), (.ref b52), (.int xn53)] rfl pd_3 rfl rfl (Nat.le_of_eq rfl) 4 24 rfl rfl (by decide) (by decide) 196 rfl ?_
    rintro _ T59 h59 X59 ⟨E59, rfl, H59, hP59⟩
    replace H59 : OL n0 h59 ((b58, OA Z .int E59) :: (b52, OA Z .int [pa53, pb53, pc53, pd53]) :: (xk, OA Z .int [y0, y1, y2, y3, y4, y5, y6, y7]) :: (b55, OA Z .int [pa56, pb56, pc56, pd56]) :: []) := H59
    show OE p e (FE s room_1) below n0 Q' T59 (mkF m 196 #[.val (.int xa), .val (.int xb), .val (.int xc), .val (.ref xk), .val (.int (1 : Int32)), .val (.int xtop), .val (.int xix), .val (.int xr0), .val (.int xr1), .val (.ref b52), .val (.int xn53), .val (.ref b55), .val (.int xn56), .val (.ref b58), .unset, .unset, .unset, .unset, .unset, .unset, .unset, .unset] [])
    have hL59 : E59.length = 8 := hP59.1
    refine o_aload X59 at_196 rfl rfl 198 rfl ?_
    refine o_iload X59 at_198 rfl 200 rfl ?_
    refine o_aload X59 at_200 rfl rfl 202 rfl ?_
    refine o_iload X59 at_202 rfl 204 rfl ?_
    have H63 : OL n0 h59 ((b55, OA Z .int [pa56, pb56, pc56, pd56]) :: (b58, OA Z .int E59) :: (b52, OA Z .int [pa53, pb53, pc53, pd53]) :: (xk, OA Z .int [y0, y1, y2, y3, y4, y5, y6, y7]) :: []) := H59.front 3 rfl
    have H64 : OL n0 h59 ((b58, OA Z .int E59) :: (b55, OA Z .int [pa56, pb56, pc56, pd56]) :: (b52, OA Z .int [pa53, pb53, pc53, pd53]) :: (xk, OA Z .int [y0, y1, y2, y3, y4, y5, y6, y7]) :: []) := H63.front 1 rfl
    refine o_callS X59 at_204 (rest := []) (c_put l Z a0 hw [] n0 _ X59.size b58 xr0 b55 xn56 E59 pa56 pb56 pc56 pd56 ((b52, OA Z .int [pa53, pb53, pc53, pd53]) :: (xk, OA Z .int [y0, y1, y2, y3, y4, y5, y6, y7]) :: []) H64 r0 (f_r4 y4 y5 y6 y7).2 hx0 hF56.2 (v_n4 ..) (by have := v_n4 y4 y5 y6 y7; omega) (by omega)) (hw _ (List.mem_of_getElem? (i := 9) rfl)) (hw _ (List.mem_of_getElem? (i := 10) rfl)) (hw _ (List.mem_of_getElem? (i := 7) rfl)) (hw _ (List.mem_of_getElem? (i := 11) rfl)) (by decide) 0 (by decide) (by decide) rfl [(.ref b58), (.int xr0), (.ref b55), (.int xn56)] rfl pd_3 rfl rfl (Nat.le_of_eq rfl) 4 24 rfl rfl (by decide) (by decide) 207 rfl ?_
    rintro _ T62 h62 X62 ⟨E62, rfl, H62, hP62⟩
    replace H62 : OL n0 h62 ((b58, OA Z .int E62) :: (b55, OA Z .int [pa56, pb56, pc56, pd56]) :: (b52, OA Z .int [pa53, pb53, pc53, pd53]) :: (xk, OA Z .int [y0, y1, y2, y3, y4, y5, y6, y7]) :: []) := H62
    show OE p e (FE s room_1) below n0 Q' T62 (mkF m 207 #[.val (.int xa), .val (.int xb), .val (.int xc), .val (.ref xk), .val (.int (1 : Int32)), .val (.int xtop), .val (.int xix), .val (.int xr0), .val (.int xr1), .val (.ref b52), .val (.int xn53), .val (.ref b55), .val (.int xn56), .val (.ref b58), .unset, .unset, .unset, .unset, .unset, .unset, .unset, .unset] [])
    have hL62 : E62.length = 8 := hP62.1.trans hL59
    refine o_iload X62 at_207 rfl 209 rfl ?_
    refine o_ifNe X62 at_209 217 212 (by decide) (by decide) rfl ?_ (fun q => by exfalso; exact absurd q (by decide))
    intro hc209
    refine o_aload X62 at_217 rfl rfl 219 rfl ?_
    refine o_astore X62 at_219 rfl #[.val (.int xa), .val (.int xb), .val (.int xc), .val (.ref xk), .val (.int (1 : Int32)), .val (.int xtop), .val (.int xix), .val (.int xr0), .val (.int xr1), .val (.ref b52), .val (.int xn53), .val (.ref b55), .val (.int xn56), .val (.ref b58), .val (.ref b55), .unset, .unset, .unset, .unset, .unset, .unset, .unset] rfl 221 rfl ?_
    refine o_iload X62 at_221 rfl 223 rfl ?_
    refine o_ifNe X62 at_223 231 226 (by decide) (by decide) rfl ?_ (fun q => by exfalso; exact absurd q (by decide))
    intro hc223
    refine o_iload X62 at_231 rfl 233 rfl ?_
    refine o_istore X62 at_233 #[.val (.int xa), .val (.int xb), .val (.int xc), .val (.ref xk), .val (.int (1 : Int32)), .val (.int xtop), .val (.int xix), .val (.int xr0), .val (.int xr1), .val (.ref b52), .val (.int xn53), .val (.ref b55), .val (.int xn56), .val (.ref b58), .val (.ref b55), .val (.int xn56), .unset, .unset, .unset, .unset, .unset, .unset] rfl 235 rfl ?_
    refine o_iload X62 at_235 rfl 237 rfl ?_
    refine o_ifNe X62 at_237 244 240 (by decide) (by decide) rfl ?_ (fun q => by exfalso; exact absurd q (by decide))
    intro hc237
    refine o_iload X62 at_244 rfl 246 rfl ?_
    refine o_istore X62 at_246 #[.val (.int xa), .val (.int xb), .val (.int xc), .val (.ref xk), .val (.int (1 : Int32)), .val (.int xtop), .val (.int xix), .val (.int xr0), .val (.int xr1), .val (.ref b52), .val (.int xn53), .val (.ref b55), .val (.int xn56), .val (.ref b58), .val (.ref b55), .val (.int xn56), .val (.int xr0), .unset, .unset, .unset, .unset, .unset] rfl 248 rfl ?_
    rw [hF56.1] at hj hne
    have J290 : ∀ (T : State) (h : Heap) (xj : Int32), OW p l e room_1 s m #[(.int xa), (.int xb), (.int xc)] below meth cd0 Z x code maxLocals ret n0 T h 4 24 → OL n0 h ((b58, OA Z .int E62) :: (b55, OA Z .int [pa56, pb56, pc56, pd56]) :: (b52, OA Z .int [pa53, pb53, pc53, pd53]) :: (xk, OA Z .int [y0, y1, y2, y3, y4, y5, y6, y7]) :: []) → xj.toInt = (j : Int) → OE p e (FE s room_1) below n0 Q' T (mkF m 290 #[.val (.int xa), .val (.int xb), .val (.int xc), .val (.ref xk), .val (.int (1 : Int32)), .val (.int xtop), .val (.int xix), .val (.int xr0), .val (.int xr1), .val (.ref b52), .val (.int xn53), .val (.ref b55), .val (.int xn56), .val (.ref b58), .val (.ref b55), .val (.int xn56), .val (.int xr0), .val (.int xj), .unset, .unset, .unset, .unset] []) := by
      intro T h xj X_J290 H_J290 hxj
      obtain ⟨mm, hmm⟩ : ∃ mm, (f_r4 y4 y5 y6 y7).2 = mm + 1 := ⟨(f_r4 y4 y5 y6 y7).2 - 1, by omega⟩
      have hxn : xn56.toInt = ((mm + 1 : Nat) : Int) := by rw [← hmm]; exact hF56.2
      obtain ⟨wv, hwv⟩ : ∃ w, [pa56, pb56, pc56, pd56][mm]? = some w := ⟨_, List.getElem?_eq_getElem (by show mm < 4; omega)⟩
      replace hne : ∀ k, k < j → ∃ v, [pa56, pb56, pc56, pd56][k]? = some v ∧ ¬ v = xtop := fun k hk => ⟨_, List.getElem?_eq_getElem (by show k < 4; omega), fun q => hne k hk (by rw [List.getElem?_eq_getElem (by show k < 4; omega), q])⟩
      refine o_aload X_J290 at_290 rfl rfl 292 rfl ?_
      refine o_iload X_J290 at_292 rfl 294 rfl ?_
      refine o_iload X_J290 at_294 rfl 296 rfl ?_
      refine o_iadd X_J290 at_296 297 rfl ?_
      refine o_aload X_J290 at_297 rfl rfl 299 rfl ?_
      refine o_iload X_J290 at_299 rfl 301 rfl ?_
      refine o_iconst (v := (1 : Int32)) X_J290 at_301 rfl 302 rfl ?_
      refine o_isub X_J290 at_302 303 rfl ?_
      refine o_iaload X_J290 H_J290 1 rfl at_303 mm (v_sb xn56 1 mm 1 hxn rfl (by omega) (by decide)) wv hwv 304 rfl ?_
      refine o_iastore X_J290 H_J290 0 rfl at_304 (r0 + j) (v_ad _ xj r0 j hx0 hxj (by omega) (by omega)) (by omega) 305 rfl ?_
      intro T65 h65 X65 H65
      replace H65 : OL n0 h65 ((b58, OA Z .int (List.set E62 (r0 + j) wv)) :: (b55, OA Z .int [pa56, pb56, pc56, pd56]) :: (b52, OA Z .int [pa53, pb53, pc53, pd53]) :: (xk, OA Z .int [y0, y1, y2, y3, y4, y5, y6, y7]) :: []) := H65
      refine o_iload X65 at_305 rfl 307 rfl ?_
      refine o_ifNe X65 at_307 317 310 (by decide) (by decide) rfl ?_ (fun q => by exfalso; exact absurd q (by decide))
      intro hc307
      refine o_iload X65 at_317 rfl 319 rfl ?_
      refine o_istore X65 at_319 #[.val (.int xa), .val (.int xb), .val (.int xc), .val (.ref xk), .val (.int (1 : Int32)), .val (.int xtop), .val (.int xix), .val (.int xr0), .val (.int xr1), .val (.ref b52), .val (.int xn53), .val (.ref b55), .val (.int xn56), .val (.ref b58), .val (.ref b55), .val (.int xn56), .val (.int xr0), .val (.int xj), .val (.int xn53), .unset, .unset, .unset] rfl 321 rfl ?_
      refine o_iload X65 at_321 rfl 323 rfl ?_
      refine o_iconst (v := (1 : Int32)) X65 at_323 rfl 324 rfl ?_
      refine o_icmpNe X65 at_324 334 327 (by decide) (by decide) rfl (fun q => by exfalso; exact absurd q (by decide)) ?_
      intro hc324
      refine o_iload X65 at_327 rfl 329 rfl ?_
      refine o_iconst (v := (1 : Int32)) X65 at_329 rfl 330 rfl ?_
      refine o_isub X65 at_330 331 rfl ?_
      refine o_goto X65 at_331 336 (by decide) (by decide) ?_
      refine o_istore X65 at_336 #[.val (.int xa), .val (.int xb), .val (.int xc), .val (.ref xk), .val (.int (1 : Int32)), .val (.int xtop), .val (.int xix), .val (.int xr0), .val (.int xr1), .val (.ref b52), .val (.int xn53), .val (.ref b55), .val (.int xn56), .val (.ref b58), .val (.ref b55), .val (.int xn56), .val (.int xr0), .val (.int xj), .val (.int xn53), .val (.int (xn56 - (1 : Int32))), .unset, .unset] rfl 338 rfl ?_
      refine o_new (L := ((b58, OA Z .int (List.set E62 (r0 + j) wv)) :: (b55, OA Z .int [pa56, pb56, pc56, pd56]) :: (b52, OA Z .int [pa53, pb53, pc53, pd53]) :: (xk, OA Z .int [y0, y1, y2, y3, y4, y5, y6, y7]) :: [])) X65 H65 at_338 (hw _ (List.mem_of_getElem? (i := 12) rfl)) (hw _ (List.mem_of_getElem? (i := 13) rfl)) (hw _ (List.mem_of_getElem? (i := 14) rfl)) [("com/example/palamedes/palamedes/lda/NonzeroTopics", "starts", "[I", .null), ("com/example/palamedes/palamedes/lda/NonzeroTopics", "lengths", "[I", .null), ("com/example/palamedes/palamedes/lda/NonzeroTopics", "topics", "[I", .null)] (oqS ⟨(.array .int), Or.inr (hw _ (List.mem_of_getElem? (i := 22) rfl)), by decide, rfl⟩ (oqS ⟨(.array .int), Or.inr (hw _ (List.mem_of_getElem? (i := 24) rfl)), by decide, rfl⟩ (oqS ⟨(.array .int), Or.inr (hw _ (List.mem_of_getElem? (i := 32) rfl)), by decide, rfl⟩ oq0))) 5 27 rfl rfl (by decide) (by decide) 341 rfl ?_
      intro T66 h66 b66 X66 H66
      refine o_dup X66 at_341 rfl 342 rfl ?_
      refine o_aloadN X66 at_342 rfl rfl 343 rfl ?_
      refine o_iconst (v := (4 : Int32)) X66 at_343 rfl 344 rfl ?_
      have H68 : OL n0 h66 ((xk, OA Z .int [y0, y1, y2, y3, y4, y5, y6, y7]) :: (b66, OO Z "com/example/palamedes/palamedes/lda/NonzeroTopics" [("com/example/palamedes/palamedes/lda/NonzeroTopics", "starts", "[I", .null), ("com/example/palamedes/palamedes/lda/NonzeroTopics", "lengths", "[I", .null), ("com/example/palamedes/palamedes/lda/NonzeroTopics", "topics", "[I", .null)]) :: (b58, OA Z .int (List.set E62 (r0 + j) wv)) :: (b55, OA Z .int [pa56, pb56, pc56, pd56]) :: (b52, OA Z .int [pa53, pb53, pc53, pd53]) :: []) := H66.front 4 rfl
      have H69 : OL n0 h66 ((b66, OO Z "com/example/palamedes/palamedes/lda/NonzeroTopics" [("com/example/palamedes/palamedes/lda/NonzeroTopics", "starts", "[I", .null), ("com/example/palamedes/palamedes/lda/NonzeroTopics", "lengths", "[I", .null), ("com/example/palamedes/palamedes/lda/NonzeroTopics", "topics", "[I", .null)]) :: (xk, OA Z .int [y0, y1, y2, y3, y4, y5, y6, y7]) :: (b58, OA Z .int (List.set E62 (r0 + j) wv)) :: (b55, OA Z .int [pa56, pb56, pc56, pd56]) :: (b52, OA Z .int [pa53, pb53, pc53, pd53]) :: []) := H68.front 1 rfl
      refine o_callI X66 at_344 (rest := [(.ref b66)]) (c_init l Z a0 hw [] n0 _ X66.size b66 xk y0 y1 y2 y3 y4 y5 y6 y7 _ _ _ ((b58, OA Z .int (List.set E62 (r0 + j) wv)) :: (b55, OA Z .int [pa56, pb56, pc56, pd56]) :: (b52, OA Z .int [pa53, pb53, pc53, pd53]) :: []) H69 xr0 xr1 r0 r1 ((v_room _ _ _ _ o0 o1 o2 o3).trans hxr0) ((v_room _ _ _ _ o4 o5 o6 o7).trans hxr1) hx0 hx1 h04 h14 hc0 hc1) rfl (hw _ (List.mem_of_getElem? (i := 15) rfl)) (hw _ (List.mem_of_getElem? (i := 16) rfl)) (hw _ (List.mem_of_getElem? (i := 14) rfl)) (hw _ (List.mem_of_getElem? (i := 17) rfl)) (by decide) 1 (by decide) (by decide) rfl [(.ref xk), (.int (4 : Int32))] rfl pd_4 rfl rfl (Nat.le_of_eq rfl) 8 40 rfl rfl (by decide) (by decide) 347 rfl ?_
      rintro _ T67 h67 X67 ⟨bs67, bl67, bt67, xz67, xm67, rfl, H67, hz67, hm67⟩
      replace H67 : OL n0 h67 ((b66, OO Z "com/example/palamedes/palamedes/lda/NonzeroTopics" [("com/example/palamedes/palamedes/lda/NonzeroTopics", "starts", "[I", .ref bs67), ("com/example/palamedes/palamedes/lda/NonzeroTopics", "lengths", "[I", .ref bl67), ("com/example/palamedes/palamedes/lda/NonzeroTopics", "topics", "[I", .ref bt67)]) :: (bs67, OA Z .int [(0 : Int32), xr0, (xr0 + xr1)]) :: (bl67, OA Z .int [xz67, xm67]) :: (bt67, OA Z .int (List.take r0 (f_r4 y0 y1 y2 y3).1 ++ List.take r1 (f_r4 y4 y5 y6 y7).1)) :: (xk, OA Z .int [y0, y1, y2, y3, y4, y5, y6, y7]) :: (b58, OA Z .int (List.set E62 (r0 + j) wv)) :: (b55, OA Z .int [pa56, pb56, pc56, pd56]) :: (b52, OA Z .int [pa53, pb53, pc53, pd53]) :: []) := H67
      show OE p e (FE s room_1) below n0 Q' T67 (mkF m 347 #[.val (.int xa), .val (.int xb), .val (.int xc), .val (.ref xk), .val (.int (1 : Int32)), .val (.int xtop), .val (.int xix), .val (.int xr0), .val (.int xr1), .val (.ref b52), .val (.int xn53), .val (.ref b55), .val (.int xn56), .val (.ref b58), .val (.ref b55), .val (.int xn56), .val (.int xr0), .val (.int xj), .val (.int xn53), .val (.int (xn56 - (1 : Int32))), .unset, .unset] [(.ref b66)])
      rw [hF53.1, hF56.1] at H67
      have ez : xz67 = xn53 := Int32.toInt_inj.mp (hz67.trans hF53.2.symm)
      have em : xm67 = xn56 := Int32.toInt_inj.mp (hm67.trans hF56.2.symm)
      refine o_astore X67 at_347 rfl #[.val (.int xa), .val (.int xb), .val (.int xc), .val (.ref xk), .val (.int (1 : Int32)), .val (.int xtop), .val (.int xix), .val (.int xr0), .val (.int xr1), .val (.ref b52), .val (.int xn53), .val (.ref b55), .val (.int xn56), .val (.ref b58), .val (.ref b55), .val (.int xn56), .val (.int xr0), .val (.int xj), .val (.int xn53), .val (.int (xn56 - (1 : Int32))), .val (.ref b66), .unset] rfl 349 rfl ?_
      refine o_aload X67 at_349 rfl rfl 351 rfl ?_
      refine o_iload X67 at_351 rfl 353 rfl ?_
      refine o_iload X67 at_353 rfl 355 rfl ?_
      have H71 : OL n0 h67 ((bt67, OA Z .int (List.take r0 [pa53, pb53, pc53, pd53] ++ List.take r1 [pa56, pb56, pc56, pd56])) :: (b66, OO Z "com/example/palamedes/palamedes/lda/NonzeroTopics" [("com/example/palamedes/palamedes/lda/NonzeroTopics", "starts", "[I", .ref bs67), ("com/example/palamedes/palamedes/lda/NonzeroTopics", "lengths", "[I", .ref bl67), ("com/example/palamedes/palamedes/lda/NonzeroTopics", "topics", "[I", .ref bt67)]) :: (bs67, OA Z .int [(0 : Int32), xr0, (xr0 + xr1)]) :: (bl67, OA Z .int [xz67, xm67]) :: (xk, OA Z .int [y0, y1, y2, y3, y4, y5, y6, y7]) :: (b58, OA Z .int (List.set E62 (r0 + j) wv)) :: (b55, OA Z .int [pa56, pb56, pc56, pd56]) :: (b52, OA Z .int [pa53, pb53, pc53, pd53]) :: []) := H67.front 3 rfl
      have H72 : OL n0 h67 ((bl67, OA Z .int [xz67, xm67]) :: (bt67, OA Z .int (List.take r0 [pa53, pb53, pc53, pd53] ++ List.take r1 [pa56, pb56, pc56, pd56])) :: (b66, OO Z "com/example/palamedes/palamedes/lda/NonzeroTopics" [("com/example/palamedes/palamedes/lda/NonzeroTopics", "starts", "[I", .ref bs67), ("com/example/palamedes/palamedes/lda/NonzeroTopics", "lengths", "[I", .ref bl67), ("com/example/palamedes/palamedes/lda/NonzeroTopics", "topics", "[I", .ref bt67)]) :: (bs67, OA Z .int [(0 : Int32), xr0, (xr0 + xr1)]) :: (xk, OA Z .int [y0, y1, y2, y3, y4, y5, y6, y7]) :: (b58, OA Z .int (List.set E62 (r0 + j) wv)) :: (b55, OA Z .int [pa56, pb56, pc56, pd56]) :: (b52, OA Z .int [pa53, pb53, pc53, pd53]) :: []) := H71.front 3 rfl
      have H73 : OL n0 h67 ((bs67, OA Z .int [(0 : Int32), xr0, (xr0 + xr1)]) :: (bl67, OA Z .int [xz67, xm67]) :: (bt67, OA Z .int (List.take r0 [pa53, pb53, pc53, pd53] ++ List.take r1 [pa56, pb56, pc56, pd56])) :: (b66, OO Z "com/example/palamedes/palamedes/lda/NonzeroTopics" [("com/example/palamedes/palamedes/lda/NonzeroTopics", "starts", "[I", .ref bs67), ("com/example/palamedes/palamedes/lda/NonzeroTopics", "lengths", "[I", .ref bl67), ("com/example/palamedes/palamedes/lda/NonzeroTopics", "topics", "[I", .ref bt67)]) :: (xk, OA Z .int [y0, y1, y2, y3, y4, y5, y6, y7]) :: (b58, OA Z .int (List.set E62 (r0 + j) wv)) :: (b55, OA Z .int [pa56, pb56, pc56, pd56]) :: (b52, OA Z .int [pa53, pb53, pc53, pd53]) :: []) := H72.front 3 rfl
      have H74 : OL n0 h67 ((b66, OO Z "com/example/palamedes/palamedes/lda/NonzeroTopics" [("com/example/palamedes/palamedes/lda/NonzeroTopics", "starts", "[I", .ref bs67), ("com/example/palamedes/palamedes/lda/NonzeroTopics", "lengths", "[I", .ref bl67), ("com/example/palamedes/palamedes/lda/NonzeroTopics", "topics", "[I", .ref bt67)]) :: (bs67, OA Z .int [(0 : Int32), xr0, (xr0 + xr1)]) :: (bl67, OA Z .int [xz67, xm67]) :: (bt67, OA Z .int (List.take r0 [pa53, pb53, pc53, pd53] ++ List.take r1 [pa56, pb56, pc56, pd56])) :: (xk, OA Z .int [y0, y1, y2, y3, y4, y5, y6, y7]) :: (b58, OA Z .int (List.set E62 (r0 + j) wv)) :: (b55, OA Z .int [pa56, pb56, pc56, pd56]) :: (b52, OA Z .int [pa53, pb53, pc53, pd53]) :: []) := H73.front 3 rfl
      refine o_callV X67 H74 0 rfl at_355 (rest := []) (c_rem1 l Z a0 hw [] n0 _ X67.size b66 bs67 bl67 bt67 (0 : Int32) xr0 (xr0 + xr1) xz67 xm67 (List.take r0 [pa53, pb53, pc53, pd53] ++ List.take r1 [pa56, pb56, pc56, pd56]) ((xk, OA Z .int [y0, y1, y2, y3, y4, y5, y6, y7]) :: (b58, OA Z .int (List.set E62 (r0 + j) wv)) :: (b55, OA Z .int [pa56, pb56, pc56, pd56]) :: (b52, OA Z .int [pa53, pb53, pc53, pd53]) :: []) H74 xtop r0 j mm hx0 (by rw [hm67, hmm]) (by omega) (by rw [v_get1 _ _ _ _ _ rfl h04 (by omega)]; exact hj) (fun k hk => by obtain ⟨v, qa, qb⟩ := hne k hk; exact ⟨v, by rw [v_get1 _ _ _ _ _ rfl h04 (by omega)]; exact qa, qb⟩) wv (by rw [v_get1 _ _ _ _ _ rfl h04 (by omega)]; exact hwv)) (hw _ (List.mem_of_getElem? (i := 38) rfl)) (hw _ (List.mem_of_getElem? (i := 39) rfl)) (hw _ (List.mem_of_getElem? (i := 41) rfl)) (hw _ (List.mem_of_getElem? (i := 40) rfl)) (hw _ (List.mem_of_getElem? (i := 14) rfl)) (hw _ (List.mem_of_getElem? (i := 42) rfl)) (by decide) 0 (by decide) (by decide) rfl [(.int (1 : Int32)), (.int xtop)] rfl pd_9 rfl rfl (Nat.le_of_eq rfl) 8 40 rfl rfl (by decide) (by decide) 358 rfl ?_
      rintro _ T70 h70 X70 ⟨rfl, H70⟩
      replace H70 : OL n0 h70 ((b66, OO Z "com/example/palamedes/palamedes/lda/NonzeroTopics" [("com/example/palamedes/palamedes/lda/NonzeroTopics", "starts", "[I", .ref bs67), ("com/example/palamedes/palamedes/lda/NonzeroTopics", "lengths", "[I", .ref bl67), ("com/example/palamedes/palamedes/lda/NonzeroTopics", "topics", "[I", .ref bt67)]) :: (bs67, OA Z .int [(0 : Int32), xr0, (xr0 + xr1)]) :: (bl67, OA Z .int [xz67, (xm67 - (1 : Int32))]) :: (bt67, OA Z .int (List.set (List.take r0 [pa53, pb53, pc53, pd53] ++ List.take r1 [pa56, pb56, pc56, pd56]) (r0 + j) wv)) :: (xk, OA Z .int [y0, y1, y2, y3, y4, y5, y6, y7]) :: (b58, OA Z .int (List.set E62 (r0 + j) wv)) :: (b55, OA Z .int [pa56, pb56, pc56, pd56]) :: (b52, OA Z .int [pa53, pb53, pc53, pd53]) :: []) := H70
      show OE p e (FE s room_1) below n0 Q' T70 (mkF m 358 #[.val (.int xa), .val (.int xb), .val (.int xc), .val (.ref xk), .val (.int (1 : Int32)), .val (.int xtop), .val (.int xix), .val (.int xr0), .val (.int xr1), .val (.ref b52), .val (.int xn53), .val (.ref b55), .val (.int xn56), .val (.ref b58), .val (.ref b55), .val (.int xn56), .val (.int xr0), .val (.int xj), .val (.int xn53), .val (.int (xn56 - (1 : Int32))), .val (.ref b66), .unset] [])
      refine o_iload X70 at_358 rfl 360 rfl ?_
      refine o_iload X70 at_360 rfl 362 rfl ?_
      refine o_iadd X70 at_362 363 rfl ?_
      refine o_istore X70 at_363 #[.val (.int xa), .val (.int xb), .val (.int xc), .val (.ref xk), .val (.int (1 : Int32)), .val (.int xtop), .val (.int xix), .val (.int xr0), .val (.int xr1), .val (.ref b52), .val (.int xn53), .val (.ref b55), .val (.int xn56), .val (.ref b58), .val (.ref b55), .val (.int xn56), .val (.int xr0), .val (.int xj), .val (.int xn53), .val (.int (xn56 - (1 : Int32))), .val (.ref b66), .val (.int (xr0 + xr1))] rfl 365 rfl ?_
      refine o_aload X70 at_365 rfl rfl 367 rfl ?_
      refine o_getF X70 H70 0 rfl at_367 2 rfl (hw _ (List.mem_of_getElem? (i := 43) rfl)) 370 rfl ?_
      intro T75 X75
      refine o_arraylength X75 H70 3 rfl at_370 (xr0 + xr1) (v_al _ _ _ _ _ _ _ _ rfl rfl h04 h14 hx0 hx1) 371 rfl ?_
      refine o_iload X75 at_371 rfl 373 rfl ?_
      refine o_icmpEq X75 at_373 378 376 (by decide) (by decide) rfl ?_ (fun q => by exfalso; exact q rfl)
      intro hc373
      refine o_aload X75 at_378 rfl rfl 380 rfl ?_
      refine o_getF X75 H70 0 rfl at_380 2 rfl (hw _ (List.mem_of_getElem? (i := 43) rfl)) 383 rfl ?_
      intro T76 X76
      refine o_aload X76 at_383 rfl rfl 385 rfl ?_
      refine o_iload X76 at_385 rfl 387 rfl ?_
      have H78 : OL n0 h70 ((b58, OA Z .int (List.set E62 (r0 + j) wv)) :: (b66, OO Z "com/example/palamedes/palamedes/lda/NonzeroTopics" [("com/example/palamedes/palamedes/lda/NonzeroTopics", "starts", "[I", .ref bs67), ("com/example/palamedes/palamedes/lda/NonzeroTopics", "lengths", "[I", .ref bl67), ("com/example/palamedes/palamedes/lda/NonzeroTopics", "topics", "[I", .ref bt67)]) :: (bs67, OA Z .int [(0 : Int32), xr0, (xr0 + xr1)]) :: (bl67, OA Z .int [xz67, (xm67 - (1 : Int32))]) :: (bt67, OA Z .int (List.set (List.take r0 [pa53, pb53, pc53, pd53] ++ List.take r1 [pa56, pb56, pc56, pd56]) (r0 + j) wv)) :: (xk, OA Z .int [y0, y1, y2, y3, y4, y5, y6, y7]) :: (b55, OA Z .int [pa56, pb56, pc56, pd56]) :: (b52, OA Z .int [pa53, pb53, pc53, pd53]) :: []) := H70.front 5 rfl
      have H79 : OL n0 h70 ((bt67, OA Z .int (List.set (List.take r0 [pa53, pb53, pc53, pd53] ++ List.take r1 [pa56, pb56, pc56, pd56]) (r0 + j) wv)) :: (b58, OA Z .int (List.set E62 (r0 + j) wv)) :: (b66, OO Z "com/example/palamedes/palamedes/lda/NonzeroTopics" [("com/example/palamedes/palamedes/lda/NonzeroTopics", "starts", "[I", .ref bs67), ("com/example/palamedes/palamedes/lda/NonzeroTopics", "lengths", "[I", .ref bl67), ("com/example/palamedes/palamedes/lda/NonzeroTopics", "topics", "[I", .ref bt67)]) :: (bs67, OA Z .int [(0 : Int32), xr0, (xr0 + xr1)]) :: (bl67, OA Z .int [xz67, (xm67 - (1 : Int32))]) :: (xk, OA Z .int [y0, y1, y2, y3, y4, y5, y6, y7]) :: (b55, OA Z .int [pa56, pb56, pc56, pd56]) :: (b52, OA Z .int [pa53, pb53, pc53, pd53]) :: []) := H78.front 4 rfl
      refine o_callS X76 at_387 (rest := []) (c_same l Z a0 hw [] n0 _ X76.size bt67 b58 (xr0 + xr1) (List.set (List.take r0 [pa53, pb53, pc53, pd53] ++ List.take r1 [pa56, pb56, pc56, pd56]) (r0 + j) wv) (List.set E62 (r0 + j) wv) ((b66, OO Z "com/example/palamedes/palamedes/lda/NonzeroTopics" [("com/example/palamedes/palamedes/lda/NonzeroTopics", "starts", "[I", .ref bs67), ("com/example/palamedes/palamedes/lda/NonzeroTopics", "lengths", "[I", .ref bl67), ("com/example/palamedes/palamedes/lda/NonzeroTopics", "topics", "[I", .ref bt67)]) :: (bs67, OA Z .int [(0 : Int32), xr0, (xr0 + xr1)]) :: (bl67, OA Z .int [xz67, (xm67 - (1 : Int32))]) :: (xk, OA Z .int [y0, y1, y2, y3, y4, y5, y6, y7]) :: (b55, OA Z .int [pa56, pb56, pc56, pd56]) :: (b52, OA Z .int [pa53, pb53, pc53, pd53]) :: []) H79 (r0 + r1) (v_ad xr0 xr1 r0 r1 hx0 hx1 (by omega) (by omega)) (by omega) (v_same _ _ _ _ _ (v_tlen _ _ _ _ rfl rfl h04 h14) (by omega) (v_E [pa53, pb53, pc53, pd53] [pa56, pb56, pc56, pd56] _ _ r0 r1 _ _ rfl rfl h04 h14 hc0 hc1 (by have q := v_zero y0 y1 y2 y3; rw [hF53.1] at q; exact q) (by have q := v_zero y4 y5 y6 y7; rw [hF56.1] at q; exact q) hP59 hP62))) (hw _ (List.mem_of_getElem? (i := 44) rfl)) (hw _ (List.mem_of_getElem? (i := 45) rfl)) (hw _ (List.mem_of_getElem? (i := 7) rfl)) (hw _ (List.mem_of_getElem? (i := 46) rfl)) (by decide) 0 (by decide) (by decide) rfl [(.ref bt67), (.ref b58), (.int (xr0 + xr1))] rfl pd_10 rfl rfl (Nat.le_of_eq rfl) 8 40 rfl rfl (by decide) (by decide) 390 rfl ?_
      rintro _ T77 _ X77 ⟨rfl, rfl⟩
      show OE p e (FE s room_1) below n0 Q' T77 (mkF m 390 #[.val (.int xa), .val (.int xb), .val (.int xc), .val (.ref xk), .val (.int (1 : Int32)), .val (.int xtop), .val (.int xix), .val (.int xr0), .val (.int xr1), .val (.ref b52), .val (.int xn53), .val (.ref b55), .val (.int xn56), .val (.ref b58), .val (.ref b55), .val (.int xn56), .val (.int xr0), .val (.int xj), .val (.int xn53), .val (.int (xn56 - (1 : Int32))), .val (.ref b66), .val (.int (xr0 + xr1))] [(.int (1 : Int32))])
      refine o_ifEq X77 at_390 439 393 (by decide) (by decide) rfl (fun q => by exfalso; exact absurd q (by decide)) ?_
      intro hc390
      refine o_aload X77 at_393 rfl rfl 395 rfl ?_
      refine o_iconst (v := (0 : Int32)) X77 at_395 rfl 396 rfl ?_
      have H81 : OL n0 h70 ((bl67, OA Z .int [xz67, (xm67 - (1 : Int32))]) :: (bt67, OA Z .int (List.set (List.take r0 [pa53, pb53, pc53, pd53] ++ List.take r1 [pa56, pb56, pc56, pd56]) (r0 + j) wv)) :: (b58, OA Z .int (List.set E62 (r0 + j) wv)) :: (b66, OO Z "com/example/palamedes/palamedes/lda/NonzeroTopics" [("com/example/palamedes/palamedes/lda/NonzeroTopics", "starts", "[I", .ref bs67), ("com/example/palamedes/palamedes/lda/NonzeroTopics", "lengths", "[I", .ref bl67), ("com/example/palamedes/palamedes/lda/NonzeroTopics", "topics", "[I", .ref bt67)]) :: (bs67, OA Z .int [(0 : Int32), xr0, (xr0 + xr1)]) :: (xk, OA Z .int [y0, y1, y2, y3, y4, y5, y6, y7]) :: (b55, OA Z .int [pa56, pb56, pc56, pd56]) :: (b52, OA Z .int [pa53, pb53, pc53, pd53]) :: []) := H79.front 4 rfl
      have H82 : OL n0 h70 ((bs67, OA Z .int [(0 : Int32), xr0, (xr0 + xr1)]) :: (bl67, OA Z .int [xz67, (xm67 - (1 : Int32))]) :: (bt67, OA Z .int (List.set (List.take r0 [pa53, pb53, pc53, pd53] ++ List.take r1 [pa56, pb56, pc56, pd56]) (r0 + j) wv)) :: (b58, OA Z .int (List.set E62 (r0 + j) wv)) :: (b66, OO Z "com/example/palamedes/palamedes/lda/NonzeroTopics" [("com/example/palamedes/palamedes/lda/NonzeroTopics", "starts", "[I", .ref bs67), ("com/example/palamedes/palamedes/lda/NonzeroTopics", "lengths", "[I", .ref bl67), ("com/example/palamedes/palamedes/lda/NonzeroTopics", "topics", "[I", .ref bt67)]) :: (xk, OA Z .int [y0, y1, y2, y3, y4, y5, y6, y7]) :: (b55, OA Z .int [pa56, pb56, pc56, pd56]) :: (b52, OA Z .int [pa53, pb53, pc53, pd53]) :: []) := H81.front 4 rfl
      have H83 : OL n0 h70 ((b66, OO Z "com/example/palamedes/palamedes/lda/NonzeroTopics" [("com/example/palamedes/palamedes/lda/NonzeroTopics", "starts", "[I", .ref bs67), ("com/example/palamedes/palamedes/lda/NonzeroTopics", "lengths", "[I", .ref bl67), ("com/example/palamedes/palamedes/lda/NonzeroTopics", "topics", "[I", .ref bt67)]) :: (bs67, OA Z .int [(0 : Int32), xr0, (xr0 + xr1)]) :: (bl67, OA Z .int [xz67, (xm67 - (1 : Int32))]) :: (bt67, OA Z .int (List.set (List.take r0 [pa53, pb53, pc53, pd53] ++ List.take r1 [pa56, pb56, pc56, pd56]) (r0 + j) wv)) :: (b58, OA Z .int (List.set E62 (r0 + j) wv)) :: (xk, OA Z .int [y0, y1, y2, y3, y4, y5, y6, y7]) :: (b55, OA Z .int [pa56, pb56, pc56, pd56]) :: (b52, OA Z .int [pa53, pb53, pc53, pd53]) :: []) := H82.front 4 rfl
      refine o_callV X77 H83 0 rfl at_396 (rest := []) (c_len0 l Z a0 hw [] n0 _ X77.size b66 bs67 bl67 bt67 (0 : Int32) xr0 (xr0 + xr1) xz67 (xm67 - (1 : Int32)) (List.set (List.take r0 [pa53, pb53, pc53, pd53] ++ List.take r1 [pa56, pb56, pc56, pd56]) (r0 + j) wv) ((b58, OA Z .int (List.set E62 (r0 + j) wv)) :: (xk, OA Z .int [y0, y1, y2, y3, y4, y5, y6, y7]) :: (b55, OA Z .int [pa56, pb56, pc56, pd56]) :: (b52, OA Z .int [pa53, pb53, pc53, pd53]) :: []) H83) (hw _ (List.mem_of_getElem? (i := 47) rfl)) (hw _ (List.mem_of_getElem? (i := 48) rfl)) (hw _ (List.mem_of_getElem? (i := 50) rfl)) (hw _ (List.mem_of_getElem? (i := 49) rfl)) (hw _ (List.mem_of_getElem? (i := 14) rfl)) (hw _ (List.mem_of_getElem? (i := 51) rfl)) (by decide) 0 (by decide) (by decide) rfl [(.int (0 : Int32))] rfl pd_11 rfl rfl (Nat.le_of_eq rfl) 8 40 rfl rfl (by decide) (by decide) 399 rfl ?_
      rintro _ T80 _ X80 ⟨rfl, rfl⟩
      show OE p e (FE s room_1) below n0 Q' T80 (mkF m 399 #[.val (.int xa), .val (.int xb), .val (.int xc), .val (.ref xk), .val (.int (1 : Int32)), .val (.int xtop), .val (.int xix), .val (.int xr0), .val (.int xr1), .val (.ref b52), .val (.int xn53), .val (.ref b55), .val (.int xn56), .val (.ref b58), .val (.ref b55), .val (.int xn56), .val (.int xr0), .val (.int xj), .val (.int xn53), .val (.int (xn56 - (1 : Int32))), .val (.ref b66), .val (.int (xr0 + xr1))] [(.int xz67)])
      refine o_iload X80 at_399 rfl 401 rfl ?_
      refine o_icmpNe X80 at_401 439 404 (by decide) (by decide) rfl (fun q => by exfalso; exact q (by rw [ez])) ?_
      intro hc401
      refine o_aload X80 at_404 rfl rfl 406 rfl ?_
      refine o_iconst (v := (1 : Int32)) X80 at_406 rfl 407 rfl ?_
      have H85 : OL n0 h70 ((bt67, OA Z .int (List.set (List.take r0 [pa53, pb53, pc53, pd53] ++ List.take r1 [pa56, pb56, pc56, pd56]) (r0 + j) wv)) :: (b66, OO Z "com/example/palamedes/palamedes/lda/NonzeroTopics" [("com/example/palamedes/palamedes/lda/NonzeroTopics", "starts", "[I", .ref bs67), ("com/example/palamedes/palamedes/lda/NonzeroTopics", "lengths", "[I", .ref bl67), ("com/example/palamedes/palamedes/lda/NonzeroTopics", "topics", "[I", .ref bt67)]) :: (bs67, OA Z .int [(0 : Int32), xr0, (xr0 + xr1)]) :: (bl67, OA Z .int [xz67, (xm67 - (1 : Int32))]) :: (b58, OA Z .int (List.set E62 (r0 + j) wv)) :: (xk, OA Z .int [y0, y1, y2, y3, y4, y5, y6, y7]) :: (b55, OA Z .int [pa56, pb56, pc56, pd56]) :: (b52, OA Z .int [pa53, pb53, pc53, pd53]) :: []) := H83.front 3 rfl
      have H86 : OL n0 h70 ((bl67, OA Z .int [xz67, (xm67 - (1 : Int32))]) :: (bt67, OA Z .int (List.set (List.take r0 [pa53, pb53, pc53, pd53] ++ List.take r1 [pa56, pb56, pc56, pd56]) (r0 + j) wv)) :: (b66, OO Z "com/example/palamedes/palamedes/lda/NonzeroTopics" [("com/example/palamedes/palamedes/lda/NonzeroTopics", "starts", "[I", .ref bs67), ("com/example/palamedes/palamedes/lda/NonzeroTopics", "lengths", "[I", .ref bl67), ("com/example/palamedes/palamedes/lda/NonzeroTopics", "topics", "[I", .ref bt67)]) :: (bs67, OA Z .int [(0 : Int32), xr0, (xr0 + xr1)]) :: (b58, OA Z .int (List.set E62 (r0 + j) wv)) :: (xk, OA Z .int [y0, y1, y2, y3, y4, y5, y6, y7]) :: (b55, OA Z .int [pa56, pb56, pc56, pd56]) :: (b52, OA Z .int [pa53, pb53, pc53, pd53]) :: []) := H85.front 3 rfl
      have H87 : OL n0 h70 ((bs67, OA Z .int [(0 : Int32), xr0, (xr0 + xr1)]) :: (bl67, OA Z .int [xz67, (xm67 - (1 : Int32))]) :: (bt67, OA Z .int (List.set (List.take r0 [pa53, pb53, pc53, pd53] ++ List.take r1 [pa56, pb56, pc56, pd56]) (r0 + j) wv)) :: (b66, OO Z "com/example/palamedes/palamedes/lda/NonzeroTopics" [("com/example/palamedes/palamedes/lda/NonzeroTopics", "starts", "[I", .ref bs67), ("com/example/palamedes/palamedes/lda/NonzeroTopics", "lengths", "[I", .ref bl67), ("com/example/palamedes/palamedes/lda/NonzeroTopics", "topics", "[I", .ref bt67)]) :: (b58, OA Z .int (List.set E62 (r0 + j) wv)) :: (xk, OA Z .int [y0, y1, y2, y3, y4, y5, y6, y7]) :: (b55, OA Z .int [pa56, pb56, pc56, pd56]) :: (b52, OA Z .int [pa53, pb53, pc53, pd53]) :: []) := H86.front 3 rfl
      have H88 : OL n0 h70 ((b66, OO Z "com/example/palamedes/palamedes/lda/NonzeroTopics" [("com/example/palamedes/palamedes/lda/NonzeroTopics", "starts", "[I", .ref bs67), ("com/example/palamedes/palamedes/lda/NonzeroTopics", "lengths", "[I", .ref bl67), ("com/example/palamedes/palamedes/lda/NonzeroTopics", "topics", "[I", .ref bt67)]) :: (bs67, OA Z .int [(0 : Int32), xr0, (xr0 + xr1)]) :: (bl67, OA Z .int [xz67, (xm67 - (1 : Int32))]) :: (bt67, OA Z .int (List.set (List.take r0 [pa53, pb53, pc53, pd53] ++ List.take r1 [pa56, pb56, pc56, pd56]) (r0 + j) wv)) :: (b58, OA Z .int (List.set E62 (r0 + j) wv)) :: (xk, OA Z .int [y0, y1, y2, y3, y4, y5, y6, y7]) :: (b55, OA Z .int [pa56, pb56, pc56, pd56]) :: (b52, OA Z .int [pa53, pb53, pc53, pd53]) :: []) := H87.front 3 rfl
      refine o_callV X80 H88 0 rfl at_407 (rest := []) (c_len1 l Z a0 hw [] n0 _ X80.size b66 bs67 bl67 bt67 (0 : Int32) xr0 (xr0 + xr1) xz67 (xm67 - (1 : Int32)) (List.set (List.take r0 [pa53, pb53, pc53, pd53] ++ List.take r1 [pa56, pb56, pc56, pd56]) (r0 + j) wv) ((b58, OA Z .int (List.set E62 (r0 + j) wv)) :: (xk, OA Z .int [y0, y1, y2, y3, y4, y5, y6, y7]) :: (b55, OA Z .int [pa56, pb56, pc56, pd56]) :: (b52, OA Z .int [pa53, pb53, pc53, pd53]) :: []) H88) (hw _ (List.mem_of_getElem? (i := 47) rfl)) (hw _ (List.mem_of_getElem? (i := 48) rfl)) (hw _ (List.mem_of_getElem? (i := 50) rfl)) (hw _ (List.mem_of_getElem? (i := 49) rfl)) (hw _ (List.mem_of_getElem? (i := 14) rfl)) (hw _ (List.mem_of_getElem? (i := 51) rfl)) (by decide) 0 (by decide) (by decide) rfl [(.int (1 : Int32))] rfl pd_11 rfl rfl (Nat.le_of_eq rfl) 8 40 rfl rfl (by decide) (by decide) 410 rfl ?_
      rintro _ T84 _ X84 ⟨rfl, rfl⟩
      show OE p e (FE s room_1) below n0 Q' T84 (mkF m 410 #[.val (.int xa), .val (.int xb), .val (.int xc), .val (.ref xk), .val (.int (1 : Int32)), .val (.int xtop), .val (.int xix), .val (.int xr0), .val (.int xr1), .val (.ref b52), .val (.int xn53), .val (.ref b55), .val (.int xn56), .val (.ref b58), .val (.ref b55), .val (.int xn56), .val (.int xr0), .val (.int xj), .val (.int xn53), .val (.int (xn56 - (1 : Int32))), .val (.ref b66), .val (.int (xr0 + xr1))] [(.int (xm67 - (1 : Int32)))])
      refine o_iload X84 at_410 rfl 412 rfl ?_
      refine o_icmpNe X84 at_412 439 415 (by decide) (by decide) rfl (fun q => by exfalso; exact q (by rw [em])) ?_
      intro hc412
      refine o_aload X84 at_415 rfl rfl 417 rfl ?_
      refine o_iconst (v := (0 : Int32)) X84 at_417 rfl 418 rfl ?_
      have H90 : OL n0 h70 ((bt67, OA Z .int (List.set (List.take r0 [pa53, pb53, pc53, pd53] ++ List.take r1 [pa56, pb56, pc56, pd56]) (r0 + j) wv)) :: (b66, OO Z "com/example/palamedes/palamedes/lda/NonzeroTopics" [("com/example/palamedes/palamedes/lda/NonzeroTopics", "starts", "[I", .ref bs67), ("com/example/palamedes/palamedes/lda/NonzeroTopics", "lengths", "[I", .ref bl67), ("com/example/palamedes/palamedes/lda/NonzeroTopics", "topics", "[I", .ref bt67)]) :: (bs67, OA Z .int [(0 : Int32), xr0, (xr0 + xr1)]) :: (bl67, OA Z .int [xz67, (xm67 - (1 : Int32))]) :: (b58, OA Z .int (List.set E62 (r0 + j) wv)) :: (xk, OA Z .int [y0, y1, y2, y3, y4, y5, y6, y7]) :: (b55, OA Z .int [pa56, pb56, pc56, pd56]) :: (b52, OA Z .int [pa53, pb53, pc53, pd53]) :: []) := H88.front 3 rfl
      have H91 : OL n0 h70 ((bl67, OA Z .int [xz67, (xm67 - (1 : Int32))]) :: (bt67, OA Z .int (List.set (List.take r0 [pa53, pb53, pc53, pd53] ++ List.take r1 [pa56, pb56, pc56, pd56]) (r0 + j) wv)) :: (b66, OO Z "com/example/palamedes/palamedes/lda/NonzeroTopics" [("com/example/palamedes/palamedes/lda/NonzeroTopics", "starts", "[I", .ref bs67), ("com/example/palamedes/palamedes/lda/NonzeroTopics", "lengths", "[I", .ref bl67), ("com/example/palamedes/palamedes/lda/NonzeroTopics", "topics", "[I", .ref bt67)]) :: (bs67, OA Z .int [(0 : Int32), xr0, (xr0 + xr1)]) :: (b58, OA Z .int (List.set E62 (r0 + j) wv)) :: (xk, OA Z .int [y0, y1, y2, y3, y4, y5, y6, y7]) :: (b55, OA Z .int [pa56, pb56, pc56, pd56]) :: (b52, OA Z .int [pa53, pb53, pc53, pd53]) :: []) := H90.front 3 rfl
      have H92 : OL n0 h70 ((bs67, OA Z .int [(0 : Int32), xr0, (xr0 + xr1)]) :: (bl67, OA Z .int [xz67, (xm67 - (1 : Int32))]) :: (bt67, OA Z .int (List.set (List.take r0 [pa53, pb53, pc53, pd53] ++ List.take r1 [pa56, pb56, pc56, pd56]) (r0 + j) wv)) :: (b66, OO Z "com/example/palamedes/palamedes/lda/NonzeroTopics" [("com/example/palamedes/palamedes/lda/NonzeroTopics", "starts", "[I", .ref bs67), ("com/example/palamedes/palamedes/lda/NonzeroTopics", "lengths", "[I", .ref bl67), ("com/example/palamedes/palamedes/lda/NonzeroTopics", "topics", "[I", .ref bt67)]) :: (b58, OA Z .int (List.set E62 (r0 + j) wv)) :: (xk, OA Z .int [y0, y1, y2, y3, y4, y5, y6, y7]) :: (b55, OA Z .int [pa56, pb56, pc56, pd56]) :: (b52, OA Z .int [pa53, pb53, pc53, pd53]) :: []) := H91.front 3 rfl
      have H93 : OL n0 h70 ((b66, OO Z "com/example/palamedes/palamedes/lda/NonzeroTopics" [("com/example/palamedes/palamedes/lda/NonzeroTopics", "starts", "[I", .ref bs67), ("com/example/palamedes/palamedes/lda/NonzeroTopics", "lengths", "[I", .ref bl67), ("com/example/palamedes/palamedes/lda/NonzeroTopics", "topics", "[I", .ref bt67)]) :: (bs67, OA Z .int [(0 : Int32), xr0, (xr0 + xr1)]) :: (bl67, OA Z .int [xz67, (xm67 - (1 : Int32))]) :: (bt67, OA Z .int (List.set (List.take r0 [pa53, pb53, pc53, pd53] ++ List.take r1 [pa56, pb56, pc56, pd56]) (r0 + j) wv)) :: (b58, OA Z .int (List.set E62 (r0 + j) wv)) :: (xk, OA Z .int [y0, y1, y2, y3, y4, y5, y6, y7]) :: (b55, OA Z .int [pa56, pb56, pc56, pd56]) :: (b52, OA Z .int [pa53, pb53, pc53, pd53]) :: []) := H92.front 3 rfl
      refine o_callV X84 H93 0 rfl at_418 (rest := []) (c_sta0 l Z a0 hw [] n0 _ X84.size b66 bs67 bl67 bt67 (0 : Int32) xr0 (xr0 + xr1) xz67 (xm67 - (1 : Int32)) (List.set (List.take r0 [pa53, pb53, pc53, pd53] ++ List.take r1 [pa56, pb56, pc56, pd56]) (r0 + j) wv) ((b58, OA Z .int (List.set E62 (r0 + j) wv)) :: (xk, OA Z .int [y0, y1, y2, y3, y4, y5, y6, y7]) :: (b55, OA Z .int [pa56, pb56, pc56, pd56]) :: (b52, OA Z .int [pa53, pb53, pc53, pd53]) :: []) H93) (hw _ (List.mem_of_getElem? (i := 52) rfl)) (hw _ (List.mem_of_getElem? (i := 53) rfl)) (hw _ (List.mem_of_getElem? (i := 55) rfl)) (hw _ (List.mem_of_getElem? (i := 54) rfl)) (hw _ (List.mem_of_getElem? (i := 14) rfl)) (hw _ (List.mem_of_getElem? (i := 56) rfl)) (by decide) 0 (by decide) (by decide) rfl [(.int (0 : Int32))] rfl pd_12 rfl rfl (Nat.le_of_eq rfl) 8 40 rfl rfl (by decide) (by decide) 421 rfl ?_
      rintro _ T89 _ X89 ⟨rfl, rfl⟩
      show OE p e (FE s room_1) below n0 Q' T89 (mkF m 421 #[.val (.int xa), .val (.int xb), .val (.int xc), .val (.ref xk), .val (.int (1 : Int32)), .val (.int xtop), .val (.int xix), .val (.int xr0), .val (.int xr1), .val (.ref b52), .val (.int xn53), .val (.ref b55), .val (.int xn56), .val (.ref b58), .val (.ref b55), .val (.int xn56), .val (.int xr0), .val (.int xj), .val (.int xn53), .val (.int (xn56 - (1 : Int32))), .val (.ref b66), .val (.int (xr0 + xr1))] [(.int (0 : Int32))])
      refine o_ifNe X89 at_421 439 424 (by decide) (by decide) rfl (fun q => by exfalso; exact absurd q (by decide)) ?_
      intro hc421
      refine o_aload X89 at_424 rfl rfl 426 rfl ?_
      refine o_iconst (v := (1 : Int32)) X89 at_426 rfl 427 rfl ?_
      have H95 : OL n0 h70 ((bt67, OA Z .int (List.set (List.take r0 [pa53, pb53, pc53, pd53] ++ List.take r1 [pa56, pb56, pc56, pd56]) (r0 + j) wv)) :: (b66, OO Z "com/example/palamedes/palamedes/lda/NonzeroTopics" [("com/example/palamedes/palamedes/lda/NonzeroTopics", "starts", "[I", .ref bs67), ("com/example/palamedes/palamedes/lda/NonzeroTopics", "lengths", "[I", .ref bl67), ("com/example/palamedes/palamedes/lda/NonzeroTopics", "topics", "[I", .ref bt67)]) :: (bs67, OA Z .int [(0 : Int32), xr0, (xr0 + xr1)]) :: (bl67, OA Z .int [xz67, (xm67 - (1 : Int32))]) :: (b58, OA Z .int (List.set E62 (r0 + j) wv)) :: (xk, OA Z .int [y0, y1, y2, y3, y4, y5, y6, y7]) :: (b55, OA Z .int [pa56, pb56, pc56, pd56]) :: (b52, OA Z .int [pa53, pb53, pc53, pd53]) :: []) := H93.front 3 rfl
      have H96 : OL n0 h70 ((bl67, OA Z .int [xz67, (xm67 - (1 : Int32))]) :: (bt67, OA Z .int (List.set (List.take r0 [pa53, pb53, pc53, pd53] ++ List.take r1 [pa56, pb56, pc56, pd56]) (r0 + j) wv)) :: (b66, OO Z "com/example/palamedes/palamedes/lda/NonzeroTopics" [("com/example/palamedes/palamedes/lda/NonzeroTopics", "starts", "[I", .ref bs67), ("com/example/palamedes/palamedes/lda/NonzeroTopics", "lengths", "[I", .ref bl67), ("com/example/palamedes/palamedes/lda/NonzeroTopics", "topics", "[I", .ref bt67)]) :: (bs67, OA Z .int [(0 : Int32), xr0, (xr0 + xr1)]) :: (b58, OA Z .int (List.set E62 (r0 + j) wv)) :: (xk, OA Z .int [y0, y1, y2, y3, y4, y5, y6, y7]) :: (b55, OA Z .int [pa56, pb56, pc56, pd56]) :: (b52, OA Z .int [pa53, pb53, pc53, pd53]) :: []) := H95.front 3 rfl
      have H97 : OL n0 h70 ((bs67, OA Z .int [(0 : Int32), xr0, (xr0 + xr1)]) :: (bl67, OA Z .int [xz67, (xm67 - (1 : Int32))]) :: (bt67, OA Z .int (List.set (List.take r0 [pa53, pb53, pc53, pd53] ++ List.take r1 [pa56, pb56, pc56, pd56]) (r0 + j) wv)) :: (b66, OO Z "com/example/palamedes/palamedes/lda/NonzeroTopics" [("com/example/palamedes/palamedes/lda/NonzeroTopics", "starts", "[I", .ref bs67), ("com/example/palamedes/palamedes/lda/NonzeroTopics", "lengths", "[I", .ref bl67), ("com/example/palamedes/palamedes/lda/NonzeroTopics", "topics", "[I", .ref bt67)]) :: (b58, OA Z .int (List.set E62 (r0 + j) wv)) :: (xk, OA Z .int [y0, y1, y2, y3, y4, y5, y6, y7]) :: (b55, OA Z .int [pa56, pb56, pc56, pd56]) :: (b52, OA Z .int [pa53, pb53, pc53, pd53]) :: []) := H96.front 3 rfl
      have H98 : OL n0 h70 ((b66, OO Z "com/example/palamedes/palamedes/lda/NonzeroTopics" [("com/example/palamedes/palamedes/lda/NonzeroTopics", "starts", "[I", .ref bs67), ("com/example/palamedes/palamedes/lda/NonzeroTopics", "lengths", "[I", .ref bl67), ("com/example/palamedes/palamedes/lda/NonzeroTopics", "topics", "[I", .ref bt67)]) :: (bs67, OA Z .int [(0 : Int32), xr0, (xr0 + xr1)]) :: (bl67, OA Z .int [xz67, (xm67 - (1 : Int32))]) :: (bt67, OA Z .int (List.set (List.take r0 [pa53, pb53, pc53, pd53] ++ List.take r1 [pa56, pb56, pc56, pd56]) (r0 + j) wv)) :: (b58, OA Z .int (List.set E62 (r0 + j) wv)) :: (xk, OA Z .int [y0, y1, y2, y3, y4, y5, y6, y7]) :: (b55, OA Z .int [pa56, pb56, pc56, pd56]) :: (b52, OA Z .int [pa53, pb53, pc53, pd53]) :: []) := H97.front 3 rfl
      refine o_callV X89 H98 0 rfl at_427 (rest := []) (c_sta1 l Z a0 hw [] n0 _ X89.size b66 bs67 bl67 bt67 (0 : Int32) xr0 (xr0 + xr1) xz67 (xm67 - (1 : Int32)) (List.set (List.take r0 [pa53, pb53, pc53, pd53] ++ List.take r1 [pa56, pb56, pc56, pd56]) (r0 + j) wv) ((b58, OA Z .int (List.set E62 (r0 + j) wv)) :: (xk, OA Z .int [y0, y1, y2, y3, y4, y5, y6, y7]) :: (b55, OA Z .int [pa56, pb56, pc56, pd56]) :: (b52, OA Z .int [pa53, pb53, pc53, pd53]) :: []) H98) (hw _ (List.mem_of_getElem? (i := 52) rfl)) (hw _ (List.mem_of_getElem? (i := 53) rfl)) (hw _ (List.mem_of_getElem? (i := 55) rfl)) (hw _ (List.mem_of_getElem? (i := 54) rfl)) (hw _ (List.mem_of_getElem? (i := 14) rfl)) (hw _ (List.mem_of_getElem? (i := 56) rfl)) (by decide) 0 (by decide) (by decide) rfl [(.int (1 : Int32))] rfl pd_12 rfl rfl (Nat.le_of_eq rfl) 8 40 rfl rfl (by decide) (by decide) 430 rfl ?_
      rintro _ T94 _ X94 ⟨rfl, rfl⟩
      show OE p e (FE s room_1) below n0 Q' T94 (mkF m 430 #[.val (.int xa), .val (.int xb), .val (.int xc), .val (.ref xk), .val (.int (1 : Int32)), .val (.int xtop), .val (.int xix), .val (.int xr0), .val (.int xr1), .val (.ref b52), .val (.int xn53), .val (.ref b55), .val (.int xn56), .val (.ref b58), .val (.ref b55), .val (.int xn56), .val (.int xr0), .val (.int xj), .val (.int xn53), .val (.int (xn56 - (1 : Int32))), .val (.ref b66), .val (.int (xr0 + xr1))] [(.int xr0)])
      refine o_iload X94 at_430 rfl 432 rfl ?_
      refine o_icmpNe X94 at_432 439 435 (by decide) (by decide) rfl (fun q => by exfalso; exact q rfl) ?_
      intro hc432
      refine o_iconst (v := (1 : Int32)) X94 at_435 rfl 436 rfl ?_
      refine o_goto X94 at_436 440 (by decide) (by decide) ?_
      exact o_retZ X94 at_440 (by decide) (by decide) (hQ _ _ rfl)
    have hj4 : j = 0 ∨ j = 1 ∨ j = 2 ∨ j = 3 := by omega
    rcases hj4 with rfl | rfl | rfl | rfl
    · have hp : pa56 = xtop := Option.some.inj hj
      refine o_aload X62 at_248 rfl rfl 250 rfl ?_
      refine o_iconst (v := (0 : Int32)) X62 at_250 rfl 251 rfl ?_
      refine o_iaload X62 H62 1 rfl at_251 0 rfl pa56 rfl 252 rfl ?_
      refine o_iload X62 at_252 rfl 254 rfl ?_
      refine o_icmpNe X62 at_254 261 257 (by decide) (by decide) rfl (fun q => by exfalso; exact q hp) ?_
      intro hc254
      refine o_iconst (v := (0 : Int32)) X62 at_257 rfl 258 rfl ?_
      refine o_goto X62 at_258 288 (by decide) (by decide) ?_
      refine o_istore X62 at_288 #[.val (.int xa), .val (.int xb), .val (.int xc), .val (.ref xk), .val (.int (1 : Int32)), .val (.int xtop), .val (.int xix), .val (.int xr0), .val (.int xr1), .val (.ref b52), .val (.int xn53), .val (.ref b55), .val (.int xn56), .val (.ref b58), .val (.ref b55), .val (.int xn56), .val (.int xr0), .val (.int (0 : Int32)), .unset, .unset, .unset, .unset] rfl 290 rfl ?_
      exact J290 _ _ _ X62 H62 rfl
    · have hp : pb56 = xtop := Option.some.inj hj
      have hn_0 : ¬ pa56 = xtop := fun q => hne 0 (by decide) (congrArg some q)
      refine o_aload X62 at_248 rfl rfl 250 rfl ?_
      refine o_iconst (v := (0 : Int32)) X62 at_250 rfl 251 rfl ?_
      refine o_iaload X62 H62 1 rfl at_251 0 rfl pa56 rfl 252 rfl ?_
      refine o_iload X62 at_252 rfl 254 rfl ?_
      refine o_icmpNe X62 at_254 261 257 (by decide) (by decide) rfl ?_ (fun q => by exfalso; exact hn_0 q)
      intro hc254
      refine o_aload X62 at_261 rfl rfl 263 rfl ?_
      refine o_iconst (v := (1 : Int32)) X62 at_263 rfl 264 rfl ?_
      refine o_iaload X62 H62 1 rfl at_264 1 rfl pb56 rfl 265 rfl ?_
      refine o_iload X62 at_265 rfl 267 rfl ?_
      refine o_icmpNe X62 at_267 274 270 (by decide) (by decide) rfl (fun q => by exfalso; exact q hp) ?_
      intro hc267
      refine o_iconst (v := (1 : Int32)) X62 at_270 rfl 271 rfl ?_
      refine o_goto X62 at_271 288 (by decide) (by decide) ?_
      refine o_istore X62 at_288 #[.val (.int xa), .val (.int xb), .val (.int xc), .val (.ref xk), .val (.int (1 : Int32)), .val (.int xtop), .val (.int xix), .val (.int xr0), .val (.int xr1), .val (.ref b52), .val (.int xn53), .val (.ref b55), .val (.int xn56), .val (.ref b58), .val (.ref b55), .val (.int xn56), .val (.int xr0), .val (.int (1 : Int32)), .unset, .unset, .unset, .unset] rfl 290 rfl ?_
      exact J290 _ _ _ X62 H62 rfl
    · have hp : pc56 = xtop := Option.some.inj hj
      have hn_0 : ¬ pa56 = xtop := fun q => hne 0 (by decide) (congrArg some q)
      have hn_1 : ¬ pb56 = xtop := fun q => hne 1 (by decide) (congrArg some q)
      refine o_aload X62 at_248 rfl rfl 250 rfl ?_
      refine o_iconst (v := (0 : Int32)) X62 at_250 rfl 251 rfl ?_
      refine o_iaload X62 H62 1 rfl at_251 0 rfl pa56 rfl 252 rfl ?_
      refine o_iload X62 at_252 rfl 254 rfl ?_
      refine o_icmpNe X62 at_254 261 257 (by decide) (by decide) rfl ?_ (fun q => by exfalso; exact hn_0 q)
      intro hc254
      refine o_aload X62 at_261 rfl rfl 263 rfl ?_
      refine o_iconst (v := (1 : Int32)) X62 at_263 rfl 264 rfl ?_
      refine o_iaload X62 H62 1 rfl at_264 1 rfl pb56 rfl 265 rfl ?_
      refine o_iload X62 at_265 rfl 267 rfl ?_
      refine o_icmpNe X62 at_267 274 270 (by decide) (by decide) rfl ?_ (fun q => by exfalso; exact hn_1 q)
      intro hc267
      refine o_aload X62 at_274 rfl rfl 276 rfl ?_
      refine o_iconst (v := (2 : Int32)) X62 at_276 rfl 277 rfl ?_
      refine o_iaload X62 H62 1 rfl at_277 2 rfl pc56 rfl 278 rfl ?_
      refine o_iload X62 at_278 rfl 280 rfl ?_
      refine o_icmpNe X62 at_280 287 283 (by decide) (by decide) rfl (fun q => by exfalso; exact q hp) ?_
      intro hc280
      refine o_iconst (v := (2 : Int32)) X62 at_283 rfl 284 rfl ?_
      refine o_goto X62 at_284 288 (by decide) (by decide) ?_
      refine o_istore X62 at_288 #[.val (.int xa), .val (.int xb), .val (.int xc), .val (.ref xk), .val (.int (1 : Int32)), .val (.int xtop), .val (.int xix), .val (.int xr0), .val (.int xr1), .val (.ref b52), .val (.int xn53), .val (.ref b55), .val (.int xn56), .val (.ref b58), .val (.ref b55), .val (.int xn56), .val (.int xr0), .val (.int (2 : Int32)), .unset, .unset, .unset, .unset] rfl 290 rfl ?_
      exact J290 _ _ _ X62 H62 rfl
    · have hp : pd56 = xtop := Option.some.inj hj
      have hn_0 : ¬ pa56 = xtop := fun q => hne 0 (by decide) (congrArg some q)
      have hn_1 : ¬ pb56 = xtop := fun q => hne 1 (by decide) (congrArg some q)
      have hn_2 : ¬ pc56 = xtop := fun q => hne 2 (by decide) (congrArg some q)
      refine o_aload X62 at_248 rfl rfl 250 rfl ?_
      refine o_iconst (v := (0 : Int32)) X62 at_250 rfl 251 rfl ?_
      refine o_iaload X62 H62 1 rfl at_251 0 rfl pa56 rfl 252 rfl ?_
      refine o_iload X62 at_252 rfl 254 rfl ?_
      refine o_icmpNe X62 at_254 261 257 (by decide) (by decide) rfl ?_ (fun q => by exfalso; exact hn_0 q)
      intro hc254
      refine o_aload X62 at_261 rfl rfl 263 rfl ?_
      refine o_iconst (v := (1 : Int32)) X62 at_263 rfl 264 rfl ?_
      refine o_iaload X62 H62 1 rfl at_264 1 rfl pb56 rfl 265 rfl ?_
      refine o_iload X62 at_265 rfl 267 rfl ?_
      refine o_icmpNe X62 at_267 274 270 (by decide) (by decide) rfl ?_ (fun q => by exfalso; exact hn_1 q)
      intro hc267
      refine o_aload X62 at_274 rfl rfl 276 rfl ?_
      refine o_iconst (v := (2 : Int32)) X62 at_276 rfl 277 rfl ?_
      refine o_iaload X62 H62 1 rfl at_277 2 rfl pc56 rfl 278 rfl ?_
      refine o_iload X62 at_278 rfl 280 rfl ?_
      refine o_icmpNe X62 at_280 287 283 (by decide) (by decide) rfl ?_ (fun q => by exfalso; exact hn_2 q)
      intro hc280
      refine o_iconst (v := (3 : Int32)) X62 at_287 rfl 288 rfl ?_
      refine o_istore X62 at_288 #[.val (.int xa), .val (.int xb), .val (.int xc), .val (.ref xk), .val (.int (1 : Int32)), .val (.int xtop), .val (.int xix), .val (.int xr0), .val (.int xr1), .val (.ref b52), .val (.int xn53), .val (.ref b55), .val (.int xn56), .val (.ref b58), .val (.ref b55), .val (.int xn56), .val (.int xr0), .val (.int (3 : Int32)), .unset, .unset, .unset, .unset] rfl 290 rfl ?_
      exact J290 _ _ _ X62 H62 rfl
  have J69 : ∀ (T : State) (h : Heap) (xk : Addr) (y0 y1 y2 y3 y4 y5 y6 y7 : Int32), OW p l e room_1 s m #[(.int xa), (.int xb), (.int xc)] below meth cd0 Z x code maxLocals ret n0 T h 1 8 → OL n0 h ((xk, OA Z .int [y0, y1, y2, y3, y4, y5, y6, y7]) :: []) → f_ok y0 → f_ok y1 → f_ok y2 → f_ok y3 → f_ok y4 → f_ok y5 → f_ok y6 → f_ok y7 → OE p e (FE s room_1) below n0 Q' T (mkF m 69 #[.val (.int xa), .val (.int xb), .val (.int xc), .val (.ref xk), .unset, .unset, .unset, .unset, .unset, .unset, .unset, .unset, .unset, .unset, .unset, .unset, .unset, .unset, .unset, .unset, .unset, .unset] []) := by
    intro T h xk y0 y1 y2 y3 y4 y5 y6 y7 X_J69 H_J69 o0 o1 o2 o3 o4 o5 o6 o7
    refine o_iloadN X_J69 at_69 rfl 70 rfl ?_
    refine o_iconst (v := (1 : Int32)) X_J69 at_70 rfl 71 rfl ?_
    refine o_iand X_J69 at_71 72 rfl ?_
    refine o_istore X_J69 at_72 #[.val (.int xa), .val (.int xb), .val (.int xc), .val (.ref xk), .val (.int (xc &&& (1 : Int32))), .unset, .unset, .unset, .unset, .unset, .unset, .unset, .unset, .unset, .unset, .unset, .unset, .unset, .unset, .unset, .unset, .unset] rfl 74 rfl ?_
    refine o_iloadN X_J69 at_74 rfl 75 rfl ?_
    refine o_iconst (v := (1 : Int32)) X_J69 at_75 rfl 76 rfl ?_
    refine o_iushr X_J69 at_76 77 rfl ?_
    refine o_iconst (v := (3 : Int32)) X_J69 at_77 rfl 78 rfl ?_
    refine o_iand X_J69 at_78 79 rfl ?_
    refine o_istore X_J69 at_79 #[.val (.int xa), .val (.int xb), .val (.int xc), .val (.ref xk), .val (.int (xc &&& (1 : Int32))), .val (.int ((XT.ushr xc (1 : Int32)) &&& (3 : Int32))), .unset, .unset, .unset, .unset, .unset, .unset, .unset, .unset, .unset, .unset, .unset, .unset, .unset, .unset, .unset, .unset] rfl 81 rfl ?_
    rcases v_row xc with hv | hv
    · rw [hv]
      rcases v_top (XT.ushr xc (1 : Int32)) with hv | hv | hv | hv
      · rw [hv]
        refine o_iload X_J69 at_81 rfl 83 rfl ?_
        refine o_iconst (v := (4 : Int32)) X_J69 at_83 rfl 84 rfl ?_
        refine o_imul X_J69 at_84 85 rfl ?_
        refine o_iload X_J69 at_85 rfl 87 rfl ?_
        refine o_iadd X_J69 at_87 88 rfl ?_
        refine o_istore X_J69 at_88 #[.val (.int xa), .val (.int xb), .val (.int xc), .val (.ref xk), .val (.int (0 : Int32)), .val (.int (0 : Int32)), .val (.int (((0 : Int32) * (4 : Int32)) + (0 : Int32))), .unset, .unset, .unset, .unset, .unset, .unset, .unset, .unset, .unset, .unset, .unset, .unset, .unset, .unset, .unset] rfl 90 rfl ?_
        rw [show (((0 : Int32) * (4 : Int32)) + (0 : Int32)) = (0 : Int32) from rfl]
        refine o_aloadN X_J69 at_90 rfl rfl 91 rfl ?_
        refine o_iload X_J69 at_91 rfl 93 rfl ?_
        refine o_iaload X_J69 H_J69 0 rfl at_93 0 rfl y0 rfl 94 rfl ?_
        refine o_ifNe X_J69 at_94 108 97 (by decide) (by decide) rfl ?_ ?_
        · intro hc94
          exact J108_0 _ _ xk y0 y1 y2 y3 y4 y5 y6 y7 _ _ X_J69 H_J69 o0 o1 o2 o3 o4 o5 o6 o7 (v_find0 _ _ _ _ (v_pos _ o0 hc94))
        · intro hc94
          refine o_aloadN X_J69 at_97 rfl rfl 98 rfl ?_
          refine o_iload X_J69 at_98 rfl 100 rfl ?_
          refine o_iconst (v := (1 : Int32)) X_J69 at_100 rfl 101 rfl ?_
          refine o_iloadN X_J69 at_101 rfl 102 rfl ?_
          refine o_iconst (v := (3 : Int32)) X_J69 at_102 rfl 103 rfl ?_
          refine o_iushr X_J69 at_103 104 rfl ?_
          refine o_iconst (v := (1 : Int32)) X_J69 at_104 rfl 105 rfl ?_
          refine o_iand X_J69 at_105 106 rfl ?_
          refine o_iadd X_J69 at_106 107 rfl ?_
          refine o_iastore X_J69 H_J69 0 rfl at_107 0 rfl (by show 0 < 8; decide) 108 rfl ?_
          intro T99 h99 X99 H99
          replace H99 : OL n0 h99 ((xk, OA Z .int [((1 : Int32) + ((XT.ushr xc (3 : Int32)) &&& (1 : Int32))), y1, y2, y3, y4, y5, y6, y7]) :: []) := H99
          exact J108_0 _ _ xk ((1 : Int32) + ((XT.ushr xc (3 : Int32)) &&& (1 : Int32))) y1 y2 y3 y4 y5 y6 y7 _ _ X99 H99 (v_z _).1 o1 o2 o3 o4 o5 o6 o7 (v_find0 _ _ _ _ (v_z _).2)
      · rw [hv]
        refine o_iload X_J69 at_81 rfl 83 rfl ?_
        refine o_iconst (v := (4 : Int32)) X_J69 at_83 rfl 84 rfl ?_
        refine o_imul X_J69 at_84 85 rfl ?_
        refine o_iload X_J69 at_85 rfl 87 rfl ?_
        refine o_iadd X_J69 at_87 88 rfl ?_
        refine o_istore X_J69 at_88 #[.val (.int xa), .val (.int xb), .val (.int xc), .val (.ref xk), .val (.int (0 : Int32)), .val (.int (1 : Int32)), .val (.int (((0 : Int32) * (4 : Int32)) + (1 : Int32))), .unset, .unset, .unset, .unset, .unset, .unset, .unset, .unset, .unset, .unset, .unset, .unset, .unset, .unset, .unset] rfl 90 rfl ?_
        rw [show (((0 : Int32) * (4 : Int32)) + (1 : Int32)) = (1 : Int32) from rfl]
        refine o_aloadN X_J69 at_90 rfl rfl 91 rfl ?_
        refine o_iload X_J69 at_91 rfl 93 rfl ?_
        refine o_iaload X_J69 H_J69 0 rfl at_93 1 rfl y1 rfl 94 rfl ?_
        refine o_ifNe X_J69 at_94 108 97 (by decide) (by decide) rfl ?_ ?_
        · intro hc94
          exact J108_0 _ _ xk y0 y1 y2 y3 y4 y5 y6 y7 _ _ X_J69 H_J69 o0 o1 o2 o3 o4 o5 o6 o7 (v_find1 _ _ _ _ (v_pos _ o1 hc94))
        · intro hc94
          refine o_aloadN X_J69 at_97 rfl rfl 98 rfl ?_
          refine o_iload X_J69 at_98 rfl 100 rfl ?_
          refine o_iconst (v := (1 : Int32)) X_J69 at_100 rfl 101 rfl ?_
          refine o_iloadN X_J69 at_101 rfl 102 rfl ?_
          refine o_iconst (v := (3 : Int32)) X_J69 at_102 rfl 103 rfl ?_
          refine o_iushr X_J69 at_103 104 rfl ?_
          refine o_iconst (v := (1 : Int32)) X_J69 at_104 rfl 105 rfl ?_
          refine o_iand X_J69 at_105 106 rfl ?_
          refine o_iadd X_J69 at_106 107 rfl ?_
          refine o_iastore X_J69 H_J69 0 rfl at_107 1 rfl (by show 1 < 8; decide) 108 rfl ?_
          intro T100 h100 X100 H100
          replace H100 : OL n0 h100 ((xk, OA Z .int [y0, ((1 : Int32) + ((XT.ushr xc (3 : Int32)) &&& (1 : Int32))), y2, y3, y4, y5, y6, y7]) :: []) := H100
          exact J108_0 _ _ xk y0 ((1 : Int32) + ((XT.ushr xc (3 : Int32)) &&& (1 : Int32))) y2 y3 y4 y5 y6 y7 _ _ X100 H100 o0 (v_z _).1 o2 o3 o4 o5 o6 o7 (v_find1 _ _ _ _ (v_z _).2)
      · rw [hv]
        refine o_iload X_J69 at_81 rfl 83 rfl ?_
        refine o_iconst (v := (4 : Int32)) X_J69 at_83 rfl 84 rfl ?_
        refine o_imul X_J69 at_84 85 rfl ?_
        refine o_iload X_J69 at_85 rfl 87 rfl ?_
        refine o_iadd X_J69 at_87 88 rfl ?_
        refine o_istore X_J69 at_88 #[.val (.int xa), .val (.int xb), .val (.int xc), .val (.ref xk), .val (.int (0 : Int32)), .val (.int (2 : Int32)), .val (.int (((0 : Int32) * (4 : Int32)) + (2 : Int32))), .unset, .unset, .unset, .unset, .unset, .unset, .unset, .unset, .unset, .unset, .unset, .unset, .unset, .unset, .unset] rfl 90 rfl ?_
        rw [show (((0 : Int32) * (4 : Int32)) + (2 : Int32)) = (2 : Int32) from rfl]
        refine o_aloadN X_J69 at_90 rfl rfl 91 rfl ?_
        refine o_iload X_J69 at_91 rfl 93 rfl ?_
        refine o_iaload X_J69 H_J69 0 rfl at_93 2 rfl y2 rfl 94 rfl ?_
        refine o_ifNe X_J69 at_94 108 97 (by decide) (by decide) rfl ?_ ?_
        · intro hc94
          exact J108_0 _ _ xk y0 y1 y2 y3 y4 y5 y6 y7 _ _ X_J69 H_J69 o0 o1 o2 o3 o4 o5 o6 o7 (v_find2 _ _ _ _ (v_pos _ o2 hc94))
        · intro hc94
          refine o_aloadN X_J69 at_97 rfl rfl 98 rfl ?_
          refine o_iload X_J69 at_98 rfl 100 rfl ?_
          refine o_iconst (v := (1 : Int32)) X_J69 at_100 rfl 101 rfl ?_
          refine o_iloadN X_J69 at_101 rfl 102 rfl ?_
          refine o_iconst (v := (3 : Int32)) X_J69 at_102 rfl 103 rfl ?_
          refine o_iushr X_J69 at_103 104 rfl ?_
          refine o_iconst (v := (1 : Int32)) X_J69 at_104 rfl 105 rfl ?_
          refine o_iand X_J69 at_105 106 rfl ?_
          refine o_iadd X_J69 at_106 107 rfl ?_
          refine o_iastore X_J69 H_J69 0 rfl at_107 2 rfl (by show 2 < 8; decide) 108 rfl ?_
          intro T101 h101 X101 H101
          replace H101 : OL n0 h101 ((xk, OA Z .int [y0, y1, ((1 : Int32) + ((XT.ushr xc (3 : Int32)) &&& (1 : Int32))), y3, y4, y5, y6, y7]) :: []) := H101
          exact J108_0 _ _ xk y0 y1 ((1 : Int32) + ((XT.ushr xc (3 : Int32)) &&& (1 : Int32))) y3 y4 y5 y6 y7 _ _ X101 H101 o0 o1 (v_z _).1 o3 o4 o5 o6 o7 (v_find2 _ _ _ _ (v_z _).2)
      · rw [hv]
        refine o_iload X_J69 at_81 rfl 83 rfl ?_
        refine o_iconst (v := (4 : Int32)) X_J69 at_83 rfl 84 rfl ?_
        refine o_imul X_J69 at_84 85 rfl ?_
        refine o_iload X_J69 at_85 rfl 87 rfl ?_
        refine o_iadd X_J69 at_87 88 rfl ?_
        refine o_istore X_J69 at_88 #[.val (.int xa), .val (.int xb), .val (.int xc), .val (.ref xk), .val (.int (0 : Int32)), .val (.int (3 : Int32)), .val (.int (((0 : Int32) * (4 : Int32)) + (3 : Int32))), .unset, .unset, .unset, .unset, .unset, .unset, .unset, .unset, .unset, .unset, .unset, .unset, .unset, .unset, .unset] rfl 90 rfl ?_
        rw [show (((0 : Int32) * (4 : Int32)) + (3 : Int32)) = (3 : Int32) from rfl]
        refine o_aloadN X_J69 at_90 rfl rfl 91 rfl ?_
        refine o_iload X_J69 at_91 rfl 93 rfl ?_
        refine o_iaload X_J69 H_J69 0 rfl at_93 3 rfl y3 rfl 94 rfl ?_
        refine o_ifNe X_J69 at_94 108 97 (by decide) (by decide) rfl ?_ ?_
        · intro hc94
          exact J108_0 _ _ xk y0 y1 y2 y3 y4 y5 y6 y7 _ _ X_J69 H_J69 o0 o1 o2 o3 o4 o5 o6 o7 (v_find3 _ _ _ _ (v_pos _ o3 hc94))
        · intro hc94
          refine o_aloadN X_J69 at_97 rfl rfl 98 rfl ?_
          refine o_iload X_J69 at_98 rfl 100 rfl ?_
          refine o_iconst (v := (1 : Int32)) X_J69 at_100 rfl 101 rfl ?_
          refine o_iloadN X_J69 at_101 rfl 102 rfl ?_
          refine o_iconst (v := (3 : Int32)) X_J69 at_102 rfl 103 rfl ?_
          refine o_iushr X_J69 at_103 104 rfl ?_
          refine o_iconst (v := (1 : Int32)) X_J69 at_104 rfl 105 rfl ?_
          refine o_iand X_J69 at_105 106 rfl ?_
          refine o_iadd X_J69 at_106 107 rfl ?_
          refine o_iastore X_J69 H_J69 0 rfl at_107 3 rfl (by show 3 < 8; decide) 108 rfl ?_
          intro T102 h102 X102 H102
          replace H102 : OL n0 h102 ((xk, OA Z .int [y0, y1, y2, ((1 : Int32) + ((XT.ushr xc (3 : Int32)) &&& (1 : Int32))), y4, y5, y6, y7]) :: []) := H102
          exact J108_0 _ _ xk y0 y1 y2 ((1 : Int32) + ((XT.ushr xc (3 : Int32)) &&& (1 : Int32))) y4 y5 y6 y7 _ _ X102 H102 o0 o1 o2 (v_z _).1 o4 o5 o6 o7 (v_find3 _ _ _ _ (v_z _).2)
    · rw [hv]
      rcases v_top (XT.ushr xc (1 : Int32)) with hv | hv | hv | hv
      · rw [hv]
        refine o_iload X_J69 at_81 rfl 83 rfl ?_
        refine o_iconst (v := (4 : Int32)) X_J69 at_83 rfl 84 rfl ?_
        refine o_imul X_J69 at_84 85 rfl ?_
        refine o_iload X_J69 at_85 rfl 87 rfl ?_
        refine o_iadd X_J69 at_87 88 rfl ?_
        refine o_istore X_J69 at_88 #[.val (.int xa), .val (.int xb), .val (.int xc), .val (.ref xk), .val (.int (1 : Int32)), .val (.int (0 : Int32)), .val (.int (((1 : Int32) * (4 : Int32)) + (0 : Int32))), .unset, .unset, .unset, .unset, .unset, .unset, .unset, .unset, .unset, .unset, .unset, .unset, .unset, .unset, .unset] rfl 90 rfl ?_
        rw [show (((1 : Int32) * (4 : Int32)) + (0 : Int32)) = (4 : Int32) from rfl]
        refine o_aloadN X_J69 at_90 rfl rfl 91 rfl ?_
        refine o_iload X_J69 at_91 rfl 93 rfl ?_
        refine o_iaload X_J69 H_J69 0 rfl at_93 4 rfl y4 rfl 94 rfl ?_
        refine o_ifNe X_J69 at_94 108 97 (by decide) (by decide) rfl ?_ ?_
        · intro hc94
          exact J108_1 _ _ xk y0 y1 y2 y3 y4 y5 y6 y7 _ _ X_J69 H_J69 o0 o1 o2 o3 o4 o5 o6 o7 (v_find0 _ _ _ _ (v_pos _ o4 hc94))
        · intro hc94
          refine o_aloadN X_J69 at_97 rfl rfl 98 rfl ?_
          refine o_iload X_J69 at_98 rfl 100 rfl ?_
          refine o_iconst (v := (1 : Int32)) X_J69 at_100 rfl 101 rfl ?_
          refine o_iloadN X_J69 at_101 rfl 102 rfl ?_
          refine o_iconst (v := (3 : Int32)) X_J69 at_102 rfl 103 rfl ?_
          refine o_iushr X_J69 at_103 104 rfl ?_
          refine o_iconst (v := (1 : Int32)) X_J69 at_104 rfl 105 rfl ?_
          refine o_iand X_J69 at_105 106 rfl ?_
          refine o_iadd X_J69 at_106 107 rfl ?_
          refine o_iastore X_J69 H_J69 0 rfl at_107 4 rfl (by show 4 < 8; decide) 108 rfl ?_
          intro T103 h103 X103 H103
          replace H103 : OL n0 h103 ((xk, OA Z .int [y0, y1, y2, y3, ((1 : Int32) + ((XT.ushr xc (3 : Int32)) &&& (1 : Int32))), y5, y6, y7]) :: []) := H103
          exact J108_1 _ _ xk y0 y1 y2 y3 ((1 : Int32) + ((XT.ushr xc (3 : Int32)) &&& (1 : Int32))) y5 y6 y7 _ _ X103 H103 o0 o1 o2 o3 (v_z _).1 o5 o6 o7 (v_find0 _ _ _ _ (v_z _).2)
      · rw [hv]
        refine o_iload X_J69 at_81 rfl 83 rfl ?_
        refine o_iconst (v := (4 : Int32)) X_J69 at_83 rfl 84 rfl ?_
        refine o_imul X_J69 at_84 85 rfl ?_
        refine o_iload X_J69 at_85 rfl 87 rfl ?_
        refine o_iadd X_J69 at_87 88 rfl ?_
        refine o_istore X_J69 at_88 #[.val (.int xa), .val (.int xb), .val (.int xc), .val (.ref xk), .val (.int (1 : Int32)), .val (.int (1 : Int32)), .val (.int (((1 : Int32) * (4 : Int32)) + (1 : Int32))), .unset, .unset, .unset, .unset, .unset, .unset, .unset, .unset, .unset, .unset, .unset, .unset, .unset, .unset, .unset] rfl 90 rfl ?_
        rw [show (((1 : Int32) * (4 : Int32)) + (1 : Int32)) = (5 : Int32) from rfl]
        refine o_aloadN X_J69 at_90 rfl rfl 91 rfl ?_
        refine o_iload X_J69 at_91 rfl 93 rfl ?_
        refine o_iaload X_J69 H_J69 0 rfl at_93 5 rfl y5 rfl 94 rfl ?_
        refine o_ifNe X_J69 at_94 108 97 (by decide) (by decide) rfl ?_ ?_
        · intro hc94
          exact J108_1 _ _ xk y0 y1 y2 y3 y4 y5 y6 y7 _ _ X_J69 H_J69 o0 o1 o2 o3 o4 o5 o6 o7 (v_find1 _ _ _ _ (v_pos _ o5 hc94))
        · intro hc94
          refine o_aloadN X_J69 at_97 rfl rfl 98 rfl ?_
          refine o_iload X_J69 at_98 rfl 100 rfl ?_
          refine o_iconst (v := (1 : Int32)) X_J69 at_100 rfl 101 rfl ?_
          refine o_iloadN X_J69 at_101 rfl 102 rfl ?_
          refine o_iconst (v := (3 : Int32)) X_J69 at_102 rfl 103 rfl ?_
          refine o_iushr X_J69 at_103 104 rfl ?_
          refine o_iconst (v := (1 : Int32)) X_J69 at_104 rfl 105 rfl ?_
          refine o_iand X_J69 at_105 106 rfl ?_
          refine o_iadd X_J69 at_106 107 rfl ?_
          refine o_iastore X_J69 H_J69 0 rfl at_107 5 rfl (by show 5 < 8; decide) 108 rfl ?_
          intro T104 h104 X104 H104
          replace H104 : OL n0 h104 ((xk, OA Z .int [y0, y1, y2, y3, y4, ((1 : Int32) + ((XT.ushr xc (3 : Int32)) &&& (1 : Int32))), y6, y7]) :: []) := H104
          exact J108_1 _ _ xk y0 y1 y2 y3 y4 ((1 : Int32) + ((XT.ushr xc (3 : Int32)) &&& (1 : Int32))) y6 y7 _ _ X104 H104 o0 o1 o2 o3 o4 (v_z _).1 o6 o7 (v_find1 _ _ _ _ (v_z _).2)
      · rw [hv]
        refine o_iload X_J69 at_81 rfl 83 rfl ?_
        refine o_iconst (v := (4 : Int32)) X_J69 at_83 rfl 84 rfl ?_
        refine o_imul X_J69 at_84 85 rfl ?_
        refine o_iload X_J69 at_85 rfl 87 rfl ?_
        refine o_iadd X_J69 at_87 88 rfl ?_
        refine o_istore X_J69 at_88 #[.val (.int xa), .val (.int xb), .val (.int xc), .val (.ref xk), .val (.int (1 : Int32)), .val (.int (2 : Int32)), .val (.int (((1 : Int32) * (4 : Int32)) + (2 : Int32))), .unset, .unset, .unset, .unset, .unset, .unset, .unset, .unset, .unset, .unset, .unset, .unset, .unset, .unset, .unset] rfl 90 rfl ?_
        rw [show (((1 : Int32) * (4 : Int32)) + (2 : Int32)) = (6 : Int32) from rfl]
        refine o_aloadN X_J69 at_90 rfl rfl 91 rfl ?_
        refine o_iload X_J69 at_91 rfl 93 rfl ?_
        refine o_iaload X_J69 H_J69 0 rfl at_93 6 rfl y6 rfl 94 rfl ?_
        refine o_ifNe X_J69 at_94 108 97 (by decide) (by decide) rfl ?_ ?_
        · intro hc94
          exact J108_1 _ _ xk y0 y1 y2 y3 y4 y5 y6 y7 _ _ X_J69 H_J69 o0 o1 o2 o3 o4 o5 o6 o7 (v_find2 _ _ _ _ (v_pos _ o6 hc94))
        · intro hc94
          refine o_aloadN X_J69 at_97 rfl rfl 98 rfl ?_
          refine o_iload X_J69 at_98 rfl 100 rfl ?_
          refine o_iconst (v := (1 : Int32)) X_J69 at_100 rfl 101 rfl ?_
          refine o_iloadN X_J69 at_101 rfl 102 rfl ?_
          refine o_iconst (v := (3 : Int32)) X_J69 at_102 rfl 103 rfl ?_
          refine o_iushr X_J69 at_103 104 rfl ?_
          refine o_iconst (v := (1 : Int32)) X_J69 at_104 rfl 105 rfl ?_
          refine o_iand X_J69 at_105 106 rfl ?_
          refine o_iadd X_J69 at_106 107 rfl ?_
          refine o_iastore X_J69 H_J69 0 rfl at_107 6 rfl (by show 6 < 8; decide) 108 rfl ?_
          intro T105 h105 X105 H105
          replace H105 : OL n0 h105 ((xk, OA Z .int [y0, y1, y2, y3, y4, y5, ((1 : Int32) + ((XT.ushr xc (3 : Int32)) &&& (1 : Int32))), y7]) :: []) := H105
          exact J108_1 _ _ xk y0 y1 y2 y3 y4 y5 ((1 : Int32) + ((XT.ushr xc (3 : Int32)) &&& (1 : Int32))) y7 _ _ X105 H105 o0 o1 o2 o3 o4 o5 (v_z _).1 o7 (v_find2 _ _ _ _ (v_z _).2)
      · rw [hv]
        refine o_iload X_J69 at_81 rfl 83 rfl ?_
        refine o_iconst (v := (4 : Int32)) X_J69 at_83 rfl 84 rfl ?_
        refine o_imul X_J69 at_84 85 rfl ?_
        refine o_iload X_J69 at_85 rfl 87 rfl ?_
        refine o_iadd X_J69 at_87 88 rfl ?_
        refine o_istore X_J69 at_88 #[.val (.int xa), .val (.int xb), .val (.int xc), .val (.ref xk), .val (.int (1 : Int32)), .val (.int (3 : Int32)), .val (.int (((1 : Int32) * (4 : Int32)) + (3 : Int32))), .unset, .unset, .unset, .unset, .unset, .unset, .unset, .unset, .unset, .unset, .unset, .unset, .unset, .unset, .unset] rfl 90 rfl ?_
        rw [show (((1 : Int32) * (4 : Int32)) + (3 : Int32)) = (7 : Int32) from rfl]
        refine o_aloadN X_J69 at_90 rfl rfl 91 rfl ?_
        refine o_iload X_J69 at_91 rfl 93 rfl ?_
        refine o_iaload X_J69 H_J69 0 rfl at_93 7 rfl y7 rfl 94 rfl ?_
        refine o_ifNe X_J69 at_94 108 97 (by decide) (by decide) rfl ?_ ?_
        · intro hc94
          exact J108_1 _ _ xk y0 y1 y2 y3 y4 y5 y6 y7 _ _ X_J69 H_J69 o0 o1 o2 o3 o4 o5 o6 o7 (v_find3 _ _ _ _ (v_pos _ o7 hc94))
        · intro hc94
          refine o_aloadN X_J69 at_97 rfl rfl 98 rfl ?_
          refine o_iload X_J69 at_98 rfl 100 rfl ?_
          refine o_iconst (v := (1 : Int32)) X_J69 at_100 rfl 101 rfl ?_
          refine o_iloadN X_J69 at_101 rfl 102 rfl ?_
          refine o_iconst (v := (3 : Int32)) X_J69 at_102 rfl 103 rfl ?_
          refine o_iushr X_J69 at_103 104 rfl ?_
          refine o_iconst (v := (1 : Int32)) X_J69 at_104 rfl 105 rfl ?_
          refine o_iand X_J69 at_105 106 rfl ?_
          refine o_iadd X_J69 at_106 107 rfl ?_
          refine o_iastore X_J69 H_J69 0 rfl at_107 7 rfl (by show 7 < 8; decide) 108 rfl ?_
          intro T106 h106 X106 H106
          replace H106 : OL n0 h106 ((xk, OA Z .int [y0, y1, y2, y3, y4, y5, y6, ((1 : Int32) + ((XT.ushr xc (3 : Int32)) &&& (1 : Int32)))]) :: []) := H106
          exact J108_1 _ _ xk y0 y1 y2 y3 y4 y5 y6 ((1 : Int32) + ((XT.ushr xc (3 : Int32)) &&& (1 : Int32))) _ _ X106 H106 o0 o1 o2 o3 o4 o5 o6 (v_z _).1 (v_find3 _ _ _ _ (v_z _).2)
  refine o_bipush (v := (8 : Int32)) X0 at_0 rfl 2 rfl ?_
  refine o_newarray (L := []) X0 OL.nil at_2 (hw _ (List.mem_of_getElem? (i := 0) rfl)) rfl rfl 8 8 rfl (by decide) (by decide) 1 8 rfl rfl (by decide) (by decide) 4 rfl ?_
  intro T107 h107 b107 X107 H107
  replace H107 : OL n0 h107 ((b107, OA Z .int [(0 : Int32), (0 : Int32), (0 : Int32), (0 : Int32), (0 : Int32), (0 : Int32), (0 : Int32), (0 : Int32)]) :: []) := H107
  refine o_astoreN X107 at_4 rfl #[.val (.int xa), .val (.int xb), .val (.int xc), .val (.ref b107), .unset, .unset, .unset, .unset, .unset, .unset, .unset, .unset, .unset, .unset, .unset, .unset, .unset, .unset, .unset, .unset, .unset, .unset] rfl 5 rfl ?_
  refine o_aloadN X107 at_5 rfl rfl 6 rfl ?_
  refine o_iconst (v := (0 : Int32)) X107 at_6 rfl 7 rfl ?_
  refine o_iloadN X107 at_7 rfl 8 rfl ?_
  refine o_iconst (v := (3 : Int32)) X107 at_8 rfl 9 rfl ?_
  refine o_iand X107 at_9 10 rfl ?_
  refine o_iastore X107 H107 0 rfl at_10 0 rfl (by show 0 < 8; decide) 11 rfl ?_
  intro T108 h108 X108 H108
  replace H108 : OL n0 h108 ((b107, OA Z .int [(xa &&& (3 : Int32)), (0 : Int32), (0 : Int32), (0 : Int32), (0 : Int32), (0 : Int32), (0 : Int32), (0 : Int32)]) :: []) := H108
  refine o_aloadN X108 at_11 rfl rfl 12 rfl ?_
  refine o_iconst (v := (1 : Int32)) X108 at_12 rfl 13 rfl ?_
  refine o_iloadN X108 at_13 rfl 14 rfl ?_
  refine o_iconst (v := (2 : Int32)) X108 at_14 rfl 15 rfl ?_
  refine o_iushr X108 at_15 16 rfl ?_
  refine o_iconst (v := (3 : Int32)) X108 at_16 rfl 17 rfl ?_
  refine o_iand X108 at_17 18 rfl ?_
  refine o_iastore X108 H108 0 rfl at_18 1 rfl (by show 1 < 8; decide) 19 rfl ?_
  intro T109 h109 X109 H109
  replace H109 : OL n0 h109 ((b107, OA Z .int [(xa &&& (3 : Int32)), ((XT.ushr xa (2 : Int32)) &&& (3 : Int32)), (0 : Int32), (0 : Int32), (0 : Int32), (0 : Int32), (0 : Int32), (0 : Int32)]) :: []) := H109
  refine o_aloadN X109 at_19 rfl rfl 20 rfl ?_
  refine o_iconst (v := (2 : Int32)) X109 at_20 rfl 21 rfl ?_
  refine o_iloadN X109 at_21 rfl 22 rfl ?_
  refine o_iconst (v := (4 : Int32)) X109 at_22 rfl 23 rfl ?_
  refine o_iushr X109 at_23 24 rfl ?_
  refine o_iconst (v := (3 : Int32)) X109 at_24 rfl 25 rfl ?_
  refine o_iand X109 at_25 26 rfl ?_
  refine o_iastore X109 H109 0 rfl at_26 2 rfl (by show 2 < 8; decide) 27 rfl ?_
  intro T110 h110 X110 H110
  replace H110 : OL n0 h110 ((b107, OA Z .int [(xa &&& (3 : Int32)), ((XT.ushr xa (2 : Int32)) &&& (3 : Int32)), ((XT.ushr xa (4 : Int32)) &&& (3 : Int32)), (0 : Int32), (0 : Int32), (0 : Int32), (0 : Int32), (0 : Int32)]) :: []) := H110
  refine o_aloadN X110 at_27 rfl rfl 28 rfl ?_
  refine o_iconst (v := (3 : Int32)) X110 at_28 rfl 29 rfl ?_
  refine o_iloadN X110 at_29 rfl 30 rfl ?_
  refine o_bipush (v := (6 : Int32)) X110 at_30 rfl 32 rfl ?_
  refine o_iushr X110 at_32 33 rfl ?_
  refine o_iconst (v := (3 : Int32)) X110 at_33 rfl 34 rfl ?_
  refine o_iand X110 at_34 35 rfl ?_
  refine o_iastore X110 H110 0 rfl at_35 3 rfl (by show 3 < 8; decide) 36 rfl ?_
  intro T111 h111 X111 H111
  replace H111 : OL n0 h111 ((b107, OA Z .int [(xa &&& (3 : Int32)), ((XT.ushr xa (2 : Int32)) &&& (3 : Int32)), ((XT.ushr xa (4 : Int32)) &&& (3 : Int32)), ((XT.ushr xa (6 : Int32)) &&& (3 : Int32)), (0 : Int32), (0 : Int32), (0 : Int32), (0 : Int32)]) :: []) := H111
  refine o_aloadN X111 at_36 rfl rfl 37 rfl ?_
  refine o_iconst (v := (4 : Int32)) X111 at_37 rfl 38 rfl ?_
  refine o_iloadN X111 at_38 rfl 39 rfl ?_
  refine o_iconst (v := (3 : Int32)) X111 at_39 rfl 40 rfl ?_
  refine o_iand X111 at_40 41 rfl ?_
  refine o_iastore X111 H111 0 rfl at_41 4 rfl (by show 4 < 8; decide) 42 rfl ?_
  intro T112 h112 X112 H112
  replace H112 : OL n0 h112 ((b107, OA Z .int [(xa &&& (3 : Int32)), ((XT.ushr xa (2 : Int32)) &&& (3 : Int32)), ((XT.ushr xa (4 : Int32)) &&& (3 : Int32)), ((XT.ushr xa (6 : Int32)) &&& (3 : Int32)), (xb &&& (3 : Int32)), (0 : Int32), (0 : Int32), (0 : Int32)]) :: []) := H112
  refine o_aloadN X112 at_42 rfl rfl 43 rfl ?_
  refine o_iconst (v := (5 : Int32)) X112 at_43 rfl 44 rfl ?_
  refine o_iloadN X112 at_44 rfl 45 rfl ?_
  refine o_iconst (v := (2 : Int32)) X112 at_45 rfl 46 rfl ?_
  refine o_iushr X112 at_46 47 rfl ?_
  refine o_iconst (v := (3 : Int32)) X112 at_47 rfl 48 rfl ?_
  refine o_iand X112 at_48 49 rfl ?_
  refine o_iastore X112 H112 0 rfl at_49 5 rfl (by show 5 < 8; decide) 50 rfl ?_
  intro T113 h113 X113 H113
  replace H113 : OL n0 h113 ((b107, OA Z .int [(xa &&& (3 : Int32)), ((XT.ushr xa (2 : Int32)) &&& (3 : Int32)), ((XT.ushr xa (4 : Int32)) &&& (3 : Int32)), ((XT.ushr xa (6 : Int32)) &&& (3 : Int32)), (xb &&& (3 : Int32)), ((XT.ushr xb (2 : Int32)) &&& (3 : Int32)), (0 : Int32), (0 : Int32)]) :: []) := H113
  refine o_aloadN X113 at_50 rfl rfl 51 rfl ?_
  refine o_bipush (v := (6 : Int32)) X113 at_51 rfl 53 rfl ?_
  refine o_iloadN X113 at_53 rfl 54 rfl ?_
  refine o_iconst (v := (4 : Int32)) X113 at_54 rfl 55 rfl ?_
  refine o_iushr X113 at_55 56 rfl ?_
  refine o_iconst (v := (3 : Int32)) X113 at_56 rfl 57 rfl ?_
  refine o_iand X113 at_57 58 rfl ?_
  refine o_iastore X113 H113 0 rfl at_58 6 rfl (by show 6 < 8; decide) 59 rfl ?_
  intro T114 h114 X114 H114
  replace H114 : OL n0 h114 ((b107, OA Z .int [(xa &&& (3 : Int32)), ((XT.ushr xa (2 : Int32)) &&& (3 : Int32)), ((XT.ushr xa (4 : Int32)) &&& (3 : Int32)), ((XT.ushr xa (6 : Int32)) &&& (3 : Int32)), (xb &&& (3 : Int32)), ((XT.ushr xb (2 : Int32)) &&& (3 : Int32)), ((XT.ushr xb (4 : Int32)) &&& (3 : Int32)), (0 : Int32)]) :: []) := H114
  refine o_aloadN X114 at_59 rfl rfl 60 rfl ?_
  refine o_bipush (v := (7 : Int32)) X114 at_60 rfl 62 rfl ?_
  refine o_iloadN X114 at_62 rfl 63 rfl ?_
  refine o_bipush (v := (6 : Int32)) X114 at_63 rfl 65 rfl ?_
  refine o_iushr X114 at_65 66 rfl ?_
  refine o_iconst (v := (3 : Int32)) X114 at_66 rfl 67 rfl ?_
  refine o_iand X114 at_67 68 rfl ?_
  refine o_iastore X114 H114 0 rfl at_68 7 rfl (by show 7 < 8; decide) 69 rfl ?_
  intro T115 h115 X115 H115
  replace H115 : OL n0 h115 ((b107, OA Z .int [(xa &&& (3 : Int32)), ((XT.ushr xa (2 : Int32)) &&& (3 : Int32)), ((XT.ushr xa (4 : Int32)) &&& (3 : Int32)), ((XT.ushr xa (6 : Int32)) &&& (3 : Int32)), (xb &&& (3 : Int32)), ((XT.ushr xb (2 : Int32)) &&& (3 : Int32)), ((XT.ushr xb (4 : Int32)) &&& (3 : Int32)), ((XT.ushr xb (6 : Int32)) &&& (3 : Int32))]) :: []) := H115
  exact J69 _ _ b107 (xa &&& (3 : Int32)) ((XT.ushr xa (2 : Int32)) &&& (3 : Int32)) ((XT.ushr xa (4 : Int32)) &&& (3 : Int32)) ((XT.ushr xa (6 : Int32)) &&& (3 : Int32)) (xb &&& (3 : Int32)) ((XT.ushr xb (2 : Int32)) &&& (3 : Int32)) ((XT.ushr xb (4 : Int32)) &&& (3 : Int32)) ((XT.ushr xb (6 : Int32)) &&& (3 : Int32)) X115 H115 (v_m _) (v_m _) (v_m _) (v_m _) (v_m _) (v_m _) (v_m _) (v_m _)
set_option maxRecDepth 65536 in
set_option maxHeartbeats 40000000 in
theorem comes_1 {Post : Tables → Env → Array Value → State → Outcome → State → Prop} (hpost : ∀ tb e args s v u, (limb_1_1.after args s (.returned v) u = true ∧ limb_1_2.after args s (.returned v) u = true ∧ True) → FrameEnd s (.returned v) u (Jvm.fieldLocs frame_1_writes args s ++ Jvm.arrayLocs frame_1_arrays args s ++ Jvm.staticLocs frame_1_statics s) 24 192 → Post tb e args s (.returned v) u) :
    ArmFor flags0 classFile x code maxLocals ret World_1 tables_1 room_1 Calls_1 rest_1 Pre_1 Post := by
  intro l hfl _ _ p e ha hc hk s m args below hf hA hF happ hP
  obtain ⟨hcalls, hrest, hpre⟩ := hP
  obtain ⟨-, -, -, hnamed, -, -, -, hat⟩ := (Spec.applies_iff hf).mp happ
  obtain ⟨hg, hn⟩ := and_e (Cond.before_iff.mp (show (Jvm.Cond.and given_1 narrow_1).before args s = true from hpre))
  obtain ⟨hcnt, hg0⟩ := and_e hg
  obtain ⟨ha0, hg1⟩ := and_e hg0
  obtain ⟨ha1, hg2⟩ := and_e hg1
  have ha2 := hg2
  obtain ⟨w0, w1, w2, rfl⟩ : ∃ w0 w1 w2 : Value, args = #[w0, w1, w2] := by
    have hs : args.size = 3 := by simpa [Cond.value, given_1] using hcnt
    obtain ⟨L⟩ := args
    match L, hs with
    | [w0, w1, w2], _ => exact ⟨w0, w1, w2, rfl⟩
  have hw := fun d (hd : d ∈ tables_1) => atoms_spec (ws := Jvm.Cond.code x code maxLocals ret :: tables_1) hat d (List.mem_cons_of_mem _ hd)
  obtain ⟨i0, ei0⟩ := is_v ha0
  obtain rfl : w0 = (.int i0) := Option.some.inj ei0
  obtain ⟨i1, ei1⟩ := is_v ha1
  obtain rfl : w1 = (.int i1) := Option.some.inj ei1
  obtain ⟨i2, ei2⟩ := is_v ha2
  obtain rfl : w2 = (.int i2) := Option.some.inj ei2
  obtain ⟨n, o, h1, h2, h3, _, L, rfl, ⟨rfl, N⟩, hq⟩ := c_law l s _ hw tables_1 s.heap.size s.heap (Nat.le_refl _) i0 i1 i2 p e ha hc hk s m _ below hf ((Spec.applies_iff_loose hf).mp happ).1 ⟨rfl, State.Warmed39.refl s, rfl⟩ trivial
  refine ⟨n, _, h1, h2, h3, hpost _ _ _ _ _ _ ⟨Cond.after_iff.mpr rfl, Cond.after_iff.mpr (eq_i res_at (Term.int_eval (1)) rfl), trivial⟩ ⟨hq.1, hq.2.1, (hq.2.2.sift fun y hy => Or.inr (N y hy)).mono (by decide) (by decide)⟩⟩
theorem main_1_1 : Claimed_1_1 := comes_1 fun _ _ _ _ _ _ h hF => ⟨h.1, hF⟩
theorem main_1_2 : Claimed_1_2 := comes_1 fun _ _ _ _ _ _ h hF => ⟨h.2.1, hF⟩
end Jvm.Pilot.@@N@@
namespace Jvm.Pilot.@@N@@
open Jvm Jvm.ClassFile Sem Op Lib Jvm.Free Jvm.Stand Jvm.Pilot.@@N@@.Jvm.D
/-! MADE BY PROGRAM (witnessworld.py) out of the Statement's table words and the real class files: 10 classes; the members and pool entries that the words name. The judged class is class 1, her method 4. -/
namespace start1
open Jvm.ClassFile
def u (s : String) : CpInfo := .utf8 (stringToUtf16 s)
/-- a pool by its gaps: so many unusable entries, then the entry; so many at the end -/
def gap : Nat → List CpInfo → List CpInfo
  | 0, r => r
  | n + 1, r => .unusable :: gap n r
def poolList (es : List (Nat × CpInfo)) (last : Nat) : List CpInfo := es.foldr (fun e r => gap e.1 (e.2 :: r)) (gap last [])
def pool (es : List (Nat × CpInfo)) (last : Nat) : Array CpInfo := ⟨poolList es last⟩
def fileOf (pool : Array CpInfo) (this : Nat) (attrs : Array Attribute := #[]) (ms : Array MethodInfo := #[]) (fl : Nat := 33) (sup : Nat := 0) (ifs : Array Nat := #[]) (fds : Array FieldInfo := #[]) : ClassFile where
  minorVersion := 0
  majorVersion := 65
  constantPool := pool
  accessFlags := fl
  thisClass := this
  superClass := sup
  interfaces := ifs
  fields := fds
  methods := ms
  attributes := attrs
def plain (name : String) (sup : Option ClassId) : Class where
  name := name
  kind := .ordinary
  loader := none
  accessFlags := 33
  super := sup
  interfaces := #[]
  cf := none
  fields := #[]
  methods := #[]
  instanceTypes := #[]
  staticTypes := #[]
  resolved := #[]
  callSites := []
  init := .initialized
  statics := none
  mirror := none

def pool0 : Array CpInfo := pool [(5, u "<init>"), (0, u "()V"), (1, .class_ 10), (1, u "java/lang/Object")] 113

def k0c0 : Code := { maxStack := 0, maxLocals := 1, code := object_method_1_code, exceptionTable := #[], attributes := #[] }
def k0m0 : Method := { name := "<init>", desc := "()V", sig := { parameters := [], returnType := none }, accessFlags := 1, code := some k0c0 }
/-- java/lang/Object -/
def k0 : Class := { plain "java/lang/Object" none with
  accessFlags := 33
  interfaces := #[]
  cf := some (fileOf pool0 8 #[] #[{ accessFlags := 1, nameIndex := 5, descriptorIndex := 6, attributes := #[] }] 33 0 #[] #[])
  fields := #[]
  methods := #[k0m0]
  instanceTypes := #[]
  staticTypes := #[]
  resolved := Array.replicate 124 none
  statics := none }

def pool1 : Array CpInfo := pool [(2, .class_ 4), (1, u "java/lang/Object"), (0, u "<init>"), (0, u "()V"), (0, .methodref 8 9), (0, .class_ 10), (0, .nameAndType 11 12), (0, u "java/lang/Math"), (0, u "min"), (0, u "(II)I"), (0, .methodref 14 15), (0, .class_ 16), (0, .nameAndType 17 18), (0, u "com/example/palamedes/palamedes/lda/NonzeroTopicsRemovePinLaw"), (0, u "fill"), (0, u "([II[I)I"), (0, .methodref 14 20), (0, .nameAndType 21 22), (0, u "put"), (0, u "([II[II)V"), (0, .class_ 24), (0, u "com/example/palamedes/palamedes/lda/NonzeroTopics"), (0, .methodref 23 26), (0, .nameAndType 5 27), (0, u "([II)V"), (0, .methodref 23 29), (0, .nameAndType 30 31), (0, u "remove"), (0, u "(II)V"), (0, .fieldref 23 33), (0, .nameAndType 34 35), (0, u "topics"), (0, u "[I"), (0, .methodref 14 37), (0, .nameAndType 38 39), (0, u "same"), (0, u "([I[II)Z"), (0, .methodref 23 41), (0, .nameAndType 42 43), (0, u "length"), (0, u "(I)I"), (0, .methodref 23 45), (0, .nameAndType 46 43), (0, u "start"), (3, u "law"), (0, u "(III)Z")] 3

def k1m0 : Method := { name := "<init>", desc := "()V", sig := { parameters := [], returnType := none }, accessFlags := 1, code := none }
def k1c1 : Code := { maxStack := 3, maxLocals := 4, code := method_2_code, exceptionTable := #[], attributes := #[] }
def k1m1 : Method := { name := "fill", desc := "([II[I)I", sig := { parameters := [(.array .int), .int, (.array .int)], returnType := some .int }, accessFlags := 10, code := some k1c1 }
def k1c2 : Code := { maxStack := 4, maxLocals := 4, code := method_3_code, exceptionTable := #[], attributes := #[] }
def k1m2 : Method := { name := "put", desc := "([II[II)V", sig := { parameters := [(.array .int), .int, (.array .int), .int], returnType := none }, accessFlags := 10, code := some k1c2 }
def k1c3 : Code := { maxStack := 3, maxLocals := 4, code := method_4_code, exceptionTable := #[], attributes := #[] }
def k1m3 : Method := { name := "same", desc := "([I[II)Z", sig := { parameters := [(.array .int), (.array .int), .int], returnType := some .boolean }, accessFlags := 10, code := some k1c3 }
def k1c4 : Code := { maxStack := 5, maxLocals := 22, code := code, exceptionTable := #[], attributes := #[] }
def k1m4 : Method := { name := "law", desc := "(III)Z", sig := { parameters := [.int, .int, .int], returnType := some .boolean }, accessFlags := 9, code := some k1c4 }
/-- com/example/palamedes/palamedes/lda/NonzeroTopicsRemovePinLaw -/
def k1 : Class := { plain "com/example/palamedes/palamedes/lda/NonzeroTopicsRemovePinLaw" (some 0) with
  accessFlags := 49
  interfaces := #[]
  cf := some (fileOf pool1 14 #[] #[{ accessFlags := 1, nameIndex := 5, descriptorIndex := 6, attributes := #[] }, { accessFlags := 10, nameIndex := 17, descriptorIndex := 18, attributes := #[] }, { accessFlags := 10, nameIndex := 21, descriptorIndex := 22, attributes := #[] }, { accessFlags := 10, nameIndex := 38, descriptorIndex := 39, attributes := #[] }, { accessFlags := 9, nameIndex := 50, descriptorIndex := 51, attributes := #[] }] 49 2 #[] #[])
  fields := #[]
  methods := #[k1m0, k1m1, k1m2, k1m3, k1m4]
  instanceTypes := #[]
  staticTypes := #[]
  resolved := Array.replicate 55 none
  statics := none }

def pool2 : Array CpInfo := pool [(1, .class_ 2), (0, u "java/lang/Math"), (1, .class_ 6), (1, u "java/lang/Object"), (0, u "<init>"), (0, u "()V"), (89, .class_ 100), (1, u "java/lang/Math$RandomNumberGeneratorHolder"), (20, u "(JJ)J"), (50, u "negativeZeroFloatBits"), (0, u "J"), (2, u "negativeZeroDoubleBits"), (24, u "min"), (43, u "$assertionsDisabled"), (0, u "Z"), (88, u "(II)I"), (2, u "twoToTheDoubleScaleDown"), (0, u "D"), (4, u "twoToTheDoubleScaleUp"), (9, u "E"), (3, u "PI"), (2, u "TAU"), (2, u "DEGREES_TO_RADIANS"), (0, u "RADIANS_TO_DEGREES")] 94

def k2m0 : Method := { name := "<init>", desc := "()V", sig := { parameters := [], returnType := none }, accessFlags := 2, code := none }
def k2c1 : Code := { maxStack := 2, maxLocals := 2, code := jdk_29_method_69_code, exceptionTable := #[], attributes := #[] }
def k2m1 : Method := { name := "min", desc := "(II)I", sig := { parameters := [.int, .int], returnType := some .int }, accessFlags := 9, code := some k2c1 }
def k2c2 : Code := { maxStack := 4, maxLocals := 4, code := jdk_29_method_70_code, exceptionTable := #[], attributes := #[] }
def k2m2 : Method := { name := "min", desc := "(JJ)J", sig := { parameters := [.long, .long], returnType := some .long }, accessFlags := 9, code := some k2c2 }
/-- java/lang/Math -/
def k2 : Class := { plain "java/lang/Math" (some 0) with
  accessFlags := 49
  interfaces := #[]
  cf := some (fileOf pool2 1 #[.nestMembers #[98]] #[{ accessFlags := 2, nameIndex := 7, descriptorIndex := 8, attributes := #[] }, { accessFlags := 9, nameIndex := 201, descriptorIndex := 335, attributes := #[] }, { accessFlags := 9, nameIndex := 201, descriptorIndex := 121, attributes := #[] }] 49 4 #[] #[{ accessFlags := 25, nameIndex := 354, descriptorIndex := 339, attributes := #[] }, { accessFlags := 25, nameIndex := 358, descriptorIndex := 339, attributes := #[] }, { accessFlags := 25, nameIndex := 361, descriptorIndex := 339, attributes := #[] }, { accessFlags := 26, nameIndex := 364, descriptorIndex := 339, attributes := #[] }, { accessFlags := 26, nameIndex := 365, descriptorIndex := 339, attributes := #[] }, { accessFlags := 26, nameIndex := 172, descriptorIndex := 173, attributes := #[] }, { accessFlags := 26, nameIndex := 176, descriptorIndex := 173, attributes := #[] }, { accessFlags := 8, nameIndex := 344, descriptorIndex := 339, attributes := #[] }, { accessFlags := 8, nameIndex := 338, descriptorIndex := 339, attributes := #[] }, { accessFlags := 4120, nameIndex := 245, descriptorIndex := 246, attributes := #[] }])
  fields := #[{ name := "E", type := .double, accessFlags := 25, slot := 0, constantValue := 0 }, { name := "PI", type := .double, accessFlags := 25, slot := 1, constantValue := 0 }, { name := "TAU", type := .double, accessFlags := 25, slot := 2, constantValue := 0 }, { name := "DEGREES_TO_RADIANS", type := .double, accessFlags := 26, slot := 3, constantValue := 0 }, { name := "RADIANS_TO_DEGREES", type := .double, accessFlags := 26, slot := 4, constantValue := 0 }, { name := "negativeZeroFloatBits", type := .long, accessFlags := 26, slot := 5, constantValue := 0 }, { name := "negativeZeroDoubleBits", type := .long, accessFlags := 26, slot := 6, constantValue := 0 }, { name := "twoToTheDoubleScaleUp", type := .double, accessFlags := 8, slot := 7, constantValue := 0 }, { name := "twoToTheDoubleScaleDown", type := .double, accessFlags := 8, slot := 8, constantValue := 0 }, { name := "$assertionsDisabled", type := .boolean, accessFlags := 4120, slot := 9, constantValue := 0 }]
  methods := #[k2m0, k2m1, k2m2]
  instanceTypes := #[]
  staticTypes := #[.double, .double, .double, .double, .double, .long, .long, .double, .double, .boolean]
  resolved := Array.replicate 460 none
  statics := none }

def pool3 : Array CpInfo := pool [(1, .methodref 2 3), (0, .class_ 4), (0, .nameAndType 5 6), (0, u "java/lang/Object"), (0, u "<init>"), (0, u "()V"), (0, .fieldref 8 9), (0, .class_ 10), (0, .nameAndType 11 12), (0, u "com/example/palamedes/palamedes/lda/NonzeroTopics"), (0, u "starts"), (0, u "[I"), (0, .fieldref 8 14), (0, .nameAndType 15 12), (0, u "lengths"), (0, .methodref 8 17), (0, .nameAndType 18 19), (0, u "room"), (0, u "(JI)I"), (0, .fieldref 8 21), (0, .nameAndType 22 12), (0, u "topics"), (0, .methodref 8 24), (0, .nameAndType 25 26), (0, u "add"), (0, u "(II)V"), (12, .methodref 40 41), (0, .class_ 42), (0, .nameAndType 43 44), (0, u "java/lang/Math"), (0, u "min"), (0, u "(JJ)J"), (0, u "([II)V"), (6, u "start"), (0, u "(I)I"), (0, u "length"), (0, u "remove")] 2

def k3c0 : Code := { maxStack := 6, maxLocals := 8, code := prog_40_method_1_code, exceptionTable := #[], attributes := #[] }
def k3m0 : Method := { name := "<init>", desc := "([II)V", sig := { parameters := [(.array .int), .int], returnType := none }, accessFlags := 0, code := some k3c0 }
def k3c1 : Code := { maxStack := 4, maxLocals := 3, code := prog_40_method_3_code, exceptionTable := #[], attributes := #[] }
def k3m1 : Method := { name := "room", desc := "(JI)I", sig := { parameters := [.long, .int], returnType := some .int }, accessFlags := 10, code := some k3c1 }
def k3c2 : Code := { maxStack := 2, maxLocals := 2, code := prog_40_method_4_code, exceptionTable := #[], attributes := #[] }
def k3m2 : Method := { name := "start", desc := "(I)I", sig := { parameters := [.int], returnType := some .int }, accessFlags := 0, code := some k3c2 }
def k3c3 : Code := { maxStack := 2, maxLocals := 2, code := prog_40_method_5_code, exceptionTable := #[], attributes := #[] }
def k3m3 : Method := { name := "length", desc := "(I)I", sig := { parameters := [.int], returnType := some .int }, accessFlags := 0, code := some k3c3 }
def k3c4 : Code := { maxStack := 4, maxLocals := 3, code := prog_40_method_6_code, exceptionTable := #[], attributes := #[] }
def k3m4 : Method := { name := "add", desc := "(II)V", sig := { parameters := [.int, .int], returnType := none }, accessFlags := 0, code := some k3c4 }
def k3c5 : Code := { maxStack := 6, maxLocals := 4, code := prog_40_method_7_code, exceptionTable := #[], attributes := #[] }
def k3m5 : Method := { name := "remove", desc := "(II)V", sig := { parameters := [.int, .int], returnType := none }, accessFlags := 0, code := some k3c5 }
/-- com/example/palamedes/palamedes/lda/NonzeroTopics -/
def k3 : Class := { plain "com/example/palamedes/palamedes/lda/NonzeroTopics" (some 0) with
  accessFlags := 48
  interfaces := #[]
  cf := some (fileOf pool3 8 #[] #[{ accessFlags := 0, nameIndex := 5, descriptorIndex := 45, attributes := #[] }, { accessFlags := 10, nameIndex := 18, descriptorIndex := 19, attributes := #[] }, { accessFlags := 0, nameIndex := 52, descriptorIndex := 53, attributes := #[] }, { accessFlags := 0, nameIndex := 54, descriptorIndex := 53, attributes := #[] }, { accessFlags := 0, nameIndex := 25, descriptorIndex := 26, attributes := #[] }, { accessFlags := 0, nameIndex := 55, descriptorIndex := 26, attributes := #[] }] 48 2 #[] #[{ accessFlags := 18, nameIndex := 11, descriptorIndex := 12, attributes := #[] }, { accessFlags := 18, nameIndex := 15, descriptorIndex := 12, attributes := #[] }, { accessFlags := 16, nameIndex := 22, descriptorIndex := 12, attributes := #[] }])
  fields := #[{ name := "starts", type := (.array .int), accessFlags := 18, slot := 0, constantValue := 0 }, { name := "lengths", type := (.array .int), accessFlags := 18, slot := 1, constantValue := 0 }, { name := "topics", type := (.array .int), accessFlags := 16, slot := 2, constantValue := 0 }]
  methods := #[k3m0, k3m1, k3m2, k3m3, k3m4, k3m5]
  instanceTypes := #[(.array .int), (.array .int), (.array .int)]
  staticTypes := #[]
  resolved := Array.replicate 58 none
  statics := none }

def pool4 : Array CpInfo := pool [(1, u "java/lang/Cloneable"), (0, .class_ 1), (0, u "java/lang/Object"), (0, .class_ 3)] 3

/-- java/lang/Cloneable -/
def k4 : Class := { plain "java/lang/Cloneable" (some 0) with
  accessFlags := 1537
  interfaces := #[]
  cf := some (fileOf pool4 2 #[] #[] 1537 4 #[] #[])
  fields := #[]
  methods := #[]
  instanceTypes := #[]
  staticTypes := #[]
  resolved := Array.replicate 8 none
  statics := none }

def pool5 : Array CpInfo := pool [(1, u "java/io/Serializable"), (0, .class_ 1), (0, u "java/lang/Object"), (0, .class_ 3)] 3

/-- java/io/Serializable -/
def k5 : Class := { plain "java/io/Serializable" (some 0) with
  accessFlags := 1537
  interfaces := #[]
  cf := some (fileOf pool5 2 #[] #[] 1537 4 #[] #[])
  fields := #[]
  methods := #[]
  instanceTypes := #[]
  staticTypes := #[]
  resolved := Array.replicate 8 none
  statics := none }

/-- the primitive byte -/
def k6 : Class := { plain "byte" none with kind := .primitive 'B', accessFlags := 0x411 }
/-- [B -/
def k7 : Class := { plain "[B" (some 0) with kind := .array 6 .byte, interfaces := #[4, 5], accessFlags := 1041 }

/-- the primitive int -/
def k8 : Class := { plain "int" none with kind := .primitive 'I', accessFlags := 0x411 }
/-- [I -/
def k9 : Class := { plain "[I" (some 0) with kind := .array 8 .int, interfaces := #[4, 5], accessFlags := 1041 }

def heap : Heap := #[]
def classes : Array Class := #[k0, k1, k2, k3, k4, k5, k6, k7, k8, k9]
def interned : List (Array UInt16 × Addr) := []
def slotsUsed : Nat := 0
def theMethod : MethodId := ⟨1, 4⟩
def args0 : Array Value := #[.int 5, .int 3, .int 7]
def aboutOver (below : List Frame) : State where
  vm := { classes := classes, interned := interned.toArray }
  heap := heap
  slotsUsed := slotsUsed
  threads := #[{ frames := .invoking theMethod args0 :: below }]
def below0 : List Frame := [.native { method := ⟨0, 0⟩, args := #[] }]
def about1 : State := aboutOver below0
def p0 : Program := .bare "" "" ""
def e0 : Env := launch0.env 0 0 0
theorem w_frames : about1.frames = Frame.invoking theMethod args0 :: below0 := rfl
set_option maxRecDepth 65536 in
theorem w_args : argsFit about1.vm theMethod args0 = true := by decide +kernel
set_option maxRecDepth 65536 in
theorem w_heap : heapFits about1 = true := by decide +kernel
set_option maxRecDepth 65536 in
theorem w_runnable : about1.curStatus? = some .runnable := by decide +kernel
set_option maxRecDepth 65536 in
theorem w_alone : about1.alone = true := by decide +kernel
set_option maxRecDepth 65536 in
theorem w_named : about1.methodNamed? x = some theMethod := by decide +kernel
set_option maxRecDepth 65536 in
theorem w_hears : about1.hears theMethod below0 = true := by decide +kernel
set_option maxRecDepth 65536 in
theorem w_ripe : about1.ripe theMethod args0 below0 = true := by decide +kernel
theorem w_running : about1.status = .running := rfl
set_option maxRecDepth 65536 in
theorem w_room : about1.hasRoom e0.platform room_1 = true :=
  launch0.hasRoom_least _ room_1 (by decide +kernel) (by decide +kernel) (by decide +kernel) (by decide +kernel) (by decide +kernel) (by decide +kernel)
theorem allAtoms_all (ts : List Jvm.Cond) (a : Array Jvm.Value) (st : Jvm.State) : (allAtoms ts).before a st = ts.all (fun c => c.before a st) := by
  induction ts with
  | nil => rfl
  | cons c t ih =>
    show (Jvm.Cond.and c (allAtoms t)).before a st = _
    rw [Jvm.Cond.before_and, ih, List.all_cons]
def words1 : List Jvm.Cond := Jvm.Cond.code x code maxLocals ret :: tables_1
/-- a 'code' word, met by the world's own term for the bytes: nothing is compared byte by byte -/
theorem code_word {y : MethodName} {bytes : ByteArray} {mx : Nat} {rt : Option FieldType} {a : Array Value} {s : State} {m : MethodId} {meth : Method} {c : Code} (h1 : s.methodNamed? y = some m) (h2 : s.vm.method? m = some meth) (h3 : meth.code = some c) (h4 : c.code = bytes)
    (h5 : (c.maxLocals == mx && c.exceptionTable.isEmpty && decide (c.maxStack ≤ mostOperands) && decide (meth.sig.returnType = rt) && !meth.locks && decide (parseMethodDescriptor y.desc = some meth.sig)) = true) : (Jvm.Cond.code y bytes mx rt).before a s = true := by
  simp only [Bool.and_eq_true, beq_iff_eq, Bool.not_eq_true', decide_eq_true_eq] at h5
  obtain ⟨⟨⟨⟨⟨g1, g2⟩, g3⟩, g4⟩, g5⟩, g6⟩ := h5
  simp [Cond.before, Cond.holds, Cond.value, h1, h2, h3, h4, g1, g2, g3, g4, g5, g6]
def isCode : Jvm.Cond → Bool
  | .code _ _ _ _ => true
  | _ => false
theorem all_split {L : List Jvm.Cond} {P : Jvm.Cond → Bool} (h1 : L.all (fun c => isCode c || P c) = true) (h2 : ∀ c ∈ L.filter isCode, P c = true) : L.all P = true := by
  refine List.all_eq_true.mpr fun c hc => ?_
  have h := List.all_eq_true.mp h1 c hc
  rcases Bool.eq_false_or_eq_true (isCode c) with hi | hi
  · exact h2 c (List.mem_filter.mpr ⟨hc, hi⟩)
  · simpa [hi] using h
set_option maxRecDepth 65536 in
theorem w_c0 : (Jvm.Cond.code x code maxLocals ret).before args0 about1 = true := code_word (m := ⟨1, 4⟩) (meth := k1m4) (c := k1c4) (by decide +kernel) rfl rfl rfl (by decide +kernel)
set_option maxRecDepth 65536 in
theorem w_c1 : (Jvm.Cond.code ({ cls := "java/lang/Math", name := "min", desc := "(II)I" } : Jvm.MethodName) jdk_29_method_69_code (2 : Nat) (Option.some Jvm.ClassFile.FieldType.int)).before args0 about1 = true := code_word (m := ⟨2, 1⟩) (meth := k2m1) (c := k2c1) (by decide +kernel) rfl rfl rfl (by decide +kernel)
set_option maxRecDepth 65536 in
theorem w_c2 : (Jvm.Cond.code ({ cls := "com/example/palamedes/palamedes/lda/NonzeroTopicsRemovePinLaw", name := "fill", desc := "([II[I)I" } : Jvm.MethodName) method_2_code (4 : Nat) (Option.some Jvm.ClassFile.FieldType.int)).before args0 about1 = true := code_word (m := ⟨1, 1⟩) (meth := k1m1) (c := k1c1) (by decide +kernel) rfl rfl rfl (by decide +kernel)
set_option maxRecDepth 65536 in
theorem w_c3 : (Jvm.Cond.code ({ cls := "com/example/palamedes/palamedes/lda/NonzeroTopicsRemovePinLaw", name := "put", desc := "([II[II)V" } : Jvm.MethodName) method_3_code (4 : Nat) (Option.none : Option Jvm.ClassFile.FieldType)).before args0 about1 = true := code_word (m := ⟨1, 2⟩) (meth := k1m2) (c := k1c2) (by decide +kernel) rfl rfl rfl (by decide +kernel)
set_option maxRecDepth 65536 in
theorem w_c4 : (Jvm.Cond.code ({ cls := "com/example/palamedes/palamedes/lda/NonzeroTopics", name := "<init>", desc := "([II)V" } : Jvm.MethodName) prog_40_method_1_code (8 : Nat) (Option.none : Option Jvm.ClassFile.FieldType)).before args0 about1 = true := code_word (m := ⟨3, 0⟩) (meth := k3m0) (c := k3c0) (by decide +kernel) rfl rfl rfl (by decide +kernel)
set_option maxRecDepth 65536 in
theorem w_c5 : (Jvm.Cond.code ({ cls := "java/lang/Object", name := "<init>", desc := "()V" } : Jvm.MethodName) object_method_1_code (1 : Nat) (Option.none : Option Jvm.ClassFile.FieldType)).before args0 about1 = true := code_word (m := ⟨0, 0⟩) (meth := k0m0) (c := k0c0) (by decide +kernel) rfl rfl rfl (by decide +kernel)
set_option maxRecDepth 65536 in
theorem w_c6 : (Jvm.Cond.code ({ cls := "com/example/palamedes/palamedes/lda/NonzeroTopics", name := "room", desc := "(JI)I" } : Jvm.MethodName) prog_40_method_3_code (3 : Nat) (Option.some Jvm.ClassFile.FieldType.int)).before args0 about1 = true := code_word (m := ⟨3, 1⟩) (meth := k3m1) (c := k3c1) (by decide +kernel) rfl rfl rfl (by decide +kernel)
set_option maxRecDepth 65536 in
theorem w_c7 : (Jvm.Cond.code ({ cls := "java/lang/Math", name := "min", desc := "(JJ)J" } : Jvm.MethodName) jdk_29_method_70_code (4 : Nat) (Option.some Jvm.ClassFile.FieldType.long)).before args0 about1 = true := code_word (m := ⟨2, 2⟩) (meth := k2m2) (c := k2c2) (by decide +kernel) rfl rfl rfl (by decide +kernel)
set_option maxRecDepth 65536 in
theorem w_c8 : (Jvm.Cond.code ({ cls := "com/example/palamedes/palamedes/lda/NonzeroTopics", name := "add", desc := "(II)V" } : Jvm.MethodName) prog_40_method_6_code (3 : Nat) (Option.none : Option Jvm.ClassFile.FieldType)).before args0 about1 = true := code_word (m := ⟨3, 4⟩) (meth := k3m4) (c := k3c4) (by decide +kernel) rfl rfl rfl (by decide +kernel)
set_option maxRecDepth 65536 in
theorem w_c9 : (Jvm.Cond.code ({ cls := "com/example/palamedes/palamedes/lda/NonzeroTopics", name := "remove", desc := "(II)V" } : Jvm.MethodName) prog_40_method_7_code (4 : Nat) (Option.none : Option Jvm.ClassFile.FieldType)).before args0 about1 = true := code_word (m := ⟨3, 5⟩) (meth := k3m5) (c := k3c5) (by decide +kernel) rfl rfl rfl (by decide +kernel)
set_option maxRecDepth 65536 in
theorem w_c10 : (Jvm.Cond.code ({ cls := "com/example/palamedes/palamedes/lda/NonzeroTopicsRemovePinLaw", name := "same", desc := "([I[II)Z" } : Jvm.MethodName) method_4_code (4 : Nat) (Option.some Jvm.ClassFile.FieldType.boolean)).before args0 about1 = true := code_word (m := ⟨1, 3⟩) (meth := k1m3) (c := k1c3) (by decide +kernel) rfl rfl rfl (by decide +kernel)
set_option maxRecDepth 65536 in
theorem w_c11 : (Jvm.Cond.code ({ cls := "com/example/palamedes/palamedes/lda/NonzeroTopics", name := "length", desc := "(I)I" } : Jvm.MethodName) prog_40_method_5_code (2 : Nat) (Option.some Jvm.ClassFile.FieldType.int)).before args0 about1 = true := code_word (m := ⟨3, 3⟩) (meth := k3m3) (c := k3c3) (by decide +kernel) rfl rfl rfl (by decide +kernel)
set_option maxRecDepth 65536 in
theorem w_c12 : (Jvm.Cond.code ({ cls := "com/example/palamedes/palamedes/lda/NonzeroTopics", name := "start", desc := "(I)I" } : Jvm.MethodName) prog_40_method_4_code (2 : Nat) (Option.some Jvm.ClassFile.FieldType.int)).before args0 about1 = true := code_word (m := ⟨3, 2⟩) (meth := k3m2) (c := k3c2) (by decide +kernel) rfl rfl rfl (by decide +kernel)
def codes1 : List Jvm.Cond := [Jvm.Cond.code x code maxLocals ret, Jvm.Cond.code ({ cls := "java/lang/Math", name := "min", desc := "(II)I" } : Jvm.MethodName) jdk_29_method_69_code (2 : Nat) (Option.some Jvm.ClassFile.FieldType.int), Jvm.Cond.code ({ cls := "com/example/palamedes/palamedes/lda/NonzeroTopicsRemovePinLaw", name := "fill", desc := "([II[I)I" } : Jvm.MethodName) method_2_code (4 : Nat) (Option.some Jvm.ClassFile.FieldType.int), Jvm.Cond.code ({ cls := "com/example/palamedes/palamedes/lda/NonzeroTopicsRemovePinLaw", name := "put", desc := "([II[II)V" } : Jvm.MethodName) method_3_code (4 : Nat) (Option.none : Option Jvm.ClassFile.FieldType), Jvm.Cond.code ({ cls := "com/example/palamedes/palamedes/lda/NonzeroTopics", name := "<init>", desc := "([II)V" } : Jvm.MethodName) prog_40_method_1_code (8 : Nat) (Option.none : Option Jvm.ClassFile.FieldType), Jvm.Cond.code ({ cls := "java/lang/Object", name := "<init>", desc := "()V" } : Jvm.MethodName) object_method_1_code (1 : Nat) (Option.none : Option Jvm.ClassFile.FieldType), Jvm.Cond.code ({ cls := "com/example/palamedes/palamedes/lda/NonzeroTopics", name := "room", desc := "(JI)I" } : Jvm.MethodName) prog_40_method_3_code (3 : Nat) (Option.some Jvm.ClassFile.FieldType.int), Jvm.Cond.code ({ cls := "java/lang/Math", name := "min", desc := "(JJ)J" } : Jvm.MethodName) jdk_29_method_70_code (4 : Nat) (Option.some Jvm.ClassFile.FieldType.long), Jvm.Cond.code ({ cls := "com/example/palamedes/palamedes/lda/NonzeroTopics", name := "add", desc := "(II)V" } : Jvm.MethodName) prog_40_method_6_code (3 : Nat) (Option.none : Option Jvm.ClassFile.FieldType), Jvm.Cond.code ({ cls := "com/example/palamedes/palamedes/lda/NonzeroTopics", name := "remove", desc := "(II)V" } : Jvm.MethodName) prog_40_method_7_code (4 : Nat) (Option.none : Option Jvm.ClassFile.FieldType), Jvm.Cond.code ({ cls := "com/example/palamedes/palamedes/lda/NonzeroTopicsRemovePinLaw", name := "same", desc := "([I[II)Z" } : Jvm.MethodName) method_4_code (4 : Nat) (Option.some Jvm.ClassFile.FieldType.boolean), Jvm.Cond.code ({ cls := "com/example/palamedes/palamedes/lda/NonzeroTopics", name := "length", desc := "(I)I" } : Jvm.MethodName) prog_40_method_5_code (2 : Nat) (Option.some Jvm.ClassFile.FieldType.int), Jvm.Cond.code ({ cls := "com/example/palamedes/palamedes/lda/NonzeroTopics", name := "start", desc := "(I)I" } : Jvm.MethodName) prog_40_method_4_code (2 : Nat) (Option.some Jvm.ClassFile.FieldType.int)]
set_option maxRecDepth 65536 in
theorem codes_eq : words1.filter isCode = codes1 := rfl
theorem w_codes : ∀ c ∈ words1.filter isCode, c.before args0 about1 = true := by
  rw [codes_eq]
  intro c hc
  simp only [codes1, List.mem_cons, List.not_mem_nil, or_false] at hc
  rcases hc with rfl | rfl | rfl | rfl | rfl | rfl | rfl | rfl | rfl | rfl | rfl | rfl | rfl
  · exact w_c0
  · exact w_c1
  · exact w_c2
  · exact w_c3
  · exact w_c4
  · exact w_c5
  · exact w_c6
  · exact w_c7
  · exact w_c8
  · exact w_c9
  · exact w_c10
  · exact w_c11
  · exact w_c12
set_option maxRecDepth 65536 in
theorem w_t1 : (words1.take 24).all (fun c => isCode c || c.before args0 about1) = true := by decide +kernel
set_option maxRecDepth 65536 in
theorem w_t2 : ((words1.drop 24).take 24).all (fun c => isCode c || c.before args0 about1) = true := by decide +kernel
set_option maxRecDepth 65536 in
theorem w_t3 : ((words1.drop 24).drop 24).all (fun c => isCode c || c.before args0 about1) = true := by decide +kernel
theorem w_tables : (allAtoms (Jvm.Cond.code x code maxLocals ret :: tables_1)).before args0 about1 = true := by
  rw [allAtoms_all]
  show words1.all (fun c => c.before args0 about1) = true
  refine all_split ?_ w_codes
  rw [← List.take_append_drop 24 words1, List.all_append, w_t1, ← List.take_append_drop 24 (words1.drop 24), List.all_append, w_t2, w_t3]
  rfl
set_option maxRecDepth 65536 in
theorem w_case : (Jvm.Cond.and given_1 narrow_1).before args0 about1 = true := by decide +kernel
theorem w_applies : (headSpec (Jvm.Cond.code x code maxLocals ret :: tables_1) room_1).applies x e0.platform about1 = true :=
  (Spec.applies_iff w_frames).mpr ⟨w_running, w_runnable, w_alone, w_named, w_hears, w_ripe, w_room, w_tables⟩
theorem atStart : AtStart classFile x code maxLocals ret World_1 tables_1 room_1 Calls_1 rest_1 Pre_1 launch0 p0 e0 about1 theMethod args0 below0 :=
  ⟨lists_1, trivial, launch0.admits_env _ _ _, launch0.least_env, fairChoices_fair.cas, fairChoices_fair.clock, w_frames, w_args, w_heap, w_applies, trivial, trivial, w_case⟩
end start1
theorem witness_1 : WitnessClaimed_1 := ⟨start1.p0, start1.e0, start1.about1, start1.theMethod, start1.args0, start1.below0, start1.atStart⟩
end Jvm.Pilot.@@N@@
