import JvmDerived
import JvmDerived.Pilot.@@N@@Statement
import JvmDerived.Pilot.@@N@@Code
set_option linter.unusedVariables false
set_option linter.unusedSimpArgs false
@@BLOCK:NumsL.lean.txt@@
namespace Jvm.OwnKit
open Jvm Sem ClassFile Op Lib Jvm.Free Jvm.Stand Jvm.LawKit Jvm.RoadKit Bundle
/-- a body: its method, its bytes, max_locals, what it returns, its room -/
abbrev oBd : Type := MethodName × ByteArray × Nat × Option FieldType × Room
abbrev oBd.y (b : oBd) : MethodName := b.1
abbrev oBd.bytes (b : oBd) : ByteArray := b.2.1
abbrev oBd.maxL (b : oBd) : Nat := b.2.2.1
abbrev oBd.ret (b : oBd) : Option FieldType := b.2.2.2.1
abbrev oBd.R (b : oBd) : Room := b.2.2.2.2
/-- an invocation: program, environment, its state, method, arguments, the frames below, the method's record, its code -/
abbrev oWd : Type := Program × Env × State × MethodId × Array Value × List Frame × Method × Code
/-- where a walk stands: T its state, h its heap, k cells and n slots made; all that was written lies at or above n0 -/
def oPos (l : Launch) (Z : State) (n0 : Nat) (w : oWd) (b : oBd) (T : State) (h : Heap) (k n : Nat) : Prop :=
  w.1.tables.exec = Jvm.exec ∧ Z.Warmed39 w.2.2.1.vm ∧ w.2.2.1.vm.findClass b.y.cls = some w.2.2.2.1.cls ∧ w.2.2.2.2.2.2.2.code = b.bytes ∧ w.2.2.2.2.2.2.2.maxLocals = b.maxL ∧ w.2.2.2.2.2.2.1.sig.returnType = b.ret ∧ w.2.2.2.2.2.2.1.locks = false ∧ w.2.2.2.2.2.2.1.name = b.y.name ∧ T.heap = h ∧
    ∃ locs, Stand w.1 l w.2.1 b.R w.2.2.1 w.2.2.2.1 w.2.2.2.2.1 w.2.2.2.2.2.1 w.2.2.2.2.2.2.1 w.2.2.2.2.2.2.2 T locs k n ∧ Fr n0 locs
/-- from here the invocation comes to its end, and Q holds of what it returns and of the heap -/
def oFin (w : oWd) (b : oBd) (n0 : Nat) (Q : Option Value → Heap → Prop) (T : State) (pc : Nat) (Ls : Array Slot) (st : List Value) : Prop :=
  ∃ s₂ o, Steps w.1.tables w.2.1 w.2.2.2.2.2.1 (T.setTop (mkF w.2.2.2.1 pc Ls st)) s₂ ∧ s₂.status = .running ∧ Ended s₂ w.2.2.2.2.2.1 o ∧ ∃ v L, o = .returned v ∧ (Q v s₂.heap ∧ Fr n0 L) ∧ FrameEnd w.2.2.1 o s₂ L b.R.cells b.R.slots
/-- a body's contract: called with the arguments as' at the heap h it returns, and Q holds -/
def oMet (l : Launch) (b : oBd) (ws : List Jvm.Cond) (Z : State) (n0 : Nat) (as' : Array Value) (h : Heap) (Q : Option Value → Heap → Prop) : Prop :=
  MetFree l b.y (head1 (Jvm.Cond.code b.y b.bytes b.maxL b.ret :: ws) b.R) (fun a U => a = as' ∧ Z.Warmed39 U.vm ∧ U.heap = h) (fun _ _ _ _ _ => True) (fun _ U o U' => ∃ v L, o = .returned v ∧ (Q v U'.heap ∧ Fr n0 L) ∧ FrameEnd U o U' L b.R.cells b.R.slots)
section Steps
variable {l : Launch} {Z : State} {n0 : Nat} {w : oWd} {b : oBd} {T T' : State} {h : Heap} {k n pc q : Nat} {Ls Ls' : Array Slot} {st st' : List Value} {Q : Option Value → Heap → Prop} {a0 : Array Value}
theorem o_go {pc' : Nat} (hh : ∀ t, Steps w.1.tables w.2.1 w.2.2.2.2.2.1 (T'.setTop (mkF w.2.2.2.1 pc' Ls' st')) t → Steps w.1.tables w.2.1 w.2.2.2.2.2.1 (T.setTop (mkF w.2.2.2.1 pc Ls st)) t) (K : oFin w b n0 Q T' pc' Ls' st') : oFin w b n0 Q T pc Ls st := by
  obtain ⟨s₂, o, h1, r⟩ := K
  exact ⟨s₂, o, hh _ h1, r⟩
theorem o_enter {ws : List Jvm.Cond} {as' : Array Value} (hp : plainFor b.y = true) (hef : ∀ m : MethodId, entryFrame m as' b.maxL = mkF m 0 Ls []) (body : ∀ (w : oWd) (T : State), oPos l Z n0 w b T h 0 0 → oFin w b n0 Q T 0 Ls []) : oMet l b ws Z n0 as' h Q := by
  refine MetFree.of_bodySF hp hisR ?_
  intro p e s m args below meth c s₁ Bd hml0 hP hK
  obtain ⟨rfl, hZ, hh⟩ := hP
  have e0 : s₁.heap = h := by rw [← hh, Bd.state]; rfl
  obtain ⟨s₂, o, h1, r⟩ := body (p, e, s, m, args, below, meth, c) s₁ ⟨Bd.exec, hZ, findClass_of_methodNamed Bd.named, Bd.bytes, hml0, Bd.returns, Bd.notSynchronized, (name_of_methodNamed Bd.named Bd.method).1, e0, [], Stand.of_body Bd, Fr.nil n0⟩
  exact ⟨s₂, o, castTop (hef m) h1, r⟩

theorem o_aloadN (A : oPos l Z n0 w b T h k n) {j : Fin 4} {v : Value} (hd : decode b.bytes pc = .ok (.aload_n j, 1)) (hl : Ls[j.val]? = some (.val v)) (hv : v.isRef = true) (hq : pc + 1 = q) (K : oFin w b n0 Q T q Ls (v :: st)) : oFin w b n0 Q T pc Ls (st) := by
  subst hq
  obtain ⟨hx, hZ, hown, hby, hml, hret, hlk, hnm, eT, locs, X, N⟩ := A
  exact o_go (fun t kk => XS.aloadN X.here hx rfl (hb hby hd) hl hv kk) K
theorem o_aload (A : oPos l Z n0 w b T h k n) {j : Nat} {v : Value} (hd : decode b.bytes pc = .ok (.aload j, 2)) (hl : Ls[j]? = some (.val v)) (hv : v.isRef = true) (hq : pc + 2 = q) (K : oFin w b n0 Q T q Ls (v :: st)) : oFin w b n0 Q T pc Ls (st) := by
  subst hq
  obtain ⟨hx, hZ, hown, hby, hml, hret, hlk, hnm, eT, locs, X, N⟩ := A
  exact o_go (fun t kk => XS.aload X.here hx rfl (hb hby hd) hl hv kk) K
theorem o_iloadN (A : oPos l Z n0 w b T h k n) {j : Fin 4} {v : Int32} (hd : decode b.bytes pc = .ok (.iload_n j, 1)) (hl : Ls[j.val]? = some (.val (.int v))) (hq : pc + 1 = q) (K : oFin w b n0 Q T q Ls (.int v :: st)) : oFin w b n0 Q T pc Ls (st) := by
  subst hq
  obtain ⟨hx, hZ, hown, hby, hml, hret, hlk, hnm, eT, locs, X, N⟩ := A
  exact o_go (fun t kk => XS.iloadN X.here hx rfl (hb hby hd) hl kk) K
theorem o_iload (A : oPos l Z n0 w b T h k n) {j : Nat} {v : Int32} (hd : decode b.bytes pc = .ok (.iload j, 2)) (hl : Ls[j]? = some (.val (.int v))) (hq : pc + 2 = q) (K : oFin w b n0 Q T q Ls (.int v :: st)) : oFin w b n0 Q T pc Ls (st) := by
  subst hq
  obtain ⟨hx, hZ, hown, hby, hml, hret, hlk, hnm, eT, locs, X, N⟩ := A
  exact o_go (fun t kk => XS.iload X.here hx rfl (hb hby hd) hl kk) K
theorem o_lloadN (A : oPos l Z n0 w b T h k n) {j : Fin 4} {v : Int64} (hd : decode b.bytes pc = .ok (.lload_n j, 1)) (hl : Ls[j.val]? = some (.val (.long v))) (hq : pc + 1 = q) (K : oFin w b n0 Q T q Ls (.long v :: st)) : oFin w b n0 Q T pc Ls (st) := by
  subst hq
  obtain ⟨hx, hZ, hown, hby, hml, hret, hlk, hnm, eT, locs, X, N⟩ := A
  exact o_go (fun t kk => XS.lloadN X.here hx rfl (hb hby hd) hl kk) K
theorem o_lload (A : oPos l Z n0 w b T h k n) {j : Nat} {v : Int64} (hd : decode b.bytes pc = .ok (.lload j, 2)) (hl : Ls[j]? = some (.val (.long v))) (hq : pc + 2 = q) (K : oFin w b n0 Q T q Ls (.long v :: st)) : oFin w b n0 Q T pc Ls (st) := by
  subst hq
  obtain ⟨hx, hZ, hown, hby, hml, hret, hlk, hnm, eT, locs, X, N⟩ := A
  exact o_go (fun t kk => XS.lload X.here hx rfl (hb hby hd) hl kk) K
theorem o_iconst (A : oPos l Z n0 w b T h k n) {i : Int} {z : Int32} (hd : decode b.bytes pc = .ok (.iconst i, 1)) (hz : Int32.ofInt i = z) (hq : pc + 1 = q) (K : oFin w b n0 Q T q Ls (.int z :: st)) : oFin w b n0 Q T pc Ls (st) := by
  subst hq hz
  obtain ⟨hx, hZ, hown, hby, hml, hret, hlk, hnm, eT, locs, X, N⟩ := A
  exact o_go (fun t kk => XS.iconst X.here hx rfl (hb hby hd) kk) K
theorem o_bipush (A : oPos l Z n0 w b T h k n) {i : Int} {z : Int32} (hd : decode b.bytes pc = .ok (.bipush i, 2)) (hz : (Int8.ofInt i).toInt32 = z) (hq : pc + 2 = q) (K : oFin w b n0 Q T q Ls (.int z :: st)) : oFin w b n0 Q T pc Ls (st) := by
  subst hq hz
  obtain ⟨hx, hZ, hown, hby, hml, hret, hlk, hnm, eT, locs, X, N⟩ := A
  exact o_go (fun t kk => XS.bipush X.here hx rfl (hb hby hd) kk) K
theorem o_sipush (A : oPos l Z n0 w b T h k n) {i : Int} {z : Int32} (hd : decode b.bytes pc = .ok (.sipush i, 3)) (hz : (Int16.ofInt i).toInt32 = z) (hq : pc + 3 = q) (K : oFin w b n0 Q T q Ls (.int z :: st)) : oFin w b n0 Q T pc Ls (st) := by
  subst hq hz
  obtain ⟨hx, hZ, hown, hby, hml, hret, hlk, hnm, eT, locs, X, N⟩ := A
  exact o_go (fun t kk => XS.sipush X.here hx rfl (hb hby hd) kk) K
theorem o_lconst (A : oPos l Z n0 w b T h k n) {j : Fin 2} {z : Int64} (hd : decode b.bytes pc = .ok (.lconst j, 1)) (hz : Int64.ofNat j = z) (hq : pc + 1 = q) (K : oFin w b n0 Q T q Ls (.long z :: st)) : oFin w b n0 Q T pc Ls (st) := by
  subst hq hz
  obtain ⟨hx, hZ, hown, hby, hml, hret, hlk, hnm, eT, locs, X, N⟩ := A
  exact o_go (fun t kk => XS.lconst X.here hx rfl (hb hby hd) kk) K
theorem o_aconstNull (A : oPos l Z n0 w b T h k n)  (hd : decode b.bytes pc = .ok (.aconst_null, 1))  (hq : pc + 1 = q) (K : oFin w b n0 Q T q Ls (.null :: st)) : oFin w b n0 Q T pc Ls (st) := by
  subst hq
  obtain ⟨hx, hZ, hown, hby, hml, hret, hlk, hnm, eT, locs, X, N⟩ := A
  exact o_go (fun t kk => XS.aconstNull X.here hx rfl (hb hby hd) kk) K
theorem o_iadd (A : oPos l Z n0 w b T h k n) {x y : Int32} (hd : decode b.bytes pc = .ok (.iadd, 1))  (hq : pc + 1 = q) (K : oFin w b n0 Q T q Ls (.int (x + y) :: st)) : oFin w b n0 Q T pc Ls (.int y :: .int x :: st) := by
  subst hq
  obtain ⟨hx, hZ, hown, hby, hml, hret, hlk, hnm, eT, locs, X, N⟩ := A
  exact o_go (fun t kk => XS.iadd X.here hx rfl (hb hby hd) rfl kk) K
theorem o_isub (A : oPos l Z n0 w b T h k n) {x y : Int32} (hd : decode b.bytes pc = .ok (.isub, 1))  (hq : pc + 1 = q) (K : oFin w b n0 Q T q Ls (.int (x - y) :: st)) : oFin w b n0 Q T pc Ls (.int y :: .int x :: st) := by
  subst hq
  obtain ⟨hx, hZ, hown, hby, hml, hret, hlk, hnm, eT, locs, X, N⟩ := A
  exact o_go (fun t kk => XS.isub X.here hx rfl (hb hby hd) rfl kk) K
theorem o_imul (A : oPos l Z n0 w b T h k n) {x y : Int32} (hd : decode b.bytes pc = .ok (.imul, 1))  (hq : pc + 1 = q) (K : oFin w b n0 Q T q Ls (.int (x * y) :: st)) : oFin w b n0 Q T pc Ls (.int y :: .int x :: st) := by
  subst hq
  obtain ⟨hx, hZ, hown, hby, hml, hret, hlk, hnm, eT, locs, X, N⟩ := A
  exact o_go (fun t kk => XS.imul X.here hx rfl (hb hby hd) rfl kk) K
theorem o_iand (A : oPos l Z n0 w b T h k n) {x y : Int32} (hd : decode b.bytes pc = .ok (.iand, 1))  (hq : pc + 1 = q) (K : oFin w b n0 Q T q Ls (.int (x &&& y) :: st)) : oFin w b n0 Q T pc Ls (.int y :: .int x :: st) := by
  subst hq
  obtain ⟨hx, hZ, hown, hby, hml, hret, hlk, hnm, eT, locs, X, N⟩ := A
  exact o_go (fun t kk => XS.iand X.here hx rfl (hb hby hd) rfl kk) K
theorem o_ior (A : oPos l Z n0 w b T h k n) {x y : Int32} (hd : decode b.bytes pc = .ok (.ior, 1))  (hq : pc + 1 = q) (K : oFin w b n0 Q T q Ls (.int (x ||| y) :: st)) : oFin w b n0 Q T pc Ls (.int y :: .int x :: st) := by
  subst hq
  obtain ⟨hx, hZ, hown, hby, hml, hret, hlk, hnm, eT, locs, X, N⟩ := A
  exact o_go (fun t kk => XS.ior X.here hx rfl (hb hby hd) rfl kk) K
theorem o_ishr (A : oPos l Z n0 w b T h k n) {x y : Int32} (hd : decode b.bytes pc = .ok (.ishr, 1))  (hq : pc + 1 = q) (K : oFin w b n0 Q T q Ls (.int (x >>> (y &&& 31)) :: st)) : oFin w b n0 Q T pc Ls (.int y :: .int x :: st) := by
  subst hq
  obtain ⟨hx, hZ, hown, hby, hml, hret, hlk, hnm, eT, locs, X, N⟩ := A
  exact o_go (fun t kk => XS.ishr X.here hx rfl (hb hby hd) rfl kk) K
theorem o_iushr (A : oPos l Z n0 w b T h k n) {x y : Int32} (hd : decode b.bytes pc = .ok (.iushr, 1))  (hq : pc + 1 = q) (K : oFin w b n0 Q T q Ls (.int ((x.toUInt32 >>> (y &&& 31).toUInt32).toInt32) :: st)) : oFin w b n0 Q T pc Ls (.int y :: .int x :: st) := by
  subst hq
  obtain ⟨hx, hZ, hown, hby, hml, hret, hlk, hnm, eT, locs, X, N⟩ := A
  exact o_go (fun t kk => XS.iushr X.here hx rfl (hb hby hd) rfl kk) K
theorem o_idiv (A : oPos l Z n0 w b T h k n) {x y : Int32} (hd : decode b.bytes pc = .ok (.idiv, 1)) (hy : y ≠ 0) (hq : pc + 1 = q) (K : oFin w b n0 Q T q Ls (.int (x / y) :: st)) : oFin w b n0 Q T pc Ls (.int y :: .int x :: st) := by
  subst hq
  obtain ⟨hx, hZ, hown, hby, hml, hret, hlk, hnm, eT, locs, X, N⟩ := A
  exact o_go (fun t kk => XS.idiv X.here hx rfl (hb hby hd) rfl hy kk) K
theorem o_irem (A : oPos l Z n0 w b T h k n) {x y : Int32} (hd : decode b.bytes pc = .ok (.irem, 1)) (hy : y ≠ 0) (hq : pc + 1 = q) (K : oFin w b n0 Q T q Ls (.int (x % y) :: st)) : oFin w b n0 Q T pc Ls (.int y :: .int x :: st) := by
  subst hq
  obtain ⟨hx, hZ, hown, hby, hml, hret, hlk, hnm, eT, locs, X, N⟩ := A
  exact o_go (fun t kk => iremM X hx rfl (hb hby hd) rfl hy kk) K
theorem o_ladd (A : oPos l Z n0 w b T h k n) {x y : Int64} (hd : decode b.bytes pc = .ok (.ladd, 1))  (hq : pc + 1 = q) (K : oFin w b n0 Q T q Ls (.long (x + y) :: st)) : oFin w b n0 Q T pc Ls (.long y :: .long x :: st) := by
  subst hq
  obtain ⟨hx, hZ, hown, hby, hml, hret, hlk, hnm, eT, locs, X, N⟩ := A
  exact o_go (fun t kk => XS.ladd X.here hx rfl (hb hby hd) rfl kk) K
theorem o_lsub (A : oPos l Z n0 w b T h k n) {x y : Int64} (hd : decode b.bytes pc = .ok (.lsub, 1))  (hq : pc + 1 = q) (K : oFin w b n0 Q T q Ls (.long (x - y) :: st)) : oFin w b n0 Q T pc Ls (.long y :: .long x :: st) := by
  subst hq
  obtain ⟨hx, hZ, hown, hby, hml, hret, hlk, hnm, eT, locs, X, N⟩ := A
  exact o_go (fun t kk => XS.lsub X.here hx rfl (hb hby hd) rfl kk) K
theorem o_lmul (A : oPos l Z n0 w b T h k n) {x y : Int64} (hd : decode b.bytes pc = .ok (.lmul, 1))  (hq : pc + 1 = q) (K : oFin w b n0 Q T q Ls (.long (x * y) :: st)) : oFin w b n0 Q T pc Ls (.long y :: .long x :: st) := by
  subst hq
  obtain ⟨hx, hZ, hown, hby, hml, hret, hlk, hnm, eT, locs, X, N⟩ := A
  exact o_go (fun t kk => XS.lmul X.here hx rfl (hb hby hd) rfl kk) K
theorem o_land (A : oPos l Z n0 w b T h k n) {x y : Int64} (hd : decode b.bytes pc = .ok (.land, 1))  (hq : pc + 1 = q) (K : oFin w b n0 Q T q Ls (.long (x &&& y) :: st)) : oFin w b n0 Q T pc Ls (.long y :: .long x :: st) := by
  subst hq
  obtain ⟨hx, hZ, hown, hby, hml, hret, hlk, hnm, eT, locs, X, N⟩ := A
  exact o_go (fun t kk => XS.land X.here hx rfl (hb hby hd) rfl kk) K
theorem o_lrem (A : oPos l Z n0 w b T h k n) {x y : Int64} (hd : decode b.bytes pc = .ok (.lrem, 1)) (hy : y ≠ 0) (hq : pc + 1 = q) (K : oFin w b n0 Q T q Ls (.long (x - (x / y) * y) :: st)) : oFin w b n0 Q T pc Ls (.long y :: .long x :: st) := by
  subst hq
  obtain ⟨hx, hZ, hown, hby, hml, hret, hlk, hnm, eT, locs, X, N⟩ := A
  exact o_go (fun t kk => XS.lrem X.here hx rfl (hb hby hd) rfl hy kk) K
theorem o_lushr (A : oPos l Z n0 w b T h k n) {x : Int64} {y : Int32} (hd : decode b.bytes pc = .ok (.lushr, 1))  (hq : pc + 1 = q) (K : oFin w b n0 Q T q Ls (.long ((x.toUInt64 >>> (y &&& 0x3f).toInt64.toUInt64).toInt64) :: st)) : oFin w b n0 Q T pc Ls (.int y :: .long x :: st) := by
  subst hq
  obtain ⟨hx, hZ, hown, hby, hml, hret, hlk, hnm, eT, locs, X, N⟩ := A
  exact o_go (fun t kk => XS.lushr X.here hx rfl (hb hby hd) rfl kk) K
theorem o_i2l (A : oPos l Z n0 w b T h k n) {x : Int32} (hd : decode b.bytes pc = .ok (.i2l, 1))  (hq : pc + 1 = q) (K : oFin w b n0 Q T q Ls (.long (x.toInt64) :: st)) : oFin w b n0 Q T pc Ls (.int x :: st) := by
  subst hq
  obtain ⟨hx, hZ, hown, hby, hml, hret, hlk, hnm, eT, locs, X, N⟩ := A
  exact o_go (fun t kk => XS.i2l X.here hx rfl (hb hby hd) rfl kk) K
theorem o_i2b (A : oPos l Z n0 w b T h k n) {x : Int32} (hd : decode b.bytes pc = .ok (.i2b, 1))  (hq : pc + 1 = q) (K : oFin w b n0 Q T q Ls (.int (x.toInt8.toInt32) :: st)) : oFin w b n0 Q T pc Ls (.int x :: st) := by
  subst hq
  obtain ⟨hx, hZ, hown, hby, hml, hret, hlk, hnm, eT, locs, X, N⟩ := A
  exact o_go (fun t kk => XS.i2b X.here hx rfl (hb hby hd) rfl kk) K
theorem o_i2c (A : oPos l Z n0 w b T h k n) {x : Int32} (hd : decode b.bytes pc = .ok (.i2c, 1))  (hq : pc + 1 = q) (K : oFin w b n0 Q T q Ls (.int (x.toUInt32.toUInt16.toUInt32.toInt32) :: st)) : oFin w b n0 Q T pc Ls (.int x :: st) := by
  subst hq
  obtain ⟨hx, hZ, hown, hby, hml, hret, hlk, hnm, eT, locs, X, N⟩ := A
  exact o_go (fun t kk => XS.i2c X.here hx rfl (hb hby hd) rfl kk) K
theorem o_lcmp (A : oPos l Z n0 w b T h k n) {x y : Int64} (hd : decode b.bytes pc = .ok (.lcmp, 1))  (hq : pc + 1 = q) (K : oFin w b n0 Q T q Ls (.int (lcmpW x y) :: st)) : oFin w b n0 Q T pc Ls (.long y :: .long x :: st) := by
  subst hq
  obtain ⟨hx, hZ, hown, hby, hml, hret, hlk, hnm, eT, locs, X, N⟩ := A
  exact o_go (fun t kk => XS.lcmp X.here hx rfl (hb hby hd) rfl kk) K
theorem o_dup (A : oPos l Z n0 w b T h k n) {x : Value} (hd : decode b.bytes pc = .ok (.dup, 1)) (hc : x.category = 1) (hq : pc + 1 = q) (K : oFin w b n0 Q T q Ls (x :: x :: st)) : oFin w b n0 Q T pc Ls (x :: st) := by
  subst hq
  obtain ⟨hx, hZ, hown, hby, hml, hret, hlk, hnm, eT, locs, X, N⟩ := A
  exact o_go (fun t kk => XS.dup X.here hx rfl (hb hby hd) rfl hc kk) K
theorem o_dupX1 (A : oPos l Z n0 w b T h k n) {x y : Value} (hd : decode b.bytes pc = .ok (.dup_x1, 1)) (hc : x.category = 1) (hc2 : y.category = 1) (hq : pc + 1 = q) (K : oFin w b n0 Q T q Ls (x :: y :: x :: st)) : oFin w b n0 Q T pc Ls (x :: y :: st) := by
  subst hq
  obtain ⟨hx, hZ, hown, hby, hml, hret, hlk, hnm, eT, locs, X, N⟩ := A
  exact o_go (fun t kk => Jvm.Free.XT.dupX1 X.here hx rfl (hb hby hd) rfl hc hc2 kk) K
theorem o_dup2 (A : oPos l Z n0 w b T h k n) {x y : Value} (hd : decode b.bytes pc = .ok (.dup2, 1)) (hc : x.category = 1) (hc2 : y.category = 1) (hq : pc + 1 = q) (K : oFin w b n0 Q T q Ls (x :: y :: x :: y :: st)) : oFin w b n0 Q T pc Ls (x :: y :: st) := by
  subst hq
  obtain ⟨hx, hZ, hown, hby, hml, hret, hlk, hnm, eT, locs, X, N⟩ := A
  exact o_go (fun t kk => Jvm.Free.XT.dup2 X.here hx rfl (hb hby hd) rfl hc hc2 kk) K
theorem o_pop (A : oPos l Z n0 w b T h k n) {x : Value} (hd : decode b.bytes pc = .ok (.pop, 1)) (hc : x.category = 1) (hq : pc + 1 = q) (K : oFin w b n0 Q T q Ls (st)) : oFin w b n0 Q T pc Ls (x :: st) := by
  subst hq
  obtain ⟨hx, hZ, hown, hby, hml, hret, hlk, hnm, eT, locs, X, N⟩ := A
  exact o_go (fun t kk => XS.pop X.here hx rfl (hb hby hd) rfl hc kk) K
theorem o_istoreN (A : oPos l Z n0 w b T h k n) {j : Fin 4} {x : Int32} (hd : decode b.bytes pc = .ok (.istore_n j, 1)) (hl : storeLocals Ls j.val (.int x) = some Ls') (hq : pc + 1 = q) (K : oFin w b n0 Q T q Ls' (st)) : oFin w b n0 Q T pc Ls (.int x :: st) := by
  subst hq
  obtain ⟨hx, hZ, hown, hby, hml, hret, hlk, hnm, eT, locs, X, N⟩ := A
  exact o_go (fun t kk => XS.istoreN X.here hx rfl (hb hby hd) rfl hl kk) K
theorem o_istore (A : oPos l Z n0 w b T h k n) {j : Nat} {x : Int32} (hd : decode b.bytes pc = .ok (.istore j, 2)) (hl : storeLocals Ls j (.int x) = some Ls') (hq : pc + 2 = q) (K : oFin w b n0 Q T q Ls' (st)) : oFin w b n0 Q T pc Ls (.int x :: st) := by
  subst hq
  obtain ⟨hx, hZ, hown, hby, hml, hret, hlk, hnm, eT, locs, X, N⟩ := A
  exact o_go (fun t kk => XS.istore X.here hx rfl (hb hby hd) rfl hl kk) K
theorem o_lstoreN (A : oPos l Z n0 w b T h k n) {j : Fin 4} {x : Int64} (hd : decode b.bytes pc = .ok (.lstore_n j, 1)) (hl : storeLocals Ls j.val (.long x) = some Ls') (hq : pc + 1 = q) (K : oFin w b n0 Q T q Ls' (st)) : oFin w b n0 Q T pc Ls (.long x :: st) := by
  subst hq
  obtain ⟨hx, hZ, hown, hby, hml, hret, hlk, hnm, eT, locs, X, N⟩ := A
  exact o_go (fun t kk => XS.lstoreN X.here hx rfl (hb hby hd) rfl hl kk) K
theorem o_lstore (A : oPos l Z n0 w b T h k n) {j : Nat} {x : Int64} (hd : decode b.bytes pc = .ok (.lstore j, 2)) (hl : storeLocals Ls j (.long x) = some Ls') (hq : pc + 2 = q) (K : oFin w b n0 Q T q Ls' (st)) : oFin w b n0 Q T pc Ls (.long x :: st) := by
  subst hq
  obtain ⟨hx, hZ, hown, hby, hml, hret, hlk, hnm, eT, locs, X, N⟩ := A
  exact o_go (fun t kk => XS.lstore X.here hx rfl (hb hby hd) rfl hl kk) K
theorem o_astoreN (A : oPos l Z n0 w b T h k n) {j : Fin 4} {x : Value} (hd : decode b.bytes pc = .ok (.astore_n j, 1)) (hv : x.isRef = true) (hl : storeLocals Ls j.val x = some Ls') (hq : pc + 1 = q) (K : oFin w b n0 Q T q Ls' (st)) : oFin w b n0 Q T pc Ls (x :: st) := by
  subst hq
  obtain ⟨hx, hZ, hown, hby, hml, hret, hlk, hnm, eT, locs, X, N⟩ := A
  exact o_go (fun t kk => XS.astoreN X.here hx rfl (hb hby hd) rfl hv hl kk) K
theorem o_astore (A : oPos l Z n0 w b T h k n) {j : Nat} {x : Value} (hd : decode b.bytes pc = .ok (.astore j, 2)) (hv : x.isRef = true) (hl : storeLocals Ls j x = some Ls') (hq : pc + 2 = q) (K : oFin w b n0 Q T q Ls' (st)) : oFin w b n0 Q T pc Ls (x :: st) := by
  subst hq
  obtain ⟨hx, hZ, hown, hby, hml, hret, hlk, hnm, eT, locs, X, N⟩ := A
  exact o_go (fun t kk => XS.astore X.here hx rfl (hb hby hd) rfl hv hl kk) K
theorem o_iinc (A : oPos l Z n0 w b T h k n) {j : Nat} {cst : Int} {x z : Int32} (hd : decode b.bytes pc = .ok (.iinc j cst, 3)) (hl : Ls[j]? = some (.val (.int x))) (hz : x + Int32.ofInt cst = z) (hl' : storeLocals Ls j (.int z) = some Ls') (hq : pc + 3 = q) (K : oFin w b n0 Q T q Ls' (st)) : oFin w b n0 Q T pc Ls (st) := by
  subst hq hz
  obtain ⟨hx, hZ, hown, hby, hml, hret, hlk, hnm, eT, locs, X, N⟩ := A
  exact o_go (fun t kk => XS.iinc X.here hx rfl (hb hby hd) hl hl' kk) K
theorem o_ldc (A : oPos l Z n0 w b T h k n) {index : Nat} {v : Int32} (hd : decode b.bytes pc = .ok (.ldc index, 2)) (wd : (Jvm.Cond.constant b.y.cls index v).before a0 Z = true) (hq : pc + 2 = q) (K : oFin w b n0 Q T q Ls (.int v :: st)) : oFin w b n0 Q T pc Ls (st) := by
  subst hq
  obtain ⟨hx, hZ, hown, hby, hml, hret, hlk, hnm, eT, locs, X, N⟩ := A
  exact o_go (fun t kk => X.ldcInt hx hown (mvT hZ wd) (g := mkF w.2.2.2.1 pc Ls st) rfl (hb hby hd) t kk) K
theorem o_ldc2 (A : oPos l Z n0 w b T h k n) {index : Nat} {v : Int64} (hd : decode b.bytes pc = .ok (.ldc2_w index, 3)) (wd : (Jvm.Cond.constantLong b.y.cls index v).before a0 Z = true) (hq : pc + 3 = q) (K : oFin w b n0 Q T q Ls (.long v :: st)) : oFin w b n0 Q T pc Ls (st) := by
  subst hq
  obtain ⟨hx, hZ, hown, hby, hml, hret, hlk, hnm, eT, locs, X, N⟩ := A
  exact o_go (fun t kk => X.ldc2Long hx hown (mvT hZ wd) (g := mkF w.2.2.2.1 pc Ls st) rfl (hb hby hd) t kk) K
theorem o_goto (A : oPos l Z n0 w b T h k n) {o : Int} (hd : decode b.bytes pc = .ok (.goto o, 3)) (ho : 0 ≤ (pc : Int) + o) (hq : ((pc : Int) + o).toNat = q) (K : oFin w b n0 Q T q Ls st) : oFin w b n0 Q T pc Ls st := by
  obtain ⟨hx, hZ, hown, hby, hml, hret, hlk, hnm, eT, locs, X, N⟩ := A
  exact o_go (fun t kk => XS.goto X.here hx rfl rfl (hb hby hd) ho hq kk) K
/-- what a comparison says -/
def oCnd : ClassFile.Cond → Int32 → Int32 → Prop
  | .eq, x, y => x = y
  | .ne, x, y => x ≠ y
  | .lt, x, y => x < y
  | .ge, x, y => y ≤ x
  | .gt, x, y => y < x
  | .le, x, y => x ≤ y
theorem o_cnd (cd : ClassFile.Cond) (x y : Int32) : if_icmp.holds cd x y = true ↔ oCnd cd x y := by
  cases cd <;> simp [if_icmp.holds, oCnd]
theorem o_icmp (A : oPos l Z n0 w b T h k n) {cd : ClassFile.Cond} {x y : Int32} {o : Int} {q' : Nat} (hd : decode b.bytes pc = .ok (.if_icmp cd o, 3)) (ho : 0 ≤ (pc : Int) + o) (hq : ((pc : Int) + o).toNat = q) (hq' : pc + 3 = q') (Y : oCnd cd x y → oFin w b n0 Q T q Ls st) (N' : ¬ oCnd cd x y → oFin w b n0 Q T q' Ls st) : oFin w b n0 Q T pc Ls (.int y :: .int x :: st) := by
  subst hq'
  obtain ⟨hx, hZ, hown, hby, hml, hret, hlk, hnm, eT, locs, X, N⟩ := A
  by_cases hc : oCnd cd x y
  · exact o_go (fun t kk => XS.icmpYes X.here hx rfl rfl (hb hby hd) rfl ((o_cnd _ _ _).mpr hc) ho hq kk) (Y hc)
  · exact o_go (fun t kk => XS.icmpNo X.here hx rfl (hb hby hd) rfl (by rw [← Bool.not_eq_true, o_cnd]; exact hc) kk) (N' hc)
theorem o_if (A : oPos l Z n0 w b T h k n) {cd : ClassFile.Cond} {x : Int32} {o : Int} {q' : Nat} (hd : decode b.bytes pc = .ok (.ifCond cd o, 3)) (ho : 0 ≤ (pc : Int) + o) (hq : ((pc : Int) + o).toNat = q) (hq' : pc + 3 = q') (Y : oCnd cd x 0 → oFin w b n0 Q T q Ls st) (N' : ¬ oCnd cd x 0 → oFin w b n0 Q T q' Ls st) : oFin w b n0 Q T pc Ls (.int x :: st) := by
  subst hq'
  obtain ⟨hx, hZ, hown, hby, hml, hret, hlk, hnm, eT, locs, X, N⟩ := A
  by_cases hc : oCnd cd x 0
  · exact o_go (fun t kk => XS.ifYes X.here hx rfl rfl (hb hby hd) rfl ((if0 _ _).trans ((o_cnd _ _ _).mpr hc)) ho hq kk) (Y hc)
  · exact o_go (fun t kk => XS.ifNo X.here hx rfl (hb hby hd) rfl ((if0 _ _).trans (by rw [← Bool.not_eq_true, o_cnd]; exact hc)) kk) (N' hc)
theorem o_ifnonnullR (A : oPos l Z n0 w b T h k n) {a : Addr} {o : Int} (hd : decode b.bytes pc = .ok (.ifnonnull o, 3)) (ho : 0 ≤ (pc : Int) + o) (hq : ((pc : Int) + o).toNat = q) (K : oFin w b n0 Q T q Ls st) : oFin w b n0 Q T pc Ls (.ref a :: st) := by
  obtain ⟨hx, hZ, hown, hby, hml, hret, hlk, hnm, eT, locs, X, N⟩ := A
  exact o_go (fun t kk => XS.ifnonnullYes X.here hx rfl rfl (hb hby hd) rfl ho hq kk) K
theorem o_ifnonnullN (A : oPos l Z n0 w b T h k n) {o : Int} (hd : decode b.bytes pc = .ok (.ifnonnull o, 3)) (hq : pc + 3 = q) (K : oFin w b n0 Q T q Ls st) : oFin w b n0 Q T pc Ls (.null :: st) := by
  subst hq
  obtain ⟨hx, hZ, hown, hby, hml, hret, hlk, hnm, eT, locs, X, N⟩ := A
  exact o_go (fun t kk => XS.ifnonnullNo X.here hx rfl (hb hby hd) rfl kk) K
/-- if_acmpne of two references that differ: taken -/
theorem o_acmpneY (A : oPos l Z n0 w b T h k n) {a c : Addr} {o : Int} (hd : decode b.bytes pc = .ok (.if_acmp .ne o, 3)) (hne : a ≠ c) (ho : 0 ≤ (pc : Int) + o) (hq : ((pc : Int) + o).toNat = q) (K : oFin w b n0 Q T q Ls st) : oFin w b n0 Q T pc Ls (.ref c :: .ref a :: st) := by
  obtain ⟨hx, hZ, hown, hby, hml, hret, hlk, hnm, eT, locs, X, N⟩ := A
  exact o_go (fun t kk => XS.acmpYes X.here hx rfl rfl (hb hby hd) rfl (by simp [if_acmp.holds, hne]) ho hq kk) K

theorem o_retV (A : oPos l Z n0 w b T h k n)  (hr : b.ret = none)  (hd : decode b.bytes pc = .ok (.return_, 1)) (hk : k ≤ b.R.cells) (hn : n ≤ b.R.slots) (hQ : Q (none) h) : oFin w b n0 Q T pc Ls ([]) := by
  obtain ⟨hx, hZ, hown, hby, hml, hret, hlk, hnm, eT, locs, X, N⟩ := A
  have hret' : w.2.2.2.2.2.2.1.sig.returnType = none := hret.trans hr
  obtain ⟨fs, hr', hrun, hended, hW, hsame⟩ := X.leave (v := none) (fun _ => rfl) hlk
  exact ⟨_, _, X.returnOut hx hret' (hb hby hd) hr', hrun, hended, _, _, rfl, ⟨by rw [← eT] at hQ; exact hQ, N⟩, ⟨_, rfl⟩, hW, hsame.mono hk hn⟩
theorem o_retI (A : oPos l Z n0 w b T h k n) {z : Int32} (hr : b.ret = some .int)  (hd : decode b.bytes pc = .ok (.ireturn, 1)) (hk : k ≤ b.R.cells) (hn : n ≤ b.R.slots) (hQ : Q (some (.int z)) h) : oFin w b n0 Q T pc Ls ([.int z]) := by
  obtain ⟨hx, hZ, hown, hby, hml, hret, hlk, hnm, eT, locs, X, N⟩ := A
  have hret' : w.2.2.2.2.2.2.1.sig.returnType = some .int := hret.trans hr
  obtain ⟨fs, hr', hrun, hended, hW, hsame⟩ := X.leave (v := some (.int z)) (fun hz => by rw [hret'] at hz; cases hz) hlk
  exact ⟨_, _, X.ireturnOut hx hret' rfl (Or.inl rfl) (hb hby hd) hr', hrun, hended, _, _, rfl, ⟨by rw [← eT] at hQ; exact hQ, N⟩, ⟨_, rfl⟩, hW, hsame.mono hk hn⟩
theorem o_retJ (A : oPos l Z n0 w b T h k n) {z : Int64} (hr : b.ret = some .long)  (hd : decode b.bytes pc = .ok (.lreturn, 1)) (hk : k ≤ b.R.cells) (hn : n ≤ b.R.slots) (hQ : Q (some (.long z)) h) : oFin w b n0 Q T pc Ls ([.long z]) := by
  obtain ⟨hx, hZ, hown, hby, hml, hret, hlk, hnm, eT, locs, X, N⟩ := A
  have hret' : w.2.2.2.2.2.2.1.sig.returnType = some .long := hret.trans hr
  obtain ⟨fs, hr', hrun, hended, hW, hsame⟩ := X.leave (v := some (.long z)) (fun hz => by rw [hret'] at hz; cases hz) hlk
  exact ⟨_, _, X.lreturnOut hx hret' (hb hby hd) hr', hrun, hended, _, _, rfl, ⟨by rw [← eT] at hQ; exact hQ, N⟩, ⟨_, rfl⟩, hW, hsame.mono hk hn⟩
theorem o_retA (A : oPos l Z n0 w b T h k n) {z : Value} {t : FieldType} (hr : b.ret = some t) (ht : t.isReference = true) (hz : z.isRef = true) (hd : decode b.bytes pc = .ok (.areturn, 1)) (hk : k ≤ b.R.cells) (hn : n ≤ b.R.slots) (hQ : Q (some z) h) : oFin w b n0 Q T pc Ls ([z]) := by
  obtain ⟨hx, hZ, hown, hby, hml, hret, hlk, hnm, eT, locs, X, N⟩ := A
  have hret' : w.2.2.2.2.2.2.1.sig.returnType = some t := hret.trans hr
  obtain ⟨fs, hr', hrun, hended, hW, hsame⟩ := X.leave (v := some z) (fun hz => by rw [hret'] at hz; cases hz) hlk
  exact ⟨_, _, X.areturnOut hx hz hret' ht (hb hby hd) hr', hrun, hended, _, _, rfl, ⟨by rw [← eT] at hQ; exact hQ, N⟩, ⟨_, rfl⟩, hW, hsame.mono hk hn⟩
theorem o_retN (A : oPos l Z n0 w b T h k n) {z : Int32} {t : FieldType} (hr : b.ret = some t) (ht : t = .boolean ∨ t = .byte ∨ t = .char ∨ t = .short) (hd : decode b.bytes pc = .ok (.ireturn, 1)) (hk : k ≤ b.R.cells) (hn : n ≤ b.R.slots) (hQ : Q (some (.int (nar t z))) h) : oFin w b n0 Q T pc Ls ([.int z]) := by
  obtain ⟨hx, hZ, hown, hby, hml, hret, hlk, hnm, eT, locs, X, N⟩ := A
  have hret' : w.2.2.2.2.2.2.1.sig.returnType = some t := hret.trans hr
  obtain ⟨fs, hr', hrun, hended, hW, hsame⟩ := X.leave (v := some (.int (nar t z))) (fun hz => by rw [hret'] at hz; cases hz) hlk
  exact ⟨_, _, retN X hx hret' ht (hb hby hd) hr', hrun, hended, _, _, rfl, ⟨by rw [← eT] at hQ; exact hQ, N⟩, ⟨_, rfl⟩, hW, hsame.mono hk hn⟩
theorem o_getF (A : oPos l Z n0 w b T h k n) {O nm d : String} {index : Nat} {a : Addr} {v : Value} (hd : decode b.bytes pc = .ok (.getfield index, 3)) (wd : (Jvm.Cond.fieldLink b.y.cls index O nm d).before a0 Z = true) (F : Fld Z h a O nm d v) (hq : pc + 3 = q) (K : ∀ T', oPos l Z n0 w b T' h k n → oFin w b n0 Q T' q Ls (v :: st)) : oFin w b n0 Q T pc Ls (.ref a :: st) := by
  subst hq
  obtain ⟨hx, hZ, hown, hby, hml, hret, hlk, hnm, eT, locs, X, N⟩ := A
  obtain ⟨T', X', e', st'⟩ := getF X hx hZ hown (host := "") (Or.inl wd) Via.refl eT F (g := mkF w.2.2.2.1 pc Ls (.ref a :: st)) rfl rfl (hb hby hd)
  exact o_go st' (K T' ⟨hx, hZ, hown, hby, hml, hret, hlk, hnm, e', locs, X', N⟩)
theorem o_putF (A : oPos l Z n0 w b T h k n) {O nm d C : String} {index kk : Nat} {a : Addr} {v old : Value} {ty : FieldType} (hd : decode b.bytes pc = .ok (.putfield index, 3)) (wd : (Jvm.Cond.fieldLink b.y.cls index O nm d).before a0 Z = true) (F : Fld Z h a O nm d old) (E : Exa Z h a C) (L : (Jvm.Cond.lays C O nm d).before a0 Z = true ∨ ((Jvm.Cond.laysFinal C O nm d).before a0 Z = true ∧ b.y.cls = O ∧ b.y.name = "<init>"))
    (wi : (Jvm.Cond.instantiable C kk).before a0 Z = true) (hty : parseFieldDescriptor d = some ty) (hna : narrow ty v = v) (hfi : fits ty v = true) (ha : n0 ≤ a) (hq : pc + 3 = q) (K : ∀ T' h', oPos l Z n0 w b T' h' k n → Wr h h' a (RoadKit.slotOf Z O nm d) v → oFin w b n0 Q T' q Ls st) : oFin w b n0 Q T pc Ls (v :: .ref a :: st) := by
  subst hq
  obtain ⟨hx, hZ, hown, hby, hml, hret, hlk, hnm, eT, locs, X, N⟩ := A
  obtain ⟨T', h', X', e', W, st'⟩ := putF X hx hZ hown (host := "") (Or.inl wd) Via.refl eT F E (L.imp id fun q => ⟨q.1, q.2.1, hnm.trans q.2.2⟩) wi hty hna hfi (g := mkF w.2.2.2.1 pc Ls (v :: .ref a :: st)) rfl rfl (hb hby hd)
  exact o_go st' (K T' h' ⟨hx, hZ, hown, hby, hml, hret, hlk, hnm, e', _, X', Fr.snoc X' N ha⟩ W)
theorem o_newO (A : oPos l Z n0 w b T h k n) {C : String} {index m k' n' : Nat} (hd : decode b.bytes pc = .ok (.new index, 3)) (wd : (Jvm.Cond.classLink b.y.cls index C).before a0 Z = true) (wi : (Jvm.Cond.instantiable C m).before a0 Z = true) (wz : (Jvm.Cond.initialized C).before a0 Z = true) (hk : k + 1 = k') (hn : n + m = n') (hk2 : k' ≤ b.R.cells) (hn2 : n' ≤ b.R.slots) (hq : pc + 3 = q)
    (K : ∀ T' h' a, a = h.size → oPos l Z n0 w b T' h' k' n' → Ext h h' → Exa Z h' a C → (∀ {O nm d : String} {ty : FieldType}, Laid Z a0 C O nm d → parseFieldDescriptor d = some ty → Fld Z h' a O nm d (defaultValue ty)) → oFin w b n0 Q T' q Ls (.ref a :: st)) : oFin w b n0 Q T pc Ls st := by
  subst hq hk hn
  obtain ⟨hx, hZ, hown, hby, hml, hret, hlk, hnm, eT, locs, X, N⟩ := A
  obtain ⟨T', h', X', e', E, Ax, Dx, -, st'⟩ := newO X hx hZ hown wd wi wz eT (g := mkF w.2.2.2.1 pc Ls st) rfl (hb hby hd) hk2 hn2
  exact o_go st' (K T' h' _ rfl ⟨hx, hZ, hown, hby, hml, hret, hlk, hnm, e', _, X', N⟩ E Ax Dx)
theorem o_initO (A : oPos l Z n0 w b T h k n) {idx W : Nat} {a : Addr} (hd : decode b.bytes pc = .ok (.invokespecial idx, 3)) (w1 : (Jvm.Cond.methodLink b.y.cls idx Lib.objectInit).before a0 Z = true) (w2 : (Jvm.Cond.instanceMethod Lib.objectInit).before a0 Z = true) (w3 : (Jvm.Cond.code Lib.objectInit Jvm.Lib.objCode 1 none).before a0 Z = true) (hsz : Ls.size = b.maxL) (hf : 1 ≤ b.R.frames) (hW : (st.map fun v => v.category).sum = W) (hl : W + 12 ≤ b.R.locals) (hq : pc + 3 = q)
    (K : ∀ T', oPos l Z n0 w b T' h k n → oFin w b n0 Q T' q Ls st) : oFin w b n0 Q T pc Ls (.ref a :: st) := by
  subst hq
  obtain ⟨hx, hZ, hown, hby, hml, hret, hlk, hnm, eT, locs, X, N⟩ := A
  obtain ⟨T', X', e', st'⟩ := initO X hx hZ hown w1 w2 w3 eT (g := mkF w.2.2.2.1 pc Ls (.ref a :: st)) rfl (hsz.trans hml.symm) rfl (hb hby hd) hf (W := W) (by show 2 * 0 + _ ≤ _; omega) hl
  exact o_go st' (K T' ⟨hx, hZ, hown, hby, hml, hret, hlk, hnm, e', locs, X', N⟩)

theorem o_selP {s : State} {args : Array Value} {n : Nat} {y : MethodName} (hy : y.cls ≠ "java/lang/invoke/MethodHandle" ∧ y.cls ≠ "java/lang/invoke/VarHandle") (hins : (Jvm.Cond.instantiable y.cls n).before args s = true) (hpriv : (Jvm.Cond.privateMethod y).before args s = true) (hinst : (Jvm.Cond.instanceMethod y).before args s = true) : (Jvm.Cond.selects y.cls y y).before args s = true := by
  obtain ⟨c, k, hc, hk, -, hniab, -, -⟩ := Cond.instantiable_spec hins
  have hni : k.isInterface = false := (Bool.or_eq_false_iff.mp hniab).1
  obtain ⟨mk, methM, hnamed, hmethM, -, -⟩ := Cond.instanceMethod_spec hinst
  have hfound : s.methodFound? y.cls y.name y.desc = some mk := State.methodFound?_of_named hnamed hy
  have hcls : mk.cls = c := Option.some.inj ((findClass_of_methodNamed hnamed).symm.trans hc)
  have hsel : selectMethod {} s.vm c mk = .method mk := selectMethod_private hmethM (Cond.privateMethod_at hpriv mk methM hnamed hmethM)
  simp only [Cond.before, Cond.holds, Cond.value, hc, hfound, hnamed, hsel, hcls, hk]
  simp; exact hni
theorem o_callS (A : oPos l Z n0 w b T h k n) {b' : oBd} {as' : Array Value} {Q' : Option Value → Heap → Prop} {index W k' n' : Nat} {argsL : List Value} {sig : MethodDescriptor} (hM : oMet l b' [] Z n0 as' h Q') (hd : decode b.bytes pc = .ok (.invokestatic index, 3)) (w1 : (Jvm.Cond.methodLink b.y.cls index b'.y).before a0 Z = true) (w2 : (Jvm.Cond.static b'.y).before a0 Z = true) (w3 : (Jvm.Cond.initialized b'.y.cls).before a0 Z = true) (w4 : (Jvm.Cond.code b'.y b'.bytes b'.maxL b'.ret).before a0 Z = true)
    (hy : b'.y.cls ≠ "java/lang/invoke/MethodHandle" ∧ b'.y.cls ≠ "java/lang/invoke/VarHandle") (hsig : parseMethodDescriptor b'.y.desc = some sig) (hlen : argsL.length = sig.parameters.length) (has : argsL.toArray = as') (hst : st' = argsL.reverse ++ st) (hsz : Ls.size = b.maxL) (hW : (st.map fun v => v.category).sum = W) (hf : b'.R.frames + 1 ≤ b.R.frames) (hl : W + (b'.maxL + 11) + b'.R.locals ≤ b.R.locals)
    (hk : k + b'.R.cells = k') (hn : n + b'.R.slots = n') (hk2 : k' ≤ b.R.cells) (hn2 : n' ≤ b.R.slots) (hq : pc + 3 = q) (K : ∀ v T' h', oPos l Z n0 w b T' h' k' n' → Q' v h' → oFin w b n0 Q T' q Ls (v.toList ++ st)) : oFin w b n0 Q T pc Ls st' := by
  subst hq hk hn has hst
  obtain ⟨hx, hZ, hown, hby, hml, hret, hlk, hnm, eT, locs, X, N⟩ := A
  obtain ⟨v, _, ⟨T', L', k', n'⟩, -, X', ⟨Lc, hQ', l', y', z'⟩, stp⟩ := Jvm.LawKit.callS X hx (y := b'.y) hown (mvT hZ w1) (mvT hZ w2) (mvT hZ w3) (mvT hZ w4) hy (backOf (W := W) (Q := fun v h' L => Q' v h' ∧ Fr n0 L) hM hZ w4 w3 hf hl) (g := mkF w.2.2.2.1 pc Ls (argsL.reverse ++ st)) rfl (hsz.trans hml.symm) (argsL := argsL) (rest := st) (lenOf hsig hlen) rfl (by show 2 * 0 + _ ≤ _; omega) (hb hby hd) (fun _ _ => ⟨rfl, eT, hk2, hn2⟩)
  dsimp only [Pt.U, Pt.locs, Pt.cells, Pt.slots] at X' l' y' z' stp hQ'
  subst l' y' z'
  exact o_go stp (K v T' _ ⟨hx, hZ, hown, hby, hml, hret, hlk, hnm, rfl, _, X', Fr.app N hQ'.2⟩ hQ'.1)
theorem o_callV (A : oPos l Z n0 w b T h k n) {b' : oBd} {as' : Array Value} {Q' : Option Value → Heap → Prop} {C : String} {a : Addr} {index W k' n' : Nat} {argsL : List Value} {sig : MethodDescriptor} (hM : oMet l b' [] Z n0 as' h Q') (hd : decode b.bytes pc = .ok (.invokevirtual index, 3)) (E : Exa Z h a C) (w1 : (Jvm.Cond.methodLink b.y.cls index b'.y).before a0 Z = true) (w2 : (Jvm.Cond.declares b'.y).before a0 Z = true) (ws : (Jvm.Cond.selects C b'.y b'.y).before a0 Z = true) (wi : (Jvm.Cond.instanceMethod b'.y).before a0 Z = true) (w3 : (Jvm.Cond.initialized b'.y.cls).before a0 Z = true) (w4 : (Jvm.Cond.code b'.y b'.bytes b'.maxL b'.ret).before a0 Z = true)
    (hy : b'.y.cls ≠ "java/lang/invoke/MethodHandle" ∧ b'.y.cls ≠ "java/lang/invoke/VarHandle") (hsig : parseMethodDescriptor b'.y.desc = some sig) (hlen : argsL.length = sig.parameters.length) (has : (.ref a :: argsL).toArray = as') (hst : st' = argsL.reverse ++ .ref a :: st) (hsz : Ls.size = b.maxL) (hW : (st.map fun v => v.category).sum = W) (hf : b'.R.frames + 1 ≤ b.R.frames) (hl : W + (b'.maxL + 11) + b'.R.locals ≤ b.R.locals)
    (hk : k + b'.R.cells = k') (hn : n + b'.R.slots = n') (hk2 : k' ≤ b.R.cells) (hn2 : n' ≤ b.R.slots) (hq : pc + 3 = q) (K : ∀ v T' h', oPos l Z n0 w b T' h' k' n' → Q' v h' → oFin w b n0 Q T' q Ls (v.toList ++ st)) : oFin w b n0 Q T pc Ls st' := by
  subst hq hk hn has hst
  obtain ⟨hx, hZ, hown, hby, hml, hret, hlk, hnm, eT, locs, X, N⟩ := A
  obtain ⟨cq, kq, qa, qb, qc⟩ := isOf hZ eT E
  obtain ⟨v, _, ⟨T', L', k', n'⟩, -, X', ⟨Lc, hQ', l', y', z'⟩, stp⟩ := X.virtualBack hx (y := b'.y) (z := b'.y) hown (mvT hZ w1) (mvT hZ w2) (notFace_of_selects (args := #[]) (mvT hZ ws)) (mvT hZ ws) (mvT hZ wi) hy (backOf (W := W) (Q := fun v h' L => Q' v h' ∧ Fr n0 L) hM hZ w4 w3 hf hl) qa qc (g := mkF w.2.2.2.1 pc Ls (argsL.reverse ++ .ref a :: st)) rfl (hsz.trans hml.symm) (Steps.refl _) (argsL := argsL) (rest := st) (lenOf hsig hlen) rfl (by show 2 * 0 + _ ≤ _; omega) (hb hby hd) (fun _ _ => ⟨rfl, eT, hk2, hn2⟩)
  dsimp only [Pt.U, Pt.locs, Pt.cells, Pt.slots] at X' l' y' z' stp hQ'
  subst l' y' z'
  exact o_go (fun t kk => stp.trans kk) (K v T' _ ⟨hx, hZ, hown, hby, hml, hret, hlk, hnm, rfl, _, X', Fr.app N hQ'.2⟩ hQ'.1)
theorem o_callP (A : oPos l Z n0 w b T h k n) {b' : oBd} {as' : Array Value} {Q' : Option Value → Heap → Prop} {C : String} {a : Addr} {index W k' n' : Nat} {argsL : List Value} {sig : MethodDescriptor} (hM : oMet l b' [] Z n0 as' h Q') (hd : decode b.bytes pc = .ok (.invokevirtual index, 3)) (E : Exa Z h a C) (w1 : (Jvm.Cond.methodLink b.y.cls index b'.y).before a0 Z = true) (wp : (Jvm.Cond.privateMethod b'.y).before a0 Z = true) {mm : Nat} (wn : (Jvm.Cond.instantiable b'.y.cls mm).before a0 Z = true) (wi : (Jvm.Cond.instanceMethod b'.y).before a0 Z = true) (w3 : (Jvm.Cond.initialized b'.y.cls).before a0 Z = true) (w4 : (Jvm.Cond.code b'.y b'.bytes b'.maxL b'.ret).before a0 Z = true)
    (hy : b'.y.cls ≠ "java/lang/invoke/MethodHandle" ∧ b'.y.cls ≠ "java/lang/invoke/VarHandle") (hsig : parseMethodDescriptor b'.y.desc = some sig) (hlen : argsL.length = sig.parameters.length) (has : (.ref a :: argsL).toArray = as') (hst : st' = argsL.reverse ++ .ref a :: st) (hsz : Ls.size = b.maxL) (hW : (st.map fun v => v.category).sum = W) (hf : b'.R.frames + 1 ≤ b.R.frames) (hl : W + (b'.maxL + 11) + b'.R.locals ≤ b.R.locals)
    (hk : k + b'.R.cells = k') (hn : n + b'.R.slots = n') (hk2 : k' ≤ b.R.cells) (hn2 : n' ≤ b.R.slots) (hq : pc + 3 = q) (K : ∀ v T' h', oPos l Z n0 w b T' h' k' n' → Q' v h' → oFin w b n0 Q T' q Ls (v.toList ++ st)) : oFin w b n0 Q T pc Ls st' := by
  subst hq hk hn has hst
  obtain ⟨hx, hZ, hown, hby, hml, hret, hlk, hnm, eT, locs, X, N⟩ := A
  obtain ⟨cq, qa, qb⟩ := E.cell
  obtain ⟨v, _, ⟨T', L', k', n'⟩, -, X', ⟨Lc, hQ', l', y', z'⟩, stp⟩ := X.privateBack hx (y := b'.y) hown (mvT hZ w1) (mvT hZ wi) (mvT hZ (o_selP hy wn wp wi)) (Cond.privateMethod_at (mvP hZ wp (args := #[]))) (mvT hZ w4) hy (backOf (W := W) (Q := fun v h' L => Q' v h' ∧ Fr n0 L) hM hZ w4 w3 hf hl) (g := mkF w.2.2.2.1 pc Ls (argsL.reverse ++ .ref a :: st)) rfl (hsz.trans hml.symm) (Steps.refl _) (a := a) (by rw [eT]; exact qa) qb (argsL := argsL) (rest := st) (lenOf hsig hlen) rfl (by show 2 * 0 + _ ≤ _; omega) (hb hby hd) (fun _ _ => ⟨rfl, eT, hk2, hn2⟩)
  dsimp only [Pt.U, Pt.locs, Pt.cells, Pt.slots] at X' l' y' z' stp hQ'
  subst l' y' z'
  exact o_go (fun t kk => stp.trans kk) (K v T' _ ⟨hx, hZ, hown, hby, hml, hret, hlk, hnm, rfl, _, X', Fr.app N hQ'.2⟩ hQ'.1)
theorem o_callC (A : oPos l Z n0 w b T h k n) {b' : oBd} {as' : Array Value} {Q' : Option Value → Heap → Prop} {a : Addr} {index W k' n' : Nat} {argsL : List Value} {sig : MethodDescriptor} (hM : oMet l b' [] Z n0 as' h Q') (hd : decode b.bytes pc = .ok (.invokespecial index, 3)) (hi : b'.y.name = "<init>") (w1 : (Jvm.Cond.methodLink b.y.cls index b'.y).before a0 Z = true) (wi : (Jvm.Cond.instanceMethod b'.y).before a0 Z = true) (w3 : (Jvm.Cond.initialized b'.y.cls).before a0 Z = true) (w4 : (Jvm.Cond.code b'.y b'.bytes b'.maxL b'.ret).before a0 Z = true) (hrn : b'.ret = none)
    (hy : b'.y.cls ≠ "java/lang/invoke/MethodHandle" ∧ b'.y.cls ≠ "java/lang/invoke/VarHandle") (hsig : parseMethodDescriptor b'.y.desc = some sig) (hlen : argsL.length = sig.parameters.length) (has : (.ref a :: argsL).toArray = as') (hst : st' = argsL.reverse ++ .ref a :: st) (hsz : Ls.size = b.maxL) (hW : (st.map fun v => v.category).sum = W) (hf : b'.R.frames + 1 ≤ b.R.frames) (hl : W + (b'.maxL + 11) + b'.R.locals ≤ b.R.locals)
    (hk : k + b'.R.cells = k') (hn : n + b'.R.slots = n') (hk2 : k' ≤ b.R.cells) (hn2 : n' ≤ b.R.slots) (hq : pc + 3 = q) (K : ∀ v T' h', oPos l Z n0 w b T' h' k' n' → Q' v h' → oFin w b n0 Q T' q Ls (v.toList ++ st)) : oFin w b n0 Q T pc Ls st' := by
  subst hq hk hn has hst
  obtain ⟨hx, hZ, hown, hby, hml, hret, hlk, hnm, eT, locs, X, N⟩ := A
  obtain ⟨v, _, ⟨T', L', k', n'⟩, -, X', ⟨Lc, hQ', l', y', z'⟩, stp⟩ := X.specialBack hx (y := b'.y) hi hown (mvT hZ w1) (mvT hZ wi) (bytes := b'.bytes) (maxL := b'.maxL) (mvT hZ (by rw [← hrn]; exact w4)) hy (backOf (W := W) (Q := fun v h' L => Q' v h' ∧ Fr n0 L) hM hZ w4 w3 hf hl) (g := mkF w.2.2.2.1 pc Ls (argsL.reverse ++ .ref a :: st)) rfl (hsz.trans hml.symm) (Steps.refl _) (a := a) (argsL := argsL) (rest := st) (lenOf hsig hlen) rfl (by show 2 * 0 + _ ≤ _; omega) (hb hby hd) (fun _ _ => ⟨rfl, eT, hk2, hn2⟩)
  dsimp only [Pt.U, Pt.locs, Pt.cells, Pt.slots] at X' l' y' z' stp hQ'
  subst l' y' z'
  exact o_go (fun t kk => stp.trans kk) (K v T' _ ⟨hx, hZ, hown, hby, hml, hret, hlk, hnm, rfl, _, X', Fr.app N hQ'.2⟩ hQ'.1)

/-- an array of n places; place i holds f i -/
def oArr (Z : State) (h : Heap) (a : Addr) (ty : FieldType) (n : Nat) (f : Nat → Value) : Prop := n < 2 ^ 31 ∧ ∃ c : Cell, Arr Z h a c ty ∧ c.slots.size = n ∧ ∀ i, i < n → c.slots[i]? = some (f i)
theorem o_ix {j : Int32} {i m : Nat} (hj : j.toInt = (i : Int)) (hi : i < m) : j.toNatClampNeg = i ∧ ¬ (j < 0 ∨ m ≤ j.toNatClampNeg) := by
  have e1 : j.toNatClampNeg = i := by
    show j.toInt.toNat = i
    rw [hj]; rfl
  refine ⟨e1, ?_⟩
  rw [e1, Int32.lt_iff_toInt_lt, hj, Int32.toInt_zero]
  omega
section Arrays
variable {h1 h2 : Heap} {a c : Addr} {ty : FieldType} {m : Nat} {f : Nat → Value} {sl : Nat} {v : Value} {ws : List Addr}
theorem oArr.lt (F : oArr Z h1 a ty m f) : a < h1.size := by obtain ⟨-, c, A, -⟩ := F; exact A.lt
theorem oArr.ext (F : oArr Z h1 a ty m f) (E : Ext h1 h2) : oArr Z h2 a ty m f := by obtain ⟨q, c, A, r⟩ := F; exact ⟨q, c, A.ext E, r⟩
theorem oArr.other (F : oArr Z h1 a ty m f) (W : Wr h1 h2 c sl v) (q : a ≠ c) : oArr Z h2 a ty m f := by obtain ⟨p, c, A, r⟩ := F; exact ⟨p, c, A.other W q, r⟩
theorem oArr.keep (F : oArr Z h1 a ty m f) (K : Keep h1 h2 ws) (q : a ∉ ws) : oArr Z h2 a ty m f := by obtain ⟨p, c, A, r⟩ := F; exact ⟨p, c, ⟨K.2.1 a c A.1 q, A.2⟩, r⟩
theorem oArr.same (F : oArr Z h1 a ty m f) (W : Wr h1 h2 a sl v) : oArr Z h2 a ty m (fun i => if i = sl then v else f i) := by
  obtain ⟨p, c, A, S, H⟩ := F
  refine ⟨p, _, A.same W, by rw [← S]; simp [Cell.setSlot], fun i hi => ?_⟩
  show (c.slots.setIfInBounds sl v)[i]? = _
  by_cases e : i = sl
  · subst e
    simp [S, hi]
  · simp only [if_neg e]
    rw [Array.getElem?_setIfInBounds_ne (Ne.symm e)]
    exact H i hi
theorem oArr.congr {f' : Nat → Value} (F : oArr Z h1 a ty m f) (q : ∀ i, i < m → f i = f' i) : oArr Z h1 a ty m f' := by
  obtain ⟨p, c, A, S, H⟩ := F
  exact ⟨p, c, A, S, fun i hi => by rw [← q i hi]; exact H i hi⟩
end Arrays
theorem o_arraylength (A : oPos l Z n0 w b T h k n) {a : Addr} {ty : FieldType} {m : Nat} {f : Nat → Value} {z : Int32} (hd : decode b.bytes pc = .ok (.arraylength, 1)) (F : oArr Z h a ty m f) (hz : m.toInt32 = z) (hq : pc + 1 = q) (K : oFin w b n0 Q T q Ls (.int z :: st)) : oFin w b n0 Q T pc Ls (.ref a :: st) := by
  subst hq hz
  obtain ⟨hx, hZ, hown, hby, hml, hret, hlk, hnm, eT, locs, X, N⟩ := A
  obtain ⟨-, c, Ar, S, -⟩ := F
  subst S
  exact o_go (fun t kk => X.arraylength hx (by rw [eT]; exact Ar.1) (State.isArrayOf_alike hZ.alike Ar.2.1) (g := mkF w.2.2.2.1 pc Ls (.ref a :: st)) rfl rfl (hb hby hd) t kk) K

theorem o_iaload (A : oPos l Z n0 w b T h k n) {a : Addr} {m i : Nat} {f : Nat → Value} {j : Int32} {v : Value} (hd : decode b.bytes pc = .ok (.iaload, 1)) (F : oArr Z h a .int m f) (hj : j.toInt = (i : Int)) (hi : i < m) (hv : f i = v) (hq : pc + 1 = q) (K : oFin w b n0 Q T q Ls (v :: st)) : oFin w b n0 Q T pc Ls (.int j :: .ref a :: st) := by
  subst hq hv
  obtain ⟨hx, hZ, hown, hby, hml, hret, hlk, hnm, eT, locs, X, N⟩ := A
  obtain ⟨-, c, Ar, S, H⟩ := F
  subst S
  exact o_go (fun t kk => X.iaload hx (j := j) (v := f i) (by rw [eT]; exact Ar.1) (State.isArrayOf_alike hZ.alike Ar.2.1) Ar.2.2 (o_ix hj hi).2 (by rw [(o_ix hj hi).1]; exact H i hi) (g := mkF w.2.2.2.1 pc Ls (.int j :: .ref a :: st)) rfl rfl (hb hby hd) t kk) K
theorem o_laload (A : oPos l Z n0 w b T h k n) {a : Addr} {m i : Nat} {f : Nat → Value} {j : Int32} {v : Value} (hd : decode b.bytes pc = .ok (.laload, 1)) (F : oArr Z h a .long m f) (hj : j.toInt = (i : Int)) (hi : i < m) (hv : f i = v) (hq : pc + 1 = q) (K : oFin w b n0 Q T q Ls (v :: st)) : oFin w b n0 Q T pc Ls (.int j :: .ref a :: st) := by
  subst hq hv
  obtain ⟨hx, hZ, hown, hby, hml, hret, hlk, hnm, eT, locs, X, N⟩ := A
  obtain ⟨-, c, Ar, S, H⟩ := F
  subst S
  exact o_go (fun t kk => X.laload hx (j := j) (v := f i) (by rw [eT]; exact Ar.1) (State.isArrayOf_alike hZ.alike Ar.2.1) Ar.2.2 (o_ix hj hi).2 (by rw [(o_ix hj hi).1]; exact H i hi) (g := mkF w.2.2.2.1 pc Ls (.int j :: .ref a :: st)) rfl rfl (hb hby hd) t kk) K
theorem o_baload (A : oPos l Z n0 w b T h k n) {a : Addr} {m i : Nat} {f : Nat → Value} {j : Int32} {v : Value} (hd : decode b.bytes pc = .ok (.baload, 1)) (F : oArr Z h a .byte m f) (hj : j.toInt = (i : Int)) (hi : i < m) (hv : f i = v) (hq : pc + 1 = q) (K : oFin w b n0 Q T q Ls (v :: st)) : oFin w b n0 Q T pc Ls (.int j :: .ref a :: st) := by
  subst hq hv
  obtain ⟨hx, hZ, hown, hby, hml, hret, hlk, hnm, eT, locs, X, N⟩ := A
  obtain ⟨-, c, Ar, S, H⟩ := F
  subst S
  exact o_go (fun t kk => X.baloadBytes hx (j := j) (v := f i) (by rw [eT]; exact Ar.1) (State.isArrayOf_alike hZ.alike Ar.2.1) Ar.2.2 (o_ix hj hi).2 (by rw [(o_ix hj hi).1]; exact H i hi) (g := mkF w.2.2.2.1 pc Ls (.int j :: .ref a :: st)) rfl rfl (hb hby hd) t kk) K
theorem o_aaload (A : oPos l Z n0 w b T h k n) {a : Addr} {m i : Nat} {f : Nat → Value} {j : Int32} {v : Value} {ty : FieldType} (hd : decode b.bytes pc = .ok (.aaload, 1)) (F : oArr Z h a ty m f) (hty : ty.isReference = true) (hj : j.toInt = (i : Int)) (hi : i < m) (hv : f i = v) (hq : pc + 1 = q) (K : oFin w b n0 Q T q Ls (v :: st)) : oFin w b n0 Q T pc Ls (.int j :: .ref a :: st) := by
  subst hq hv
  obtain ⟨hx, hZ, hown, hby, hml, hret, hlk, hnm, eT, locs, X, N⟩ := A
  obtain ⟨-, c, Ar, S, H⟩ := F
  subst S
  exact o_go (fun t kk => X.aaload hx (j := j) (v := f i) (by rw [eT]; exact Ar.1) (State.isArrayOf_alike hZ.alike Ar.2.1) hty Ar.2.2 (o_ix hj hi).2 (by rw [(o_ix hj hi).1]; exact H i hi) (g := mkF w.2.2.2.1 pc Ls (.int j :: .ref a :: st)) rfl rfl (hb hby hd) t kk) K
theorem o_iastore (A : oPos l Z n0 w b T h k n) {a : Addr} {m i : Nat} {f : Nat → Value} {j : Int32} {x : Int32} (hd : decode b.bytes pc = .ok (.iastore, 1)) (F : oArr Z h a .int m f) (hj : j.toInt = (i : Int)) (hi : i < m) (ha : n0 ≤ a) (hq : pc + 1 = q) (K : ∀ T' h', oPos l Z n0 w b T' h' k n → Wr h h' a i (.int x) → oFin w b n0 Q T' q Ls st) : oFin w b n0 Q T pc Ls (.int x :: .int j :: .ref a :: st) := by
  subst hq
  obtain ⟨hx, hZ, hown, hby, hml, hret, hlk, hnm, eT, locs, X, N⟩ := A
  obtain ⟨-, c, Ar, S, H⟩ := F
  subst S
  obtain ⟨e1, e2⟩ := o_ix hj hi
  obtain ⟨T', h', X', e', W, st'⟩ := stI X hx hZ eT Ar (j := j) e2 (g := mkF w.2.2.2.1 pc Ls (.int x :: .int j :: .ref a :: st)) rfl rfl (hb hby hd)
  rw [e1] at W
  exact o_go st' (K T' h' ⟨hx, hZ, hown, hby, hml, hret, hlk, hnm, e', _, X', Fr.snoc X' N ha⟩ W)
theorem o_lastore (A : oPos l Z n0 w b T h k n) {a : Addr} {m i : Nat} {f : Nat → Value} {j : Int32} {x : Int64} (hd : decode b.bytes pc = .ok (.lastore, 1)) (F : oArr Z h a .long m f) (hj : j.toInt = (i : Int)) (hi : i < m) (ha : n0 ≤ a) (hq : pc + 1 = q) (K : ∀ T' h', oPos l Z n0 w b T' h' k n → Wr h h' a i (.long x) → oFin w b n0 Q T' q Ls st) : oFin w b n0 Q T pc Ls (.long x :: .int j :: .ref a :: st) := by
  subst hq
  obtain ⟨hx, hZ, hown, hby, hml, hret, hlk, hnm, eT, locs, X, N⟩ := A
  obtain ⟨-, c, Ar, S, H⟩ := F
  subst S
  obtain ⟨e1, e2⟩ := o_ix hj hi
  obtain ⟨T', h', X', e', W, st'⟩ := stJ X hx hZ eT Ar (j := j) e2 (g := mkF w.2.2.2.1 pc Ls (.long x :: .int j :: .ref a :: st)) rfl rfl (hb hby hd)
  rw [e1] at W
  exact o_go st' (K T' h' ⟨hx, hZ, hown, hby, hml, hret, hlk, hnm, e', _, X', Fr.snoc X' N ha⟩ W)
theorem o_bastore (A : oPos l Z n0 w b T h k n) {a : Addr} {m i : Nat} {f : Nat → Value} {j : Int32} {x : Int32} (hd : decode b.bytes pc = .ok (.bastore, 1)) (F : oArr Z h a .byte m f) (hj : j.toInt = (i : Int)) (hi : i < m) (ha : n0 ≤ a) (hq : pc + 1 = q) (K : ∀ T' h', oPos l Z n0 w b T' h' k n → Wr h h' a i (.int (nar .byte x)) → oFin w b n0 Q T' q Ls st) : oFin w b n0 Q T pc Ls (.int x :: .int j :: .ref a :: st) := by
  subst hq
  obtain ⟨hx, hZ, hown, hby, hml, hret, hlk, hnm, eT, locs, X, N⟩ := A
  obtain ⟨-, c, Ar, S, H⟩ := F
  subst S
  obtain ⟨e1, e2⟩ := o_ix hj hi
  obtain ⟨T', h', X', e', W, st'⟩ := stB X hx hZ eT Ar (j := j) e2 (g := mkF w.2.2.2.1 pc Ls (.int x :: .int j :: .ref a :: st)) rfl rfl (hb hby hd)
  rw [e1] at W
  exact o_go st' (K T' h' ⟨hx, hZ, hown, hby, hml, hret, hlk, hnm, e', _, X', Fr.snoc X' N ha⟩ W)
theorem o_kept {s u : State} {h : Heap} (K : Jvm.Free.XT.Kept s u) (e : s.heap = h) : Ext h u.heap := by
  subst e
  refine ⟨Nat.le_of_not_lt fun q => ?_, K⟩
  have hlt : s.heap.size - 1 < s.heap.size := by omega
  have h1 := (Array.getElem?_eq_some_iff.mp (K (s.heap.size - 1) _ (Array.getElem?_eq_getElem hlt))).1
  omega
theorem o_ext {h h' : Heap} (K : Keep h h' []) : Ext h h' := ⟨K.1, fun x c q => K.2.1 x c q nin0⟩
theorem o_exrefl (h : Heap) : Ext h h := ⟨Nat.le_refl _, fun _ _ q => q⟩
theorem o_extr {h h' h2 : Heap} (E : Ext h h') (E2 : Ext h' h2) : Ext h h2 := ⟨Nat.le_trans E.1 E2.1, fun x c q => E2.2 x c (E.2 x c q)⟩
theorem o_exwr {h h' h2 : Heap} {a : Addr} {sl : Nat} {v : Value} (E : Ext h h') (W : Wr h' h2 a sl v) (q : h.size ≤ a) : Ext h h2 := by
  refine ⟨by rw [W.size]; exact E.1, fun x c hc => ?_⟩
  have hx : x < h.size := (Array.getElem?_eq_some_iff.mp hc).1
  obtain ⟨c', e1, -, -, -, e5, -⟩ := wr_at W (E.2 x c hc)
  rw [← e5 (Nat.ne_of_lt (Nat.lt_of_lt_of_le hx q))]; exact e1
/-- isArrayOf, carried back to the start's tables -/
theorem o_arrBack {Z u : State} (hal : Z.vm.Alike u.vm) {B : Cell} {t : FieldType} (hA : u.isArrayOf B t) {ad : String} (hf : u.vm.findClass ad = some B.cls) : Z.isArrayOf B t ∧ ∃ kZ, Z.vm.findClass ad = some B.cls ∧ Z.vm.classes[B.cls]? = some kZ ∧ ∃ comp, kZ.kind = .array comp t := by
  rw [hal.findClass] at hf
  obtain ⟨kZ, z1, -⟩ := Vm.findClass_spec hf
  obtain ⟨k', z2, z3⟩ := hal.2.2 _ _ z1
  obtain ⟨q0, k2, q1, comp, q2⟩ := hA
  cases q1.symm.trans z2
  have q3 : kZ.kind = .array comp t := by rw [← q2, z3]
  exact ⟨⟨q0, kZ, z1, comp, q3⟩, kZ, hf, z1, comp, q3⟩
theorem o_copyOfI (A : oPos l Z n0 w b T h k n) {a : Addr} {m j : Nat} {f : Nat → Int32} {z : Int32} {index W k' n' : Nat} (hd : decode b.bytes pc = .ok (.invokestatic index, 3)) (V : oArr Z h a .int m (fun i => .int (f i))) (E : Exa Z h a "[I") (hz : Int32.ofNat j = z) (hj : j ≤ 134217728) (w1 : (Jvm.Cond.methodLink b.y.cls index Jvm.Free.JA.CopyOfI.yN).before a0 Z = true) (w2 : (Jvm.Cond.static Jvm.Free.JA.CopyOfI.yN).before a0 Z = true) (w3 : (Jvm.Cond.initialized "java/util/Arrays").before a0 Z = true) (w4 : (Jvm.Cond.code Jvm.Free.JA.CopyOfI.yN Jvm.Free.JA.CopyOfI.yB 3 (some (.array .int))).before a0 Z = true)
    (ws : ∀ d ∈ Jvm.Free.JA.CopyOfI.site, d.before w.2.2.2.2.1 w.2.2.1 = true) (hsz : Ls.size = b.maxL) (hW : (st.map fun v => v.category).sum = W) (hf : 2 ≤ b.R.frames) (hl : W + 54 ≤ b.R.locals) (hk : k + 1 = k') (hn : n + j = n') (hk2 : k' ≤ b.R.cells) (hn2 : n' ≤ b.R.slots) (hq : pc + 3 = q)
    (K : ∀ T' h' r, r = h.size → oPos l Z n0 w b T' h' k' n' → Ext h h' → oArr Z h' r .int j (fun i => if i < m then .int (f i) else .int 0) → Exa Z h' r "[I" → oFin w b n0 Q T' q Ls (.ref r :: st)) : oFin w b n0 Q T pc Ls (.int z :: .ref a :: st) := by
  subst hq hk hn hz
  obtain ⟨hx, hZ, hown, hby, hml, hret, hlk, hnm, eT, locs, X, N⟩ := A
  obtain ⟨hm, cl, Ar, S, H⟩ := V
  obtain ⟨cl', kc, e1, e2, e3, e4, -⟩ := E
  cases e1.symm.trans Ar.1
  have hal : Z.vm.Alike w.2.2.1.vm := hZ.alike
  have hty : Jvm.Free.XT.Typed .int cl := fun i v hv => by
    have hi : i < cl.slots.size := (Array.getElem?_eq_some_iff.mp hv).1
    rw [H i (by omega)] at hv
    cases hv; rfl
  have htab : Jvm.Free.JA.CopyOfI.tab.before w.2.2.2.2.1 w.2.2.1 = true := Jvm.Free.XT.unparts (mvT hZ w4) (fun d hd' => (List.mem_cons.mp hd').elim (fun e => e ▸ mvT hZ w3) (ws d))
  obtain ⟨v, vm₁, ⟨T', L', k', n'⟩, hW₁, X', ⟨hE, l', y', z'⟩, stp⟩ := Jvm.LawKit.callS X hx (y := Jvm.Free.JA.CopyOfI.yN) hown (mvT hZ w1) (mvT hZ w2) (mvT hZ w3) (mvT hZ w4) (by decide) (Jvm.Free.JA.CopyOfI.pays (W := W) a cl j htab hf hl) (g := mkF w.2.2.2.1 pc Ls (.int (Int32.ofNat j) :: .ref a :: st)) rfl (hsz.trans hml.symm) (argsL := [.ref a, .int (Int32.ofNat j)]) (rest := st) (lenOf (show parseMethodDescriptor "([II)[I" = some ⟨[.array .int, .int], some (.array .int)⟩ by decide +kernel) rfl) rfl (by show 2 * 0 + _ ≤ _; omega) (hb hby hd)
    (fun vm₁ hv₁ => ⟨hk2, hn2, rfl, ⟨by show T.heap[a]? = _; rw [eT]; exact Ar.1, State.isArrayOf_alike (hal.trans hv₁.alike) Ar.2.1, Ar.2.2, by omega⟩, by show vm₁.findClass _ = _; rw [(hal.trans hv₁.alike).findClass]; exact e2, hty, hj⟩)
  dsimp only [Pt.U, Pt.locs, Pt.cells, Pt.slots] at X' l' y' z' stp hE
  subst l' y' z'
  obtain ⟨rfl, B, b1, b2, b3, b4, b5, b6⟩ := hE
  have halU : Z.vm.Alike T'.vm := hal.trans X'.warmed.alike
  obtain ⟨c1, kZ, c2, c3, comp, c4⟩ := o_arrBack halU b1.2.1 b3
  have hsz' : (T.setVm vm₁).heap.size = h.size := by rw [← eT]; rfl
  rw [hsz'] at b1 stp
  refine o_go stp (K T' _ _ rfl ⟨hx, hZ, hown, hby, hml, hret, hlk, hnm, rfl, _, X', by rw [List.append_nil]; exact N⟩ ?_ ⟨by omega, B, ⟨b1.1, c1, b1.2.2.1⟩, b4, fun i hi => ?_⟩ ⟨B, kZ, b1.1, c2, c3, by rw [b2]; rfl, fun q => by rw [c4] at q; cases q⟩)
  · exact o_kept b6 (by show T.heap = h; exact eT)
  · rw [b5 i hi]
    show some (cl.slots.getD i (defaultValue .int)) = some (if i < m then .int (f i) else .int 0)
    by_cases e : i < m
    · rw [if_pos e]
      have := H i e
      simp [Array.getD_eq_getD_getElem?, this]
    · rw [if_neg e]
      simp [Array.getD_eq_getD_getElem?, Array.getElem?_eq_none (show cl.slots.size ≤ i by omega)]; rfl
theorem o_copyOfJ (A : oPos l Z n0 w b T h k n) {a : Addr} {m j : Nat} {f : Nat → Int64} {z : Int32} {index W k' n' : Nat} (hd : decode b.bytes pc = .ok (.invokestatic index, 3)) (V : oArr Z h a .long m (fun i => .long (f i))) (E : Exa Z h a "[J") (hz : Int32.ofNat j = z) (hj : j ≤ 67108864) (w1 : (Jvm.Cond.methodLink b.y.cls index Jvm.Free.JA.CopyOfJ.yN).before a0 Z = true) (w2 : (Jvm.Cond.static Jvm.Free.JA.CopyOfJ.yN).before a0 Z = true) (w3 : (Jvm.Cond.initialized "java/util/Arrays").before a0 Z = true) (w4 : (Jvm.Cond.code Jvm.Free.JA.CopyOfJ.yN Jvm.Free.JA.CopyOfJ.yB 3 (some (.array .long))).before a0 Z = true)
    (ws : ∀ d ∈ Jvm.Free.JA.CopyOfJ.site, d.before w.2.2.2.2.1 w.2.2.1 = true) (hsz : Ls.size = b.maxL) (hW : (st.map fun v => v.category).sum = W) (hf : 2 ≤ b.R.frames) (hl : W + 54 ≤ b.R.locals) (hk : k + 1 = k') (hn : n + j = n') (hk2 : k' ≤ b.R.cells) (hn2 : n' ≤ b.R.slots) (hq : pc + 3 = q)
    (K : ∀ T' h' r, r = h.size → oPos l Z n0 w b T' h' k' n' → Ext h h' → oArr Z h' r .long j (fun i => if i < m then .long (f i) else .long 0) → Exa Z h' r "[J" → oFin w b n0 Q T' q Ls (.ref r :: st)) : oFin w b n0 Q T pc Ls (.int z :: .ref a :: st) := by
  subst hq hk hn hz
  obtain ⟨hx, hZ, hown, hby, hml, hret, hlk, hnm, eT, locs, X, N⟩ := A
  obtain ⟨hm, cl, Ar, S, H⟩ := V
  obtain ⟨cl', kc, e1, e2, e3, e4, -⟩ := E
  cases e1.symm.trans Ar.1
  have hal : Z.vm.Alike w.2.2.1.vm := hZ.alike
  have hty : Jvm.Free.XT.Typed .long cl := fun i v hv => by
    have hi : i < cl.slots.size := (Array.getElem?_eq_some_iff.mp hv).1
    rw [H i (by omega)] at hv
    cases hv; rfl
  have htab : Jvm.Free.JA.CopyOfJ.tab.before w.2.2.2.2.1 w.2.2.1 = true := Jvm.Free.XT.unparts (mvT hZ w4) (fun d hd' => (List.mem_cons.mp hd').elim (fun e => e ▸ mvT hZ w3) (ws d))
  obtain ⟨v, vm₁, ⟨T', L', k', n'⟩, hW₁, X', ⟨hE, l', y', z'⟩, stp⟩ := Jvm.LawKit.callS X hx (y := Jvm.Free.JA.CopyOfJ.yN) hown (mvT hZ w1) (mvT hZ w2) (mvT hZ w3) (mvT hZ w4) (by decide) (Jvm.Free.JA.CopyOfJ.pays (W := W) a cl j htab hf hl) (g := mkF w.2.2.2.1 pc Ls (.int (Int32.ofNat j) :: .ref a :: st)) rfl (hsz.trans hml.symm) (argsL := [.ref a, .int (Int32.ofNat j)]) (rest := st) (lenOf (show parseMethodDescriptor "([JI)[J" = some ⟨[.array .long, .int], some (.array .long)⟩ by decide +kernel) rfl) rfl (by show 2 * 0 + _ ≤ _; omega) (hb hby hd)
    (fun vm₁ hv₁ => ⟨hk2, hn2, rfl, ⟨by show T.heap[a]? = _; rw [eT]; exact Ar.1, State.isArrayOf_alike (hal.trans hv₁.alike) Ar.2.1, Ar.2.2, by omega⟩, by show vm₁.findClass _ = _; rw [(hal.trans hv₁.alike).findClass]; exact e2, hty, hj⟩)
  dsimp only [Pt.U, Pt.locs, Pt.cells, Pt.slots] at X' l' y' z' stp hE
  subst l' y' z'
  obtain ⟨rfl, B, b1, b2, b3, b4, b5, b6⟩ := hE
  have halU : Z.vm.Alike T'.vm := hal.trans X'.warmed.alike
  obtain ⟨c1, kZ, c2, c3, comp, c4⟩ := o_arrBack halU b1.2.1 b3
  have hsz' : (T.setVm vm₁).heap.size = h.size := by rw [← eT]; rfl
  rw [hsz'] at b1 stp
  refine o_go stp (K T' _ _ rfl ⟨hx, hZ, hown, hby, hml, hret, hlk, hnm, rfl, _, X', by rw [List.append_nil]; exact N⟩ ?_ ⟨by omega, B, ⟨b1.1, c1, b1.2.2.1⟩, b4, fun i hi => ?_⟩ ⟨B, kZ, b1.1, c2, c3, by rw [b2]; rfl, fun q => by rw [c4] at q; cases q⟩)
  · exact o_kept b6 (by show T.heap = h; exact eT)
  · rw [b5 i hi]
    show some (cl.slots.getD i (defaultValue .long)) = some (if i < m then .long (f i) else .long 0)
    by_cases e : i < m
    · rw [if_pos e]
      have := H i e
      simp [Array.getD_eq_getD_getElem?, this]
    · rw [if_neg e]
      simp [Array.getD_eq_getD_getElem?, Array.getElem?_eq_none (show cl.slots.size ≤ i by omega)]; rfl
theorem o_newarr (A : oPos l Z n0 w b T h k n) {aty : ArrayType} {ty : FieldType} {z : Int32} {m cap k' n' : Nat} (hd : decode b.bytes pc = .ok (.newarray aty, 2)) (hty : newarray.typeOf aty = ty) (wd : (Jvm.Cond.arrayClass ty).before a0 Z = true) (hz : z.toInt = (m : Int)) (hcap : m ≤ cap) (hbig : cap * 8 ≤ 536870912) (hk : k + 1 = k') (hn : n + cap = n') (hk2 : k' ≤ b.R.cells) (hn2 : n' ≤ b.R.slots) (hq : pc + 2 = q) {ad : String} (had : "[" ++ ty.toString = ad)
    (K : ∀ T' h' a, a = h.size → oPos l Z n0 w b T' h' k' n' → Ext h h' → oArr Z h' a ty m (fun _ => defaultValue ty) → Exa Z h' a ad → oFin w b n0 Q T' q Ls (.ref a :: st)) : oFin w b n0 Q T pc Ls (.int z :: st) := by
  subst hq hk hn hty
  obtain ⟨hx, hZ, hown, hby, hml, hret, hlk, hnm, eT, locs, X, N⟩ := A
  have e1 : z.toNatClampNeg = m := by show z.toInt.toNat = m; rw [hz]; rfl
  have e2 : ¬ z < 0 := by rw [Int32.lt_iff_toInt_lt, hz, Int32.toInt_zero]; omega
  obtain ⟨T', h', cA, X', e', E, Ar, Ea, st'⟩ := newPE X hx hZ wd eT (g := mkF w.2.2.2.1 pc Ls (.int z :: st)) rfl (hb hby hd) rfl e2 (cap := cap) (by rw [e1]; exact hcap) hbig hk2 hn2 had
  refine o_go st' (K T' h' _ rfl ⟨hx, hZ, hown, hby, hml, hret, hlk, hnm, e', _, X', N⟩ E ⟨?_, _, Ar, (sz_new _ _ _).trans e1, fun i hi => ?_⟩ Ea)
  · have := z.toInt_lt; omega
  · show (Array.replicate z.toNatClampNeg _)[i]? = _
    rw [e1]; simp [hi]
end Steps
end Jvm.OwnKit
namespace Jvm.OwnKit
open Jvm Sem ClassFile Op Lib Jvm.Free Jvm.Stand Jvm.LawKit Jvm.RoadKit Bundle
section More
variable {l : Launch} {Z : State} {n0 : Nat} {w : oWd} {b : oBd} {T T' : State} {h : Heap} {k n pc q : Nat} {Ls Ls' : Array Slot} {st st' : List Value} {Q : Option Value → Heap → Prop} {a0 : Array Value}
/-- the array at a is one over the class C -/
def oOvr (Z : State) (h : Heap) (a : Addr) (C : String) : Prop := ∃ c : Cell, h[a]? = some c ∧ Ovr Z c.cls C
theorem oOvr.ext {h1 h2 : Heap} {a : Addr} {C : String} (F : oOvr Z h1 a C) (E : Ext h1 h2) : oOvr Z h2 a C := by obtain ⟨c, q, O⟩ := F; exact ⟨c, E.2 _ _ q, O⟩
theorem oOvr.wr {h1 h2 : Heap} {a y : Addr} {C : String} {sl : Nat} {v : Value} (F : oOvr Z h1 a C) (W : Wr h1 h2 y sl v) : oOvr Z h2 a C := by
  obtain ⟨c, q, O⟩ := F
  obtain ⟨c', e1, e2, -⟩ := wr_at W q
  exact ⟨c', e1, by rw [e2]; exact O⟩
theorem oOvr.keep {h1 h2 : Heap} {a : Addr} {C : String} {ws : List Addr} (F : oOvr Z h1 a C) (K : Keep h1 h2 ws) : oOvr Z h2 a C := by
  obtain ⟨c, q, O⟩ := F
  obtain ⟨c', e1, e2, -⟩ := K.2.2 _ _ q
  exact ⟨c', e1, by rw [e2]; exact O⟩
theorem o_newR (A : oPos l Z n0 w b T h k n) {C : String} {index m cap k' n' : Nat} {z : Int32} (hd : decode b.bytes pc = .ok (.anewarray index, 3)) (w1 : (Jvm.Cond.classLink b.y.cls index C).before a0 Z = true) (w2 : (Jvm.Cond.arrayOver (.object C)).before a0 Z = true) (hz : z.toInt = (m : Int)) (hcap : m ≤ cap) (hbig : cap * 8 ≤ 536870912) (hk : k + 1 = k') (hn : n + cap = n') (hk2 : k' ≤ b.R.cells) (hn2 : n' ≤ b.R.slots) (hq : pc + 3 = q)
    (K : ∀ T' h' a, a = h.size → oPos l Z n0 w b T' h' k' n' → Ext h h' → oArr Z h' a (.object C) m (fun _ => .null) → oOvr Z h' a C → oFin w b n0 Q T' q Ls (.ref a :: st)) : oFin w b n0 Q T pc Ls (.int z :: st) := by
  subst hq hk hn
  obtain ⟨hx, hZ, hown, hby, hml, hret, hlk, hnm, eT, locs, X, N⟩ := A
  have e1 : z.toNatClampNeg = m := by show z.toInt.toNat = m; rw [hz]; rfl
  have e2 : ¬ z < 0 := by rw [Int32.lt_iff_toInt_lt, hz, Int32.toInt_zero]; omega
  obtain ⟨T', h', cA, X', e', E, Ar, O, st'⟩ := newR X hx hZ hown w1 w2 eT (g := mkF w.2.2.2.1 pc Ls (.int z :: st)) rfl (hb hby hd) rfl e2 (cap := cap) (by rw [e1]; exact hcap) hbig hk2 hn2
  refine o_go st' (K T' h' _ rfl ⟨hx, hZ, hown, hby, hml, hret, hlk, hnm, e', _, X', N⟩ E ⟨?_, _, Ar, (sz_new _ _ _).trans e1, fun i hi => ?_⟩ ⟨_, Ar.1, O⟩)
  · have := z.toInt_lt; omega
  · show (Array.replicate z.toNatClampNeg _)[i]? = _
    rw [e1]; simp [hi, defaultValue]
theorem o_aastore (A : oPos l Z n0 w b T h k n) {a : Addr} {m i : Nat} {f : Nat → Value} {j : Int32} {x : Value} {C : String} (hd : decode b.bytes pc = .ok (.aastore, 1)) (F : oArr Z h a (.object C) m f) (O : oOvr Z h a C) (hx' : x = .null ∨ ∃ y, x = .ref y ∧ Ins Z h y C true) (hj : j.toInt = (i : Int)) (hi : i < m) (ha : n0 ≤ a) (hq : pc + 1 = q) (K : ∀ T' h', oPos l Z n0 w b T' h' k n → Wr h h' a i x → oFin w b n0 Q T' q Ls st) : oFin w b n0 Q T pc Ls (x :: .int j :: .ref a :: st) := by
  subst hq
  obtain ⟨hx, hZ, hown, hby, hml, hret, hlk, hnm, eT, locs, X, N⟩ := A
  obtain ⟨-, c, Ar, S, H⟩ := F
  subst S
  obtain ⟨e1, e2⟩ := o_ix hj hi
  obtain ⟨c', q1, O'⟩ := O
  cases q1.symm.trans Ar.1
  have Sx : Sto Z h a x := by
    rcases hx' with rfl | ⟨y, rfl, I⟩
    · exact Or.inl rfl
    · exact Sto.of Ar O' I
  obtain ⟨T', h', X', e', W, st'⟩ := stR X hx hZ eT Ar (j := j) e2 rfl Sx (g := mkF w.2.2.2.1 pc Ls (x :: .int j :: .ref a :: st)) rfl rfl (hb hby hd)
  rw [e1] at W
  exact o_go st' (K T' h' ⟨hx, hZ, hown, hby, hml, hret, hlk, hnm, e', _, X', Fr.snoc X' N ha⟩ W)
/-- a constructor of a nest mate -/
theorem o_callCN (A : oPos l Z n0 w b T h k n) {b' : oBd} {as' : Array Value} {Q' : Option Value → Heap → Prop} {host : String} {a : Addr} {index W k' n' : Nat} {argsL : List Value} {sig : MethodDescriptor} (hM : oMet l b' [] Z n0 as' h Q') (hd : decode b.bytes pc = .ok (.invokespecial index, 3)) (hi : b'.y.name = "<init>") (w1 : (Jvm.Cond.methodLinkNest b.y.cls index b'.y host).before a0 Z = true) (wi : (Jvm.Cond.instanceMethod b'.y).before a0 Z = true) (w3 : (Jvm.Cond.initialized b'.y.cls).before a0 Z = true) (w4 : (Jvm.Cond.code b'.y b'.bytes b'.maxL b'.ret).before a0 Z = true) (hrn : b'.ret = none)
    (hy : b'.y.cls ≠ "java/lang/invoke/MethodHandle" ∧ b'.y.cls ≠ "java/lang/invoke/VarHandle") (hsig : parseMethodDescriptor b'.y.desc = some sig) (hlen : argsL.length = sig.parameters.length) (has : (.ref a :: argsL).toArray = as') (hst : st' = argsL.reverse ++ .ref a :: st) (hsz : Ls.size = b.maxL) (hW : (st.map fun v => v.category).sum = W) (hf : b'.R.frames + 1 ≤ b.R.frames) (hl : W + (b'.maxL + 11) + b'.R.locals ≤ b.R.locals)
    (hk : k + b'.R.cells = k') (hn : n + b'.R.slots = n') (hk2 : k' ≤ b.R.cells) (hn2 : n' ≤ b.R.slots) (hq : pc + 3 = q) (K : ∀ v T' h', oPos l Z n0 w b T' h' k' n' → Q' v h' → oFin w b n0 Q T' q Ls (v.toList ++ st)) : oFin w b n0 Q T pc Ls st' := by
  subst hq hk hn has hst
  obtain ⟨hx, hZ, hown, hby, hml, hret, hlk, hnm, eT, locs, X, N⟩ := A
  have w1' : (Jvm.Cond.methodLinkNest b.y.cls index b'.y host).before w.2.2.2.2.1 w.2.2.1 = true := (Cond.methodLinkNest_wide hZ w1 :)
  obtain ⟨v, _, ⟨T', L', k', n'⟩, -, X', ⟨Lc, hQ', l', y', z'⟩, stp⟩ := X.specialBackNest hx (y := b'.y) hi hown w1' (mvT hZ wi) (bytes := b'.bytes) (maxL := b'.maxL) (mvT hZ (by rw [← hrn]; exact w4)) hy (backOf (W := W) (Q := fun v h' L => Q' v h' ∧ Fr n0 L) hM hZ w4 w3 hf hl) (g := mkF w.2.2.2.1 pc Ls (argsL.reverse ++ .ref a :: st)) rfl (hsz.trans hml.symm) (Steps.refl _) (a := a) (argsL := argsL) (rest := st) (lenOf hsig hlen) rfl (by show 2 * 0 + _ ≤ _; omega) (hb hby hd) (fun _ _ => ⟨rfl, eT, hk2, hn2⟩)
  dsimp only [Pt.U, Pt.locs, Pt.cells, Pt.slots] at X' l' y' z' stp hQ'
  subst l' y' z'
  exact o_go (fun t kk => stp.trans kk) (K v T' _ ⟨hx, hZ, hown, hby, hml, hret, hlk, hnm, rfl, _, X', Fr.app N hQ'.2⟩ hQ'.1)
/-- a constructor by an entry that is resolved already -/
theorem o_callCR (A : oPos l Z n0 w b T h k n) {b' : oBd} {as' : Array Value} {Q' : Option Value → Heap → Prop} {a : Addr} {index W k' n' : Nat} {argsL : List Value} {sig : MethodDescriptor} (hM : oMet l b' [] Z n0 as' h Q') (hd : decode b.bytes pc = .ok (.invokespecial index, 3)) (hi : b'.y.name = "<init>") (w1 : (Jvm.Cond.methodRef b.y.cls index b'.y).before a0 Z = true) (wi : (Jvm.Cond.instanceMethod b'.y).before a0 Z = true) (w3 : (Jvm.Cond.initialized b'.y.cls).before a0 Z = true) (w4 : (Jvm.Cond.code b'.y b'.bytes b'.maxL b'.ret).before a0 Z = true)
    (hy : b'.y.cls ≠ "java/lang/invoke/MethodHandle" ∧ b'.y.cls ≠ "java/lang/invoke/VarHandle") (hsig : parseMethodDescriptor b'.y.desc = some sig) (hlen : argsL.length = sig.parameters.length) (has : (.ref a :: argsL).toArray = as') (hst : st' = argsL.reverse ++ .ref a :: st) (hsz : Ls.size = b.maxL) (hW : (st.map fun v => v.category).sum = W) (hf : b'.R.frames + 1 ≤ b.R.frames) (hl : W + (b'.maxL + 11) + b'.R.locals ≤ b.R.locals)
    (hk : k + b'.R.cells = k') (hn : n + b'.R.slots = n') (hk2 : k' ≤ b.R.cells) (hn2 : n' ≤ b.R.slots) (hq : pc + 3 = q) (K : ∀ v T' h', oPos l Z n0 w b T' h' k' n' → Q' v h' → oFin w b n0 Q T' q Ls (v.toList ++ st)) : oFin w b n0 Q T pc Ls st' := by
  subst hq hk hn has hst
  obtain ⟨hx, hZ, hown, hby, hml, hret, hlk, hnm, eT, locs, X, N⟩ := A
  obtain ⟨objZ, methZ, hnZ, hmZ, -, -⟩ := Cond.instanceMethod_spec wi
  have wiS : (Jvm.Cond.instanceMethod b'.y).before w.2.2.2.2.1 w.2.2.1 = true := mvT hZ wi
  have w4S : (Jvm.Cond.code b'.y b'.bytes b'.maxL b'.ret).before w.2.2.2.2.1 w.2.2.1 = true := mvT hZ w4
  obtain ⟨obj, methO, hnO, hmO, hstO, habO⟩ := Cond.instanceMethod_spec wiS
  obtain ⟨methO', cO, hmO', -, -, -, -, -, -, hsigO⟩ := Cond.code_spec hnO w4S
  cases hmO.symm.trans hmO'
  obtain ⟨kO, hkO, hnameO⟩ := className_of_methodNamed hnO
  obtain ⟨hnameMO, hdescO⟩ := name_of_methodNamed hnO hmO
  have halT := X.warmed.alike
  have hnT : T.methodNamed? b'.y = some obj := X.named hnO
  have wr := Cond.methodRef_warmed39 (wtrans hZ X.warmed) hnZ hy w1
  obtain ⟨m', c', hmf, hready, hfind, hnames⟩ := Cond.methodRef_named (s := Z.setVm T.vm) (args := a0) (first := Z.setVm T.vm) (o := none) (idx := []) w.2.1 (cls := b.y.cls) (index := index) (cur := w.2.2.2.1.cls) (x := b'.y) (by show T.vm.findClass _ = _; rw [halT.findClass]; exact hown) (by simpa [Cond.before] using wr)
  have em : m' = obj := by
    have q1 : T.methodFound? b'.y.cls b'.y.name b'.y.desc = some m' := hmf
    exact Option.some.inj (q1.symm.trans (State.methodFound?_of_named hnT hy))
  subst em
  have ec : c' = m'.cls := by
    have q1 : T.vm.findClass b'.y.cls = some c' := hfind
    exact Option.some.inj (q1.symm.trans (findClass_of_methodNamed hnT))
  subst ec
  obtain ⟨kO₂, hkO₂, heO₂⟩ := halT.2.2 _ _ hkO
  have hmO₂ : T.vm.method? m' = some methO := by rw [halT.method?]; exact hmO
  have hfound : lookupSpecial T.vm m'.cls "<init>" methO.desc = .method m' := by
    rw [halT.lookupSpecial, hdescO, ← hi]; exact lookupSpecial_of_named hnO hmO hstO
  have hlen' : argsL.length = methO.sig.parameters.length := lenOf hsig hlen _ hsigO
  have hstep : ∀ target, Steps w.1.tables w.2.1 w.2.2.2.2.2.1 (doInvoke w.2.1 (T.setTop (mkF w.2.2.2.1 pc Ls st)) [] m' (.ref a :: argsL).toArray).1 target → Steps w.1.tables w.2.1 w.2.2.2.2.2.1 (T.setTop (mkF w.2.2.2.1 pc Ls (argsL.reverse ++ .ref a :: st))) target := by
    intro target hrest
    jvm_step X.here [hx, (hb hby hd), invokespecial.wp_init (e := w.2.1) (s := T) (k := kO₂) (meth := methO) (m := m') (a := a) (args := argsL) (rest := st) (f := mkF w.2.2.2.1 pc Ls (argsL.reverse ++ .ref a :: st)) X.here.top hnames hready hkO₂ hmO₂ (by rw [hnameMO]; exact hi) hstO habO hfound hlen' rfl]
    first | (intro acts; rw [doInvoke_state]; exact hrest) | (rw [doInvoke_state]; exact hrest) | exact hrest
  obtain ⟨v, ⟨T', L', k', n'⟩, X', ⟨Lc, hQ', l', y', z'⟩, stp⟩ := (backOf (W := W) (Q := fun v h' L => Q' v h' ∧ Fr n0 L) hM hZ w4 w3 hf hl : Back l b.R w.1 w.2.1 w.2.2.2.2.2.1 w.2.2.1 w.2.2.2.2.1 b'.y 3 W _ _) w.2.2.2.1 w.2.2.2.2.2.2.1 w.2.2.2.2.2.2.2 ⟨T, locs, k, n⟩ (mkF w.2.2.2.1 pc Ls st) (.invokespecial index) m' (.ref a :: argsL).toArray X rfl (hsz.trans hml.symm) (hb hby hd) (by show 2 * 0 + (st.map fun v => v.category).sum ≤ W; omega) hnT ⟨rfl, eT, hk2, hn2⟩
  dsimp only [Pt.U, Pt.locs, Pt.cells, Pt.slots] at X' l' y' z' stp hQ'
  subst l' y' z'
  exact o_go (fun t kk => hstep t (stp.trans kk)) (K v T' _ ⟨hx, hZ, hown, hby, hml, hret, hlk, hnm, rfl, _, X', Fr.app N hQ'.2⟩ hQ'.1)
theorem oArr.arv {a : Addr} {ty : FieldType} {m : Nat} {f : Nat → Value} (F : oArr Z h a ty m f) (hf : ∀ i, i < m → fits ty (f i) = true) (dv : Value) : ∃ kk, Arv Z h a kk ty (Int32.ofNat m) ((List.range m).map f) dv := by
  obtain ⟨hm, c, Ar, S, H⟩ := F
  have e0 : (Int32.ofNat m).toInt = (m : Int) := Int32.toInt_ofNat_of_lt (by omega)
  have e1 : (Int32.ofNat m).toNatClampNeg = m := by show (Int32.ofNat m).toInt.toNat = m; rw [e0]; rfl
  have e2 : ∀ i, i < m → ((List.range m).map f).getD i dv = f i := fun i hi => by simp [List.getD_eq_getElem?_getD, hi]
  refine ⟨c.cls, c, Ar, rfl, by rw [S, e1], by rw [Int32.lt_iff_toInt_lt, e0, Int32.toInt_zero]; omega, fun i hi => ?_, fun i hi => ?_⟩
  · rw [e2 i (by omega)]; exact H i (by omega)
  · rw [e2 i (by omega)]; exact hf i (by omega)
/-- System.arraycopy of no element -/
theorem o_acopy0 (A : oPos l Z n0 w b T h k n) {a c : Addr} {ty : FieldType} {m m' : Nat} {f f' : Nat → Value} {index W : Nat} (hd : decode b.bytes pc = .ok (.invokestatic index, 3)) (hty : refKind ty = false) (F : oArr Z h a ty m f) (F' : oArr Z h c ty m' f') (hfi : ∀ i, i < m → fits ty (f i) = true) (hfi' : ∀ i, i < m' → fits ty (f' i) = true) (hc : n0 ≤ c)
    (w1 : (Jvm.Cond.methodLink b.y.cls index Jvm.Stand.acN).before a0 Z = true) (w2 : (Jvm.Cond.native Jvm.Stand.acN).before a0 Z = true) (w3 : (Jvm.Cond.static Jvm.Stand.acN).before a0 Z = true) (w4 : (Jvm.Cond.initialized "java/lang/System").before a0 Z = true) (hsz : Ls.size = b.maxL) (hf : 1 ≤ b.R.frames) (hW : (st.map fun v => v.category).sum = W) (hl : W + (nativeFrameWords "java/lang/System" "arraycopy" 5 + 11) ≤ b.R.locals) (hq : pc + 3 = q)
    (K : ∀ T' h', oPos l Z n0 w b T' h' k n → Keep h h' [c] → oFin w b n0 Q T' q Ls st) : oFin w b n0 Q T pc Ls (.int 0 :: .int 0 :: .ref c :: .int 0 :: .ref a :: st) := by
  subst hq
  obtain ⟨hx, hZ, hown, hby, hml, hret, hlk, hnm, eT, locs, X, N⟩ := A
  obtain ⟨k1, V⟩ := F.arv hfi (defaultValue ty)
  obtain ⟨k2, V'⟩ := F'.arv hfi' (defaultValue ty)
  obtain ⟨T', h', L, X', e', N', K', -, st'⟩ := cpA X hx hZ hown w1 w2 w3 w4 eT V V' (us := []) (Or.inl ⟨rfl, hty⟩) (sp := 0) (dp := 0) (nn := 0) (by decide) (by decide) (by decide) (by show 0 ≤ _; omega) (by show 0 ≤ _; omega) rfl (by show 0 ≤ _; omega) N hc (g := mkF w.2.2.2.1 pc Ls (.int 0 :: .int 0 :: .ref c :: .int 0 :: .ref a :: st)) rfl (hsz.trans hml.symm) rfl (hb hby hd) hf (W := W) (by show 2 * 0 + _ ≤ _; omega) hl
  exact o_go st' (K T' h' ⟨hx, hZ, hown, hby, hml, hret, hlk, hnm, e', L, X', N'⟩ K')
end More
end Jvm.OwnKit
namespace Jvm.Pilot.@@N@@
open Jvm Jvm.ClassFile Sem Op Lib Jvm.Free Jvm.Stand Jvm.LawKit Jvm.RoadKit Bundle Jvm.OwnKit Jvm.Pilot.@@N@@.Jvm.D
/-- the PortMessages at pm: its two arrays of d places, its count -/
def own_S (Z : State) (n0 : Nat) (h : Heap) (pm ma pa : Addr) (d : Nat) (ms : Nat → Value) (ps : Nat → Int32) (cnt : Int32) : Prop :=
  Exa Z h pm "com/example/waypost/waypost/network/PortMessages" ∧ Fld Z h pm "com/example/waypost/waypost/network/PortMessages" "messages" "[Lcom/example/waypost/waypost/network/Message;" (.ref ma) ∧ Fld Z h pm "com/example/waypost/waypost/network/PortMessages" "ports" "[I" (.ref pa) ∧ Fld Z h pm "com/example/waypost/waypost/network/PortMessages" "count" "I" (.int cnt) ∧ oArr Z h ma (.object "com/example/waypost/waypost/network/Message") d ms ∧ oOvr Z h ma "com/example/waypost/waypost/network/Message" ∧ oArr Z h pa .int d (fun i => .int (ps i)) ∧ (pm ≠ ma ∧ pm ≠ pa ∧ ma ≠ pa) ∧ n0 ≤ pm ∧ n0 ≤ ma ∧ n0 ≤ pa
theorem own_S.ext {Z : State} {n0 : Nat} {h h' : Heap} {pm ma pa : Addr} {d : Nat} {ms : Nat → Value} {ps : Nat → Int32} {cnt : Int32} (S : own_S Z n0 h pm ma pa d ms ps cnt) (E : Ext h h') : own_S Z n0 h' pm ma pa d ms ps cnt := by
  obtain ⟨s1, s2, s3, s4, s5, s6, s7, s8⟩ := S
  exact ⟨s1.ext E, s2.ext E, s3.ext E, s4.ext E, s5.ext E, s6.ext E, s7.ext E, s8⟩
theorem own_S.wm {Z : State} {n0 : Nat} {h h' : Heap} {pm ma pa : Addr} {d i : Nat} {ms : Nat → Value} {ps : Nat → Int32} {cnt : Int32} {v : Value} (S : own_S Z n0 h pm ma pa d ms ps cnt) (W : Wr h h' ma i v) : own_S Z n0 h' pm ma pa d (fun j => if j = i then v else ms j) ps cnt := by
  obtain ⟨s1, s2, s3, s4, s5, s6, s7, ⟨e1, e2, e3⟩, s9⟩ := S
  exact ⟨s1.wr W, s2.other W (Or.inl e1), s3.other W (Or.inl e1), s4.other W (Or.inl e1), s5.same W, s6.wr W, s7.other W (Ne.symm e3), ⟨e1, e2, e3⟩, s9⟩
theorem own_S.wp {Z : State} {n0 : Nat} {h h' : Heap} {pm ma pa : Addr} {d i : Nat} {ms : Nat → Value} {ps : Nat → Int32} {cnt x : Int32} (S : own_S Z n0 h pm ma pa d ms ps cnt) (W : Wr h h' pa i (.int x)) : own_S Z n0 h' pm ma pa d ms (fun j => if j = i then x else ps j) cnt := by
  obtain ⟨s1, s2, s3, s4, s5, s6, s7, ⟨e1, e2, e3⟩, s9⟩ := S
  refine ⟨s1.wr W, s2.other W (Or.inl e2), s3.other W (Or.inl e2), s4.other W (Or.inl e2), s5.other W e3, s6.wr W, (s7.same W).congr fun j hj => ?_, ⟨e1, e2, e3⟩, s9⟩
  show (if j = i then Value.int x else Value.int (ps j)) = Value.int (if j = i then x else ps j)
  split <;> rfl
theorem own_S.wc {Z : State} {n0 : Nat} {h h' : Heap} {pm ma pa : Addr} {d : Nat} {ms : Nat → Value} {ps : Nat → Int32} {cnt x : Int32} {a0 : Array Value} (hw : ∀ d ∈ tables_1, d.before a0 Z = true) (S : own_S Z n0 h pm ma pa d ms ps cnt) (W : Wr h h' pm (RoadKit.slotOf Z "com/example/waypost/waypost/network/PortMessages" "count" "I") (.int x)) : own_S Z n0 h' pm ma pa d ms ps x := by
  obtain ⟨s1, s2, s3, s4, s5, s6, s7, ⟨e1, e2, e3⟩, s9⟩ := S
  exact ⟨s1.wr W, s2.other W (Or.inr (slot_ne (Or.inr (hw _ (List.mem_of_getElem? (i := 13) rfl))) (Or.inl (hw _ (List.mem_of_getElem? (i := 71) rfl))) (by decide) (t := .array (.object "com/example/waypost/waypost/network/Message")) (t' := .int) (by decide) (by decide))), s3.other W (Or.inr (slot_ne (Or.inr (hw _ (List.mem_of_getElem? (i := 16) rfl))) (Or.inl (hw _ (List.mem_of_getElem? (i := 71) rfl))) (by decide) (t := .array .int) (t' := .int) (by decide) (by decide))), s4.same W, s5.other W (Ne.symm e1), s6.wr W, s7.other W (Ne.symm e2), ⟨e1, e2, e3⟩, s9⟩
/-- K ports are noted; each place from the i-th note on that isn't noted is null -/
def own_I (d K i : Nat) (ms : Nat → Value) (ps : Nat → Int32) : Prop := K ≤ d ∧ (∀ j, j < K → ∃ p : Nat, p < d ∧ (ps j).toInt = (p : Int)) ∧ ∀ p : Nat, p < d → ms p = .null ∨ ∃ j, i ≤ j ∧ j < K ∧ (ps j).toInt = (p : Int)
theorem own_put {d K : Nat} {ms : Nat → Value} {ps : Nat → Int32} {x : Int32} {p : Nat} {v : Value} (I : own_I d K 0 ms ps) (hK : K < d) (hp : p < d) (hx : x.toInt = (p : Int)) : own_I d (K + 1) 0 (fun i => if i = p then v else ms i) (fun j => if j = K then x else ps j) := by
  obtain ⟨i1, i2, i3⟩ := I
  refine ⟨hK, fun j hj => ?_, fun r hr => ?_⟩
  · show ∃ p : Nat, p < d ∧ (if j = K then x else ps j).toInt = (p : Int)
    by_cases e : j = K
    · rw [if_pos e]; exact ⟨p, hp, hx⟩
    · rw [if_neg e]; exact i2 j (by omega)
  · show (if r = p then v else ms r) = .null ∨ ∃ j, 0 ≤ j ∧ j < K + 1 ∧ (if j = K then x else ps j).toInt = (r : Int)
    by_cases e : r = p
    · exact Or.inr ⟨K, Nat.zero_le _, Nat.lt_succ_self _, by rw [if_pos rfl, e]; exact hx⟩
    · rw [if_neg e]
      rcases i3 r hr with q | ⟨j, j1, j2, j3⟩
      · exact Or.inl q
      · exact Or.inr ⟨j, j1, by omega, by rw [if_neg (by omega)]; exact j3⟩
theorem own_clr {d K i : Nat} {ms : Nat → Value} {ps : Nat → Int32} {p : Nat} (I : own_I d K i ms ps) (hp : (ps i).toInt = (p : Int)) : own_I d K (i + 1) (fun j => if j = p then .null else ms j) ps := by
  obtain ⟨i1, i2, i3⟩ := I
  refine ⟨i1, i2, fun r hr => ?_⟩
  show (if r = p then Value.null else ms r) = .null ∨ _
  by_cases e : r = p
  · exact Or.inl (if_pos e)
  · rw [if_neg e]
    rcases i3 r hr with q | ⟨j, j1, j2, j3⟩
    · exact Or.inl q
    · refine Or.inr ⟨j, ?_, j2, j3⟩
      have : j ≠ i := fun q => by rw [q, hp] at j3; omega
      omega
def own_F (Z : State) (n0 : Nat) (h : Heap) (pm ma pa mm : Addr) (d i : Nat) : Prop := ∃ (ms : Nat → Value) (ps : Nat → Int32) (cnt : Int32) (K : Nat), own_S Z n0 h pm ma pa d ms ps cnt ∧ cnt.toInt = (K : Int) ∧ K ≤ i ∧ own_I d K 0 ms ps ∧ Exa Z h mm "com/example/waypost/waypost/network/Message"
theorem own_d (x : Int32) : ∃ d : Nat, 1 ≤ d ∧ d ≤ 4 ∧ ((x &&& 3) + 1).toInt = (d : Int) := by
  have e1 : (x &&& 3).toInt = x.toInt % 2 ^ 2 := Jvm.Kit.i32_mask x 3 (k := 2) (by decide) (by decide)
  have k1 : (1 : Int32).toInt = 1 := by decide
  have e2 : ((x &&& 3) + 1).toInt = (x &&& 3).toInt + 1 := by rw [Jvm.Kit.i32_add (by omega) (by omega), k1]
  exact ⟨((x &&& 3) + 1).toInt.toNat, by omega, by omega, by omega⟩
theorem own_rem {x y : Int32} {n : Nat} (hx : 0 ≤ x.toInt) (hy : y.toInt = (n : Int)) (hn : 1 ≤ n) : ∃ i : Nat, i < n ∧ (x % y).toInt = (i : Int) := by
  have e := Jvm.Kit.i32_rem_nonneg (x := x) (y := y) hx
  have h1 := Int.emod_nonneg x.toInt (b := y.toInt) (by omega)
  have h2 := Int.emod_lt_of_pos x.toInt (b := y.toInt) (by omega)
  exact ⟨(x % y).toInt.toNat, by omega, by omega⟩
theorem own_nz {y : Int32} {n : Nat} (hy : y.toInt = (n : Int)) (hn : 1 ≤ n) : y ≠ 0 := fun e => by
  rw [e, Int32.toInt_zero] at hy; omega
theorem own_m31 (x : Int32) : 0 ≤ (x &&& 2147483647).toInt := by
  have e1 : (x &&& 2147483647).toInt = x.toInt % 2 ^ 31 := Jvm.Kit.i32_mask x 2147483647 (k := 31) (by decide) (by decide)
  omega
theorem own_inc {z : Int32} {i : Nat} (h : z.toInt = (i : Int)) (hi : i < 100) : (z + 1).toInt = ((i + 1 : Nat) : Int) := by
  have k1 : (1 : Int32).toInt = 1 := by decide
  rw [Jvm.Kit.i32_add (by omega) (by omega), h, k1]; rfl
theorem d1_0 : decode prog_34_method_1_code 0 = .ok (.aload_n 0, 1) := by decide +kernel
theorem d1_1 : decode prog_34_method_1_code 1 = .ok (.invokespecial 1, 3) := by decide +kernel
theorem d1_4 : decode prog_34_method_1_code 4 = .ok (.aload_n 0, 1) := by decide +kernel
theorem d1_5 : decode prog_34_method_1_code 5 = .ok (.iload_n 1, 1) := by decide +kernel
theorem d1_6 : decode prog_34_method_1_code 6 = .ok (.anewarray 7, 3) := by decide +kernel
theorem d1_9 : decode prog_34_method_1_code 9 = .ok (.putfield 9, 3) := by decide +kernel
theorem d1_12 : decode prog_34_method_1_code 12 = .ok (.aload_n 0, 1) := by decide +kernel
theorem d1_13 : decode prog_34_method_1_code 13 = .ok (.iload_n 1, 1) := by decide +kernel
theorem d1_14 : decode prog_34_method_1_code 14 = .ok (.newarray .int, 2) := by decide +kernel
theorem d1_16 : decode prog_34_method_1_code 16 = .ok (.putfield 15, 3) := by decide +kernel
theorem d1_19 : decode prog_34_method_1_code 19 = .ok (.return_, 1) := by decide +kernel
abbrev b1 : oBd := (⟨"com/example/waypost/waypost/network/PortMessages", "<init>", "(I)V"⟩, prog_34_method_1_code, 2, none, { frames := 1, cells := 2, slots := 8, locals := 12 })
theorem pd1 : parseMethodDescriptor "(I)V" = some ⟨[.int], none⟩ := by decide +kernel
theorem pn1 : plainFor b1.y = true := plainFor_of_name (by first | (simp [plainName, overriddenIn]; done) | decide +kernel)
theorem d2_0 : decode prog_28_method_2_code 0 = .ok (.new 17, 3) := by decide +kernel
theorem d2_3 : decode prog_28_method_2_code 3 = .ok (.dup, 1) := by decide +kernel
theorem d2_4 : decode prog_28_method_2_code 4 = .ok (.invokespecial 19, 3) := by decide +kernel
theorem d2_7 : decode prog_28_method_2_code 7 = .ok (.areturn, 1) := by decide +kernel
abbrev b2 : oBd := (⟨"com/example/waypost/waypost/network/Message", "builder", "()Lcom/example/waypost/waypost/network/Message$Builder;"⟩, prog_28_method_2_code, 0, (some (.object "com/example/waypost/waypost/network/Message$Builder")), { frames := 2, cells := 2, slots := 3, locals := 25 })
theorem pd2 : parseMethodDescriptor "()Lcom/example/waypost/waypost/network/Message$Builder;" = some ⟨[], some (.object "com/example/waypost/waypost/network/Message$Builder")⟩ := by decide +kernel
theorem pn2 : plainFor b2.y = true := plainFor_of_name (by first | (simp [plainName, overriddenIn]; done) | decide +kernel)
theorem d3_0 : decode prog_29_method_1_code 0 = .ok (.aload_n 0, 1) := by decide +kernel
theorem d3_1 : decode prog_29_method_1_code 1 = .ok (.invokespecial 1, 3) := by decide +kernel
theorem d3_4 : decode prog_29_method_1_code 4 = .ok (.aload_n 0, 1) := by decide +kernel
theorem d3_5 : decode prog_29_method_1_code 5 = .ok (.iconst 1, 1) := by decide +kernel
theorem d3_6 : decode prog_29_method_1_code 6 = .ok (.newarray .long, 2) := by decide +kernel
theorem d3_8 : decode prog_29_method_1_code 8 = .ok (.putfield 7, 3) := by decide +kernel
theorem d3_11 : decode prog_29_method_1_code 11 = .ok (.return_, 1) := by decide +kernel
abbrev b3 : oBd := (⟨"com/example/waypost/waypost/network/Message$Builder", "<init>", "()V"⟩, prog_29_method_1_code, 1, none, { frames := 1, cells := 1, slots := 1, locals := 12 })
theorem pd3 : parseMethodDescriptor "()V" = some ⟨[], none⟩ := by decide +kernel
theorem pn3 : plainFor b3.y = true := plainFor_of_name (by first | (simp [plainName, overriddenIn]; done) | decide +kernel)
theorem d4_0 : decode prog_29_method_4_code 0 = .ok (.new 14, 3) := by decide +kernel
theorem d4_3 : decode prog_29_method_4_code 3 = .ok (.dup, 1) := by decide +kernel
theorem d4_4 : decode prog_29_method_4_code 4 = .ok (.aload_n 0, 1) := by decide +kernel
theorem d4_5 : decode prog_29_method_4_code 5 = .ok (.getfield 7, 3) := by decide +kernel
theorem d4_8 : decode prog_29_method_4_code 8 = .ok (.aload_n 0, 1) := by decide +kernel
theorem d4_9 : decode prog_29_method_4_code 9 = .ok (.getfield 28, 3) := by decide +kernel
theorem d4_12 : decode prog_29_method_4_code 12 = .ok (.bipush 63, 2) := by decide +kernel
theorem d4_14 : decode prog_29_method_4_code 14 = .ok (.iadd, 1) := by decide +kernel
theorem d4_15 : decode prog_29_method_4_code 15 = .ok (.bipush 6, 2) := by decide +kernel
theorem d4_17 : decode prog_29_method_4_code 17 = .ok (.iushr, 1) := by decide +kernel
theorem d4_18 : decode prog_29_method_4_code 18 = .ok (.invokestatic 38, 3) := by decide +kernel
theorem d4_21 : decode prog_29_method_4_code 21 = .ok (.aload_n 0, 1) := by decide +kernel
theorem d4_22 : decode prog_29_method_4_code 22 = .ok (.getfield 28, 3) := by decide +kernel
theorem d4_25 : decode prog_29_method_4_code 25 = .ok (.invokespecial 54, 3) := by decide +kernel
theorem d4_28 : decode prog_29_method_4_code 28 = .ok (.areturn, 1) := by decide +kernel
abbrev b4 : oBd := (⟨"com/example/waypost/waypost/network/Message$Builder", "build", "()Lcom/example/waypost/waypost/network/Message;"⟩, prog_29_method_4_code, 1, (some (.object "com/example/waypost/waypost/network/Message")), { frames := 2, cells := 2, slots := 2, locals := 56 })
theorem pd4 : parseMethodDescriptor "()Lcom/example/waypost/waypost/network/Message;" = some ⟨[], some (.object "com/example/waypost/waypost/network/Message")⟩ := by decide +kernel
theorem pn4 : plainFor b4.y = true := plainFor_of_name (by first | (simp [plainName, overriddenIn]; done) | decide +kernel)
theorem d5_0 : decode jdk_65_method_124_code 0 = .ok (.iload_n 1, 1) := by decide +kernel
theorem d5_1 : decode jdk_65_method_124_code 1 = .ok (.aload_n 0, 1) := by decide +kernel
theorem d5_2 : decode jdk_65_method_124_code 2 = .ok (.arraylength, 1) := by decide +kernel
theorem d5_3 : decode jdk_65_method_124_code 3 = .ok (.if_icmp .ne 11, 3) := by decide +kernel
theorem d5_6 : decode jdk_65_method_124_code 6 = .ok (.aload_n 0, 1) := by decide +kernel
theorem d5_7 : decode jdk_65_method_124_code 7 = .ok (.invokevirtual 319, 3) := by decide +kernel
theorem d5_10 : decode jdk_65_method_124_code 10 = .ok (.checkcast 320, 3) := by decide +kernel
theorem d5_13 : decode jdk_65_method_124_code 13 = .ok (.areturn, 1) := by decide +kernel
theorem d5_14 : decode jdk_65_method_124_code 14 = .ok (.iload_n 1, 1) := by decide +kernel
theorem d5_15 : decode jdk_65_method_124_code 15 = .ok (.newarray .long, 2) := by decide +kernel
theorem d5_17 : decode jdk_65_method_124_code 17 = .ok (.astore_n 2, 1) := by decide +kernel
theorem d5_18 : decode jdk_65_method_124_code 18 = .ok (.aload_n 0, 1) := by decide +kernel
theorem d5_19 : decode jdk_65_method_124_code 19 = .ok (.iconst 0, 1) := by decide +kernel
theorem d5_20 : decode jdk_65_method_124_code 20 = .ok (.aload_n 2, 1) := by decide +kernel
theorem d5_21 : decode jdk_65_method_124_code 21 = .ok (.iconst 0, 1) := by decide +kernel
theorem d5_22 : decode jdk_65_method_124_code 22 = .ok (.aload_n 0, 1) := by decide +kernel
theorem d5_23 : decode jdk_65_method_124_code 23 = .ok (.arraylength, 1) := by decide +kernel
theorem d5_24 : decode jdk_65_method_124_code 24 = .ok (.iload_n 1, 1) := by decide +kernel
theorem d5_25 : decode jdk_65_method_124_code 25 = .ok (.invokestatic 304, 3) := by decide +kernel
theorem d5_28 : decode jdk_65_method_124_code 28 = .ok (.invokestatic 150, 3) := by decide +kernel
theorem d5_31 : decode jdk_65_method_124_code 31 = .ok (.aload_n 2, 1) := by decide +kernel
theorem d5_32 : decode jdk_65_method_124_code 32 = .ok (.areturn, 1) := by decide +kernel
abbrev b5 : oBd := (⟨"java/util/Arrays", "copyOf", "([JI)[J"⟩, jdk_65_method_124_code, 3, (some (.array .long)), { frames := 1, cells := 1, slots := 0, locals := 40 })
theorem pd5 : parseMethodDescriptor "([JI)[J" = some ⟨[(.array .long), .int], some (.array .long)⟩ := by decide +kernel
theorem pn5 : plainFor b5.y = true := plainFor_of_name (by first | (simp [plainName, overriddenIn]; done) | decide +kernel)
theorem d6_0 : decode jdk_29_method_69_code 0 = .ok (.iload_n 0, 1) := by decide +kernel
theorem d6_1 : decode jdk_29_method_69_code 1 = .ok (.iload_n 1, 1) := by decide +kernel
theorem d6_2 : decode jdk_29_method_69_code 2 = .ok (.if_icmp .gt 7, 3) := by decide +kernel
theorem d6_5 : decode jdk_29_method_69_code 5 = .ok (.iload_n 0, 1) := by decide +kernel
theorem d6_6 : decode jdk_29_method_69_code 6 = .ok (.goto 4, 3) := by decide +kernel
theorem d6_9 : decode jdk_29_method_69_code 9 = .ok (.iload_n 1, 1) := by decide +kernel
theorem d6_10 : decode jdk_29_method_69_code 10 = .ok (.ireturn, 1) := by decide +kernel
abbrev b6 : oBd := (⟨"java/lang/Math", "min", "(II)I"⟩, jdk_29_method_69_code, 2, (some .int), { frames := 0, cells := 0, slots := 0, locals := 0 })
theorem pd6 : parseMethodDescriptor "(II)I" = some ⟨[.int, .int], some .int⟩ := by decide +kernel
theorem pn6 : plainFor b6.y = true := Jvm.Free.JP.mathPlain rfl (by decide +kernel)
theorem d7_0 : decode prog_28_method_1_code 0 = .ok (.aload_n 0, 1) := by decide +kernel
theorem d7_1 : decode prog_28_method_1_code 1 = .ok (.invokespecial 1, 3) := by decide +kernel
theorem d7_4 : decode prog_28_method_1_code 4 = .ok (.aload_n 0, 1) := by decide +kernel
theorem d7_5 : decode prog_28_method_1_code 5 = .ok (.aload_n 1, 1) := by decide +kernel
theorem d7_6 : decode prog_28_method_1_code 6 = .ok (.putfield 7, 3) := by decide +kernel
theorem d7_9 : decode prog_28_method_1_code 9 = .ok (.aload_n 0, 1) := by decide +kernel
theorem d7_10 : decode prog_28_method_1_code 10 = .ok (.iload_n 2, 1) := by decide +kernel
theorem d7_11 : decode prog_28_method_1_code 11 = .ok (.putfield 13, 3) := by decide +kernel
theorem d7_14 : decode prog_28_method_1_code 14 = .ok (.return_, 1) := by decide +kernel
abbrev b7 : oBd := (⟨"com/example/waypost/waypost/network/Message", "<init>", "([JI)V"⟩, prog_28_method_1_code, 3, none, { frames := 1, cells := 0, slots := 0, locals := 12 })
theorem pd7 : parseMethodDescriptor "([JI)V" = some ⟨[(.array .long), .int], none⟩ := by decide +kernel
theorem pn7 : plainFor b7.y = true := plainFor_of_name (by first | (simp [plainName, overriddenIn]; done) | decide +kernel)
theorem d8_0 : decode method_3_code 0 = .ok (.iload 4, 2) := by decide +kernel
theorem d8_2 : decode method_3_code 2 = .ok (.iload_n 2, 1) := by decide +kernel
theorem d8_3 : decode method_3_code 3 = .ok (.if_icmp .ge 24, 3) := by decide +kernel
theorem d8_6 : decode method_3_code 6 = .ok (.iload 5, 2) := by decide +kernel
theorem d8_8 : decode method_3_code 8 = .ok (.iload 4, 2) := by decide +kernel
theorem d8_10 : decode method_3_code 10 = .ok (.iushr, 1) := by decide +kernel
theorem d8_11 : decode method_3_code 11 = .ok (.iconst 1, 1) := by decide +kernel
theorem d8_12 : decode method_3_code 12 = .ok (.iand, 1) := by decide +kernel
theorem d8_13 : decode method_3_code 13 = .ok (.ifCond .eq 14, 3) := by decide +kernel
theorem d8_16 : decode method_3_code 16 = .ok (.aload_n 0, 1) := by decide +kernel
theorem d8_17 : decode method_3_code 17 = .ok (.iload_n 3, 1) := by decide +kernel
theorem d8_18 : decode method_3_code 18 = .ok (.iload 4, 2) := by decide +kernel
theorem d8_20 : decode method_3_code 20 = .ok (.iadd, 1) := by decide +kernel
theorem d8_21 : decode method_3_code 21 = .ok (.iload_n 2, 1) := by decide +kernel
theorem d8_22 : decode method_3_code 22 = .ok (.irem, 1) := by decide +kernel
theorem d8_23 : decode method_3_code 23 = .ok (.aload_n 1, 1) := by decide +kernel
theorem d8_24 : decode method_3_code 24 = .ok (.invokevirtual 42, 3) := by decide +kernel
theorem d8_27 : decode method_3_code 27 = .ok (.return_, 1) := by decide +kernel
abbrev b8 : oBd := (⟨"com/example/waypost/waypost/network/PortMessagesClearPinLaw", "fill", "(Lcom/example/waypost/waypost/network/PortMessages;Lcom/example/waypost/waypost/network/Message;IIII)V"⟩, method_3_code, 6, none, { frames := 1, cells := 0, slots := 0, locals := 14 })
theorem pd8 : parseMethodDescriptor "(Lcom/example/waypost/waypost/network/PortMessages;Lcom/example/waypost/waypost/network/Message;IIII)V" = some ⟨[(.object "com/example/waypost/waypost/network/PortMessages"), (.object "com/example/waypost/waypost/network/Message"), .int, .int, .int, .int], none⟩ := by decide +kernel
theorem pn8 : plainFor b8.y = true := plainFor_of_name (by first | (simp [plainName, overriddenIn]; done) | decide +kernel)
theorem d9_0 : decode prog_34_method_4_code 0 = .ok (.aload_n 0, 1) := by decide +kernel
theorem d9_1 : decode prog_34_method_4_code 1 = .ok (.getfield 9, 3) := by decide +kernel
theorem d9_4 : decode prog_34_method_4_code 4 = .ok (.iload_n 1, 1) := by decide +kernel
theorem d9_5 : decode prog_34_method_4_code 5 = .ok (.aload_n 2, 1) := by decide +kernel
theorem d9_6 : decode prog_34_method_4_code 6 = .ok (.aastore, 1) := by decide +kernel
theorem d9_7 : decode prog_34_method_4_code 7 = .ok (.aload_n 0, 1) := by decide +kernel
theorem d9_8 : decode prog_34_method_4_code 8 = .ok (.getfield 15, 3) := by decide +kernel
theorem d9_11 : decode prog_34_method_4_code 11 = .ok (.aload_n 0, 1) := by decide +kernel
theorem d9_12 : decode prog_34_method_4_code 12 = .ok (.dup, 1) := by decide +kernel
theorem d9_13 : decode prog_34_method_4_code 13 = .ok (.getfield 19, 3) := by decide +kernel
theorem d9_16 : decode prog_34_method_4_code 16 = .ok (.dup_x1, 1) := by decide +kernel
theorem d9_17 : decode prog_34_method_4_code 17 = .ok (.iconst 1, 1) := by decide +kernel
theorem d9_18 : decode prog_34_method_4_code 18 = .ok (.iadd, 1) := by decide +kernel
theorem d9_19 : decode prog_34_method_4_code 19 = .ok (.putfield 19, 3) := by decide +kernel
theorem d9_22 : decode prog_34_method_4_code 22 = .ok (.iload_n 1, 1) := by decide +kernel
theorem d9_23 : decode prog_34_method_4_code 23 = .ok (.iastore, 1) := by decide +kernel
theorem d9_24 : decode prog_34_method_4_code 24 = .ok (.return_, 1) := by decide +kernel
abbrev b9 : oBd := (⟨"com/example/waypost/waypost/network/PortMessages", "put", "(ILcom/example/waypost/waypost/network/Message;)V"⟩, prog_34_method_4_code, 3, none, { frames := 0, cells := 0, slots := 0, locals := 0 })
theorem pd9 : parseMethodDescriptor "(ILcom/example/waypost/waypost/network/Message;)V" = some ⟨[.int, (.object "com/example/waypost/waypost/network/Message")], none⟩ := by decide +kernel
theorem pn9 : plainFor b9.y = true := plainFor_of_name (by first | (simp [plainName, overriddenIn]; done) | decide +kernel)
theorem d10_0 : decode prog_34_method_7_code 0 = .ok (.iconst 0, 1) := by decide +kernel
theorem d10_1 : decode prog_34_method_7_code 1 = .ok (.istore_n 1, 1) := by decide +kernel
theorem d10_2 : decode prog_34_method_7_code 2 = .ok (.iload_n 1, 1) := by decide +kernel
theorem d10_3 : decode prog_34_method_7_code 3 = .ok (.aload_n 0, 1) := by decide +kernel
theorem d10_4 : decode prog_34_method_7_code 4 = .ok (.getfield 19, 3) := by decide +kernel
theorem d10_7 : decode prog_34_method_7_code 7 = .ok (.if_icmp .ge 21, 3) := by decide +kernel
theorem d10_10 : decode prog_34_method_7_code 10 = .ok (.aload_n 0, 1) := by decide +kernel
theorem d10_11 : decode prog_34_method_7_code 11 = .ok (.getfield 9, 3) := by decide +kernel
theorem d10_14 : decode prog_34_method_7_code 14 = .ok (.aload_n 0, 1) := by decide +kernel
theorem d10_15 : decode prog_34_method_7_code 15 = .ok (.getfield 15, 3) := by decide +kernel
theorem d10_18 : decode prog_34_method_7_code 18 = .ok (.iload_n 1, 1) := by decide +kernel
theorem d10_19 : decode prog_34_method_7_code 19 = .ok (.iaload, 1) := by decide +kernel
theorem d10_20 : decode prog_34_method_7_code 20 = .ok (.aconst_null, 1) := by decide +kernel
theorem d10_21 : decode prog_34_method_7_code 21 = .ok (.aastore, 1) := by decide +kernel
theorem d10_22 : decode prog_34_method_7_code 22 = .ok (.iinc 1 1, 3) := by decide +kernel
theorem d10_25 : decode prog_34_method_7_code 25 = .ok (.goto (-23), 3) := by decide +kernel
theorem d10_28 : decode prog_34_method_7_code 28 = .ok (.aload_n 0, 1) := by decide +kernel
theorem d10_29 : decode prog_34_method_7_code 29 = .ok (.iconst 0, 1) := by decide +kernel
theorem d10_30 : decode prog_34_method_7_code 30 = .ok (.putfield 19, 3) := by decide +kernel
theorem d10_33 : decode prog_34_method_7_code 33 = .ok (.return_, 1) := by decide +kernel
abbrev b10 : oBd := (⟨"com/example/waypost/waypost/network/PortMessages", "clear", "()V"⟩, prog_34_method_7_code, 2, none, { frames := 0, cells := 0, slots := 0, locals := 0 })
theorem pd10 : parseMethodDescriptor "()V" = some ⟨[], none⟩ := by decide +kernel
theorem pn10 : plainFor b10.y = true := plainFor_of_name (by first | (simp [plainName, overriddenIn]; done) | decide +kernel)
theorem d11_0 : decode prog_34_method_5_code 0 = .ok (.aload_n 0, 1) := by decide +kernel
theorem d11_1 : decode prog_34_method_5_code 1 = .ok (.getfield 19, 3) := by decide +kernel
theorem d11_4 : decode prog_34_method_5_code 4 = .ok (.ireturn, 1) := by decide +kernel
abbrev b11 : oBd := (⟨"com/example/waypost/waypost/network/PortMessages", "count", "()I"⟩, prog_34_method_5_code, 1, (some .int), { frames := 0, cells := 0, slots := 0, locals := 0 })
theorem pd11 : parseMethodDescriptor "()I" = some ⟨[], some .int⟩ := by decide +kernel
theorem pn11 : plainFor b11.y = true := plainFor_of_name (by first | (simp [plainName, overriddenIn]; done) | decide +kernel)
theorem d12_0 : decode method_4_code 0 = .ok (.iload_n 2, 1) := by decide +kernel
theorem d12_1 : decode method_4_code 1 = .ok (.iload_n 1, 1) := by decide +kernel
theorem d12_2 : decode method_4_code 2 = .ok (.if_icmp .ge 11, 3) := by decide +kernel
theorem d12_5 : decode method_4_code 5 = .ok (.aload_n 0, 1) := by decide +kernel
theorem d12_6 : decode method_4_code 6 = .ok (.iload_n 2, 1) := by decide +kernel
theorem d12_7 : decode method_4_code 7 = .ok (.invokevirtual 46, 3) := by decide +kernel
theorem d12_10 : decode method_4_code 10 = .ok (.ifnonnull 7, 3) := by decide +kernel
theorem d12_13 : decode method_4_code 13 = .ok (.iconst 1, 1) := by decide +kernel
theorem d12_14 : decode method_4_code 14 = .ok (.goto 4, 3) := by decide +kernel
theorem d12_17 : decode method_4_code 17 = .ok (.iconst 0, 1) := by decide +kernel
theorem d12_18 : decode method_4_code 18 = .ok (.ireturn, 1) := by decide +kernel
abbrev b12 : oBd := (⟨"com/example/waypost/waypost/network/PortMessagesClearPinLaw", "none", "(Lcom/example/waypost/waypost/network/PortMessages;II)Z"⟩, method_4_code, 3, (some .boolean), { frames := 1, cells := 0, slots := 0, locals := 13 })
theorem pd12 : parseMethodDescriptor "(Lcom/example/waypost/waypost/network/PortMessages;II)Z" = some ⟨[(.object "com/example/waypost/waypost/network/PortMessages"), .int, .int], some .boolean⟩ := by decide +kernel
theorem pn12 : plainFor b12.y = true := plainFor_of_name (by first | (simp [plainName, overriddenIn]; done) | decide +kernel)
theorem d13_0 : decode prog_34_method_3_code 0 = .ok (.aload_n 0, 1) := by decide +kernel
theorem d13_1 : decode prog_34_method_3_code 1 = .ok (.getfield 9, 3) := by decide +kernel
theorem d13_4 : decode prog_34_method_3_code 4 = .ok (.iload_n 1, 1) := by decide +kernel
theorem d13_5 : decode prog_34_method_3_code 5 = .ok (.aaload, 1) := by decide +kernel
theorem d13_6 : decode prog_34_method_3_code 6 = .ok (.areturn, 1) := by decide +kernel
abbrev b13 : oBd := (⟨"com/example/waypost/waypost/network/PortMessages", "get", "(I)Lcom/example/waypost/waypost/network/Message;"⟩, prog_34_method_3_code, 2, (some (.object "com/example/waypost/waypost/network/Message")), { frames := 0, cells := 0, slots := 0, locals := 0 })
theorem pd13 : parseMethodDescriptor "(I)Lcom/example/waypost/waypost/network/Message;" = some ⟨[.int], some (.object "com/example/waypost/waypost/network/Message")⟩ := by decide +kernel
theorem pn13 : plainFor b13.y = true := plainFor_of_name (by first | (simp [plainName, overriddenIn]; done) | decide +kernel)
abbrev b0 : oBd := (x, code, maxLocals, ret, room_1)
theorem pd0 : parseMethodDescriptor "(III)Z" = some ⟨[.int, .int, .int], some .boolean⟩ := by decide +kernel
theorem pn0 : plainFor b0.y = true := plainFor_of_name (by first | (simp [plainName, overriddenIn]; done) | decide +kernel)
set_option maxRecDepth 65536 in
set_option maxHeartbeats 40000000 in
theorem rm1 (l : Launch) (Z : State) (a0 : Array Value) (hw : ∀ d ∈ tables_1, d.before a0 Z = true) (pm : Addr) (di : Int32) (d : Nat) (h0 : Heap) (n0 : Nat) (Z0 : n0 ≤ h0.size) (E : Exa Z h0 pm "com/example/waypost/waypost/network/PortMessages") (F1 : Fld Z h0 pm "com/example/waypost/waypost/network/PortMessages" "messages" "[Lcom/example/waypost/waypost/network/Message;" .null) (F2 : Fld Z h0 pm "com/example/waypost/waypost/network/PortMessages" "ports" "[I" .null) (F3 : Fld Z h0 pm "com/example/waypost/waypost/network/PortMessages" "count" "I" (.int 0)) (gp : n0 ≤ pm) (hd : di.toInt = (d : Int)) (hd4 : d ≤ 4) :
    oMet l b1 [] Z n0 #[.ref pm, .int di] h0 (fun v h' => v = none ∧ ∃ ma pa, own_S Z n0 h' pm ma pa d (fun _ => .null) (fun _ => 0) 0) := by
  refine o_enter pn1 (Ls := #[.val (.ref pm), .val (.int di)]) (fun m => by first | (simp [entryFrame, mkF, argsToLocals, Value.category, oBd.maxL, b1]; done) | rfl) ?_
  intro w T0 A0
  refine o_aloadN (q := 1) A0 d1_0 rfl rfl rfl ?_
  refine o_initO (q := 4) (W := 0) A0 d1_1 (hw _ (List.mem_of_getElem? (i := 7) rfl)) (hw _ (List.mem_of_getElem? (i := 8) rfl)) (hw _ (List.mem_of_getElem? (i := 9) rfl)) rfl (by decide) rfl (by decide) rfl (fun T1 A1 => ?_)
  refine o_aloadN (q := 5) A1 d1_4 rfl rfl rfl ?_
  refine o_iloadN (q := 6) A1 d1_5 rfl rfl ?_
  refine o_newR (q := 9) (k' := 1) (n' := 4) (m := d) (cap := 4) A1 d1_6 (hw _ (List.mem_of_getElem? (i := 10) rfl)) (hw _ (List.mem_of_getElem? (i := 11) rfl)) hd hd4 (by decide) rfl rfl (by decide) (by decide) rfl (fun T2 h2 ma gma A2 X2 V O => ?_)
  have n1 : pm ≠ ma := by rw [gma]; exact Nat.ne_of_lt E.lt
  have g1 : n0 ≤ ma := by rw [gma]; exact Z0
  refine o_putF (q := 12) A2 d1_9 (hw _ (List.mem_of_getElem? (i := 12) rfl)) (F1.ext X2) (E.ext X2) (Or.inr ⟨(hw _ (List.mem_of_getElem? (i := 13) rfl)), rfl, rfl⟩) (hw _ (List.mem_of_getElem? (i := 2) rfl)) (ty := .array (.object "com/example/waypost/waypost/network/Message")) (by decide) rfl rfl gp rfl (fun T3 h3 A3 W3 => ?_)
  have G2 := (F2.ext X2).other W3 (Or.inr (slot_ne (Or.inr (hw _ (List.mem_of_getElem? (i := 16) rfl))) (Or.inr (hw _ (List.mem_of_getElem? (i := 13) rfl))) (by decide) (t := .array .int) (t' := .array (.object "com/example/waypost/waypost/network/Message")) (by decide) (by decide)))
  have G3 := (F3.ext X2).other W3 (Or.inr (slot_ne (Or.inl (hw _ (List.mem_of_getElem? (i := 71) rfl))) (Or.inr (hw _ (List.mem_of_getElem? (i := 13) rfl))) (by decide) (t := .int) (t' := .array (.object "com/example/waypost/waypost/network/Message")) (by decide) (by decide)))
  have G1 := (F1.ext X2).same W3
  have G0 := (E.ext X2).wr W3
  have V2 := V.other W3 (Ne.symm n1)
  have O2 := O.wr W3
  refine o_aloadN (q := 13) A3 d1_12 rfl rfl rfl ?_
  refine o_iloadN (q := 14) A3 d1_13 rfl rfl ?_
  refine o_newarr (q := 16) (k' := 2) (n' := 8) (m := d) (cap := 4) A3 d1_14 rfl (hw _ (List.mem_of_getElem? (i := 14) rfl)) hd hd4 (by decide) rfl rfl (by decide) (by decide) rfl rfl (fun T4 h4 pa gpa A4 X4 Vpa Epa => ?_)
  have n2 : pm ≠ pa := by rw [gpa]; exact Nat.ne_of_lt G0.lt
  have n3 : ma ≠ pa := by rw [gpa]; exact Nat.ne_of_lt V2.lt
  have g2 : n0 ≤ pa := by rw [gpa, W3.size]; exact Nat.le_trans Z0 X2.1
  refine o_putF (q := 19) A4 d1_16 (hw _ (List.mem_of_getElem? (i := 15) rfl)) (G2.ext X4) (G0.ext X4) (Or.inr ⟨(hw _ (List.mem_of_getElem? (i := 16) rfl)), rfl, rfl⟩) (hw _ (List.mem_of_getElem? (i := 2) rfl)) (ty := .array .int) (by decide) rfl rfl gp rfl (fun T5 h5 A5 W5 => ?_)
  exact o_retV A5 rfl d1_19 (by decide) (by decide) ⟨rfl, ma, pa, (G0.ext X4).wr W5, (G1.ext X4).other W5 (Or.inr (slot_ne (Or.inr (hw _ (List.mem_of_getElem? (i := 13) rfl))) (Or.inr (hw _ (List.mem_of_getElem? (i := 16) rfl))) (by decide) (t := .array (.object "com/example/waypost/waypost/network/Message")) (t' := .array .int) (by decide) (by decide))), (G2.ext X4).same W5, (G3.ext X4).other W5 (Or.inr (slot_ne (Or.inl (hw _ (List.mem_of_getElem? (i := 71) rfl))) (Or.inr (hw _ (List.mem_of_getElem? (i := 16) rfl))) (by decide) (t := .int) (t' := .array .int) (by decide) (by decide))), (V2.ext X4).other W5 (Ne.symm n1), (O2.ext X4).wr W5, Vpa.other W5 (Ne.symm n2), ⟨n1, n2, n3⟩, gp, g1, g2⟩
set_option maxRecDepth 65536 in
set_option maxHeartbeats 40000000 in
theorem rm3 (l : Launch) (Z : State) (a0 : Array Value) (hw : ∀ d ∈ tables_1, d.before a0 Z = true) (bb : Addr) (h0 : Heap) (n0 : Nat) (Z0 : n0 ≤ h0.size) (E : Exa Z h0 bb "com/example/waypost/waypost/network/Message$Builder") (F1 : Fld Z h0 bb "com/example/waypost/waypost/network/Message$Builder" "words" "[J" .null) (F2 : Fld Z h0 bb "com/example/waypost/waypost/network/Message$Builder" "bits" "I" (.int 0)) (gb : n0 ≤ bb) :
    oMet l b3 [] Z n0 #[.ref bb] h0 (fun v h' => v = none ∧ Keep h0 h' [bb] ∧ Exa Z h' bb "com/example/waypost/waypost/network/Message$Builder" ∧ ∃ wa, Fld Z h' bb "com/example/waypost/waypost/network/Message$Builder" "words" "[J" (.ref wa) ∧ Fld Z h' bb "com/example/waypost/waypost/network/Message$Builder" "bits" "I" (.int 0) ∧ oArr Z h' wa .long 1 (fun _ => .long 0)) := by
  refine o_enter pn3 (Ls := #[.val (.ref bb)]) (fun m => by first | (simp [entryFrame, mkF, argsToLocals, Value.category, oBd.maxL, b3]; done) | rfl) ?_
  intro w T0 A0
  refine o_aloadN (q := 1) A0 d3_0 rfl rfl rfl ?_
  refine o_initO (q := 4) (W := 0) A0 d3_1 (hw _ (List.mem_of_getElem? (i := 27) rfl)) (hw _ (List.mem_of_getElem? (i := 8) rfl)) (hw _ (List.mem_of_getElem? (i := 9) rfl)) rfl (by decide) rfl (by decide) rfl (fun T1 A1 => ?_)
  refine o_aloadN (q := 5) A1 d3_4 rfl rfl rfl ?_
  refine o_iconst (q := 6) (z := 1) A1 d3_5 rfl rfl ?_
  refine o_newarr (q := 8) (k' := 1) (n' := 1) (m := 1) (cap := 1) A1 d3_6 rfl (hw _ (List.mem_of_getElem? (i := 28) rfl)) (by decide) (by decide) (by decide) rfl rfl (by decide) (by decide) rfl rfl (fun T2 h2 wa gwa A2 X2 Vwa Ewa => ?_)
  have n1 : bb ≠ wa := by rw [gwa]; exact Nat.ne_of_lt E.lt
  refine o_putF (q := 11) A2 d3_8 (hw _ (List.mem_of_getElem? (i := 29) rfl)) (F1.ext X2) (E.ext X2) (Or.inl (hw _ (List.mem_of_getElem? (i := 30) rfl))) (hw _ (List.mem_of_getElem? (i := 22) rfl)) (ty := .array .long) (by decide) rfl rfl gb rfl (fun T3 h3 A3 W3 => ?_)
  exact o_retV A3 rfl d3_11 (by decide) (by decide) ⟨rfl, ((Keep.refl h0 [bb]).ext X2).wr W3 (Or.inl (List.mem_of_getElem? (i := 0) rfl)), (E.ext X2).wr W3, wa, (F1.ext X2).same W3, (F2.ext X2).other W3 (Or.inr (slot_ne (Or.inl (hw _ (List.mem_of_getElem? (i := 39) rfl))) (Or.inl (hw _ (List.mem_of_getElem? (i := 30) rfl))) (by decide) (t := .int) (t' := .array .long) (by decide) (by decide))), Vwa.other W3 (Ne.symm n1)⟩
set_option maxRecDepth 65536 in
set_option maxHeartbeats 40000000 in
theorem rm2 (l : Launch) (Z : State) (a0 : Array Value) (hw : ∀ d ∈ tables_1, d.before a0 Z = true)  (h0 : Heap) (n0 : Nat) (Z0 : n0 ≤ h0.size) :
    oMet l b2 [] Z n0 #[] h0 (fun v h' => ∃ bb, v = some (.ref bb) ∧ Ext h0 h' ∧ Exa Z h' bb "com/example/waypost/waypost/network/Message$Builder" ∧ ∃ wa, Fld Z h' bb "com/example/waypost/waypost/network/Message$Builder" "words" "[J" (.ref wa) ∧ Fld Z h' bb "com/example/waypost/waypost/network/Message$Builder" "bits" "I" (.int 0) ∧ oArr Z h' wa .long 1 (fun _ => .long 0)) := by
  refine o_enter pn2 (Ls := #[]) (fun m => by first | (simp [entryFrame, mkF, argsToLocals, Value.category, oBd.maxL, b2]; done) | rfl) ?_
  intro w T0 A0
  refine o_newO (q := 3) (k' := 1) (n' := 2) A0 d2_0 (hw _ (List.mem_of_getElem? (i := 21) rfl)) (hw _ (List.mem_of_getElem? (i := 22) rfl)) (hw _ (List.mem_of_getElem? (i := 23) rfl)) rfl rfl (by decide) (by decide) rfl (fun T1 h1 bb gbb A1 X1 Ebb Dbb => ?_)
  have F1 : Fld Z h1 bb "com/example/waypost/waypost/network/Message$Builder" "words" "[J" .null := Dbb (Or.inl (hw _ (List.mem_of_getElem? (i := 30) rfl))) (ty := .array .long) (by decide)
  have F2 : Fld Z h1 bb "com/example/waypost/waypost/network/Message$Builder" "bits" "I" (.int 0) := Dbb (Or.inl (hw _ (List.mem_of_getElem? (i := 39) rfl))) (ty := .int) (by decide)
  have gb : n0 ≤ bb := by rw [gbb]; exact Z0
  have Z1 : n0 ≤ h1.size := Nat.le_trans Z0 X1.1
  refine o_dup (q := 4) A1 d2_3 rfl rfl ?_
  refine o_callCR (q := 7) (W := 1) (k' := 2) (n' := 3) (st := [.ref bb]) (argsL := []) (b' := b3) (a := bb) A1 (rm3 l Z a0 hw bb h1 n0 Z1 Ebb F1 F2 gb) d2_4 rfl (hw _ (List.mem_of_getElem? (i := 24) rfl)) (hw _ (List.mem_of_getElem? (i := 25) rfl)) (hw _ (List.mem_of_getElem? (i := 23) rfl)) (hw _ (List.mem_of_getElem? (i := 26) rfl)) (by decide) pd3 rfl rfl rfl rfl rfl (by decide) (by decide) rfl rfl (by decide) (by decide) rfl (fun v2 T2 h2 A2 hQ2 => ?_)
  obtain ⟨rfl, Kc, R⟩ := hQ2
  show oFin _ _ _ _ T2 7 #[] [.ref bb]
  exact o_retA A2 rfl rfl rfl d2_7 (by decide) (by decide) ⟨bb, rfl, o_ext ((show Keep h0 h1 [] from ⟨X1.1, fun x c q _ => X1.2 x c q, fun x c q => ⟨c, X1.2 x c q, rfl, rfl, rfl⟩⟩).trans Kc (fun x hx => by cases List.mem_singleton.mp hx; exact Or.inr (by rw [gbb]; exact Nat.le_refl _))), R⟩
set_option maxRecDepth 65536 in
set_option maxHeartbeats 40000000 in
theorem rm6 (l : Launch) (Z : State) (a0 : Array Value) (hw : ∀ d ∈ tables_1, d.before a0 Z = true) (x y : Int32) (h0 : Heap) (n0 : Nat) :
    oMet l b6 [] Z n0 #[.int x, .int y] h0 (fun v h' => v = some (.int (if y < x then y else x)) ∧ h' = h0) := by
  refine o_enter pn6 (Ls := #[.val (.int x), .val (.int y)]) (fun m => by first | (simp [entryFrame, mkF, argsToLocals, Value.category, oBd.maxL, b6]; done) | rfl) ?_
  intro w T0 A0
  refine o_iloadN (q := 1) A0 d6_0 rfl rfl ?_
  refine o_iloadN (q := 2) A0 d6_1 rfl rfl ?_
  refine o_icmp (q := 9) (q' := 5) A0 d6_2 (by decide) (by decide) rfl (fun hc => ?_) (fun hc => ?_)
  · replace hc : y < x := hc
    refine o_iloadN (q := 10) A0 d6_9 rfl rfl ?_
    exact o_retI A0 rfl d6_10 (by decide) (by decide) ⟨by rw [if_pos hc], rfl⟩
  · replace hc : ¬ (y < x) := hc
    refine o_iloadN (q := 6) A0 d6_5 rfl rfl ?_
    refine o_goto (q := 10) A0 d6_6 (by decide) (by decide) ?_
    exact o_retI A0 rfl d6_10 (by decide) (by decide) ⟨by rw [if_neg hc], rfl⟩
theorem own_pn5 : plainFor b5.y = true := by first | exact plainFor_of_name (by first | (simp [plainName, overriddenIn]; done) | decide +kernel) | decide +kernel
set_option maxRecDepth 65536 in
set_option maxHeartbeats 40000000 in
theorem rm5 (l : Launch) (Z : State) (a0 : Array Value) (hw : ∀ d ∈ tables_1, d.before a0 Z = true) (wa : Addr) (h0 : Heap) (n0 : Nat) (Z0 : n0 ≤ h0.size) (V : oArr Z h0 wa .long 1 (fun _ => .long 0)) :
    oMet l b5 [] Z n0 #[.ref wa, .int (0 : Int32)] h0 (fun v h' => ∃ r, v = some (.ref r) ∧ Ext h0 h') := by
  refine o_enter pn5 (Ls := #[.val (.ref wa), .val (.int (0 : Int32)), .unset]) (fun m => by first | (simp [entryFrame, mkF, argsToLocals, Value.category, oBd.maxL, b5]; done) | rfl) ?_
  intro w T0 A0
  refine o_iloadN (q := 1) A0 d5_0 rfl rfl ?_
  refine o_aloadN (q := 2) A0 d5_1 rfl rfl rfl ?_
  refine o_arraylength (q := 3) (z := 1) A0 d5_2 V rfl rfl ?_
  refine o_icmp (q := 14) (q' := 6) A0 d5_3 (by decide) (by decide) rfl (fun _ => ?_) (fun hc => absurd (show (0 : Int32) ≠ 1 by decide) hc)
  refine o_iloadN (q := 15) A0 d5_14 rfl rfl ?_
  refine o_newarr (q := 17) (k' := 1) (n' := 0) (m := 0) (cap := 0) A0 d5_15 rfl (hw _ (List.mem_of_getElem? (i := 28) rfl)) (by decide) (by decide) (by decide) rfl rfl (by decide) (by decide) rfl rfl (fun T1 h1 r gr A1 X1 Vr Er => ?_)
  have gr0 : n0 ≤ r := by rw [gr]; exact Z0
  refine o_astoreN (q := 18) (Ls' := #[.val (.ref wa), .val (.int (0 : Int32)), .val (.ref r)]) A1 d5_17 rfl rfl rfl ?_
  refine o_aloadN (q := 19) A1 d5_18 rfl rfl rfl ?_
  refine o_iconst (q := 20) (z := 0) A1 d5_19 rfl rfl ?_
  refine o_aloadN (q := 21) A1 d5_20 rfl rfl rfl ?_
  refine o_iconst (q := 22) (z := 0) A1 d5_21 rfl rfl ?_
  refine o_aloadN (q := 23) A1 d5_22 rfl rfl rfl ?_
  refine o_arraylength (q := 24) (z := 1) A1 d5_23 (V.ext X1) rfl rfl ?_
  refine o_iloadN (q := 25) A1 d5_24 rfl rfl ?_
  refine o_callS (q := 28) (W := 4) (k' := 1) (n' := 0) (st := [.int (0 : Int32), .ref r, .int (0 : Int32), .ref wa]) (argsL := [.int (1 : Int32), .int (0 : Int32)]) (b' := b6) A1 (rm6 l Z a0 hw 1 0 h1 n0) d5_25 (hw _ (List.mem_of_getElem? (i := 44) rfl)) (hw _ (List.mem_of_getElem? (i := 45) rfl)) (hw _ (List.mem_of_getElem? (i := 46) rfl)) (hw _ (List.mem_of_getElem? (i := 47) rfl)) (by decide) pd6 rfl rfl rfl rfl rfl (by decide) (by decide) rfl rfl (by decide) (by decide) rfl (fun v2 T2 h2 A2 hQ2 => ?_)
  obtain ⟨rfl, rfl⟩ := hQ2
  show oFin _ _ _ _ T2 28 #[.val (.ref wa), .val (.int (0 : Int32)), .val (.ref r)] [.int (0 : Int32), .int (0 : Int32), .ref r, .int (0 : Int32), .ref wa]
  refine o_acopy0 (q := 31) (W := 0) (ty := .long) A2 d5_28 rfl (V.ext X1) Vr (fun _ _ => rfl) (fun _ _ => rfl) gr0 (hw _ (List.mem_of_getElem? (i := 48) rfl)) (hw _ (List.mem_of_getElem? (i := 51) rfl)) (hw _ (List.mem_of_getElem? (i := 49) rfl)) (hw _ (List.mem_of_getElem? (i := 50) rfl)) rfl (by decide) rfl (by decide) rfl (fun T3 h3 A3 Kc => ?_)
  refine o_aloadN (q := 32) A3 d5_31 rfl rfl rfl ?_
  exact o_retA A3 rfl rfl rfl d5_32 (by decide) (by decide) ⟨r, rfl, o_ext ((show Keep h0 h2 [] from ⟨X1.1, fun x c q _ => X1.2 x c q, fun x c q => ⟨c, X1.2 x c q, rfl, rfl, rfl⟩⟩).trans Kc (fun x hx => by cases List.mem_singleton.mp hx; exact Or.inr (by rw [gr]; exact Nat.le_refl _)))⟩
set_option maxRecDepth 65536 in
set_option maxHeartbeats 40000000 in
theorem rm7 (l : Launch) (Z : State) (a0 : Array Value) (hw : ∀ d ∈ tables_1, d.before a0 Z = true) (mm r : Addr) (z : Int32) (h0 : Heap) (n0 : Nat) (E : Exa Z h0 mm "com/example/waypost/waypost/network/Message") (F1 : Fld Z h0 mm "com/example/waypost/waypost/network/Message" "words" "[J" .null) (F2 : Fld Z h0 mm "com/example/waypost/waypost/network/Message" "bits" "I" (.int 0)) (gm : n0 ≤ mm) :
    oMet l b7 [] Z n0 #[.ref mm, .ref r, .int z] h0 (fun v h' => v = none ∧ Keep h0 h' [mm] ∧ Exa Z h' mm "com/example/waypost/waypost/network/Message") := by
  refine o_enter pn7 (Ls := #[.val (.ref mm), .val (.ref r), .val (.int z)]) (fun m => by first | (simp [entryFrame, mkF, argsToLocals, Value.category, oBd.maxL, b7]; done) | rfl) ?_
  intro w T0 A0
  refine o_aloadN (q := 1) A0 d7_0 rfl rfl rfl ?_
  refine o_initO (q := 4) (W := 0) A0 d7_1 (hw _ (List.mem_of_getElem? (i := 55) rfl)) (hw _ (List.mem_of_getElem? (i := 8) rfl)) (hw _ (List.mem_of_getElem? (i := 9) rfl)) rfl (by decide) rfl (by decide) rfl (fun T1 A1 => ?_)
  refine o_aloadN (q := 5) A1 d7_4 rfl rfl rfl ?_
  refine o_aloadN (q := 6) A1 d7_5 rfl rfl rfl ?_
  refine o_putF (q := 9) A1 d7_6 (hw _ (List.mem_of_getElem? (i := 56) rfl)) F1 E (Or.inr ⟨(hw _ (List.mem_of_getElem? (i := 57) rfl)), rfl, rfl⟩) (hw _ (List.mem_of_getElem? (i := 37) rfl)) (ty := .array .long) (by decide) rfl rfl gm rfl (fun T2 h2 A2 W2 => ?_)
  refine o_aloadN (q := 10) A2 d7_9 rfl rfl rfl ?_
  refine o_iloadN (q := 11) A2 d7_10 rfl rfl ?_
  refine o_putF (q := 14) A2 d7_11 (hw _ (List.mem_of_getElem? (i := 58) rfl)) (F2.other W2 (Or.inr (slot_ne (Or.inr (hw _ (List.mem_of_getElem? (i := 59) rfl))) (Or.inr (hw _ (List.mem_of_getElem? (i := 57) rfl))) (by decide) (t := .int) (t' := .array .long) (by decide) (by decide)))) (E.wr W2) (Or.inr ⟨(hw _ (List.mem_of_getElem? (i := 59) rfl)), rfl, rfl⟩) (hw _ (List.mem_of_getElem? (i := 37) rfl)) (ty := .int) (by decide) rfl rfl gm rfl (fun T3 h3 A3 W3 => ?_)
  exact o_retV A3 rfl d7_14 (by decide) (by decide) ⟨rfl, ((Keep.refl h0 [mm]).wr W2 (Or.inl (List.mem_of_getElem? (i := 0) rfl))).wr W3 (Or.inl (List.mem_of_getElem? (i := 0) rfl)), (E.wr W2).wr W3⟩
set_option maxRecDepth 65536 in
set_option maxHeartbeats 40000000 in
theorem rm4 (l : Launch) (Z : State) (a0 : Array Value) (hw : ∀ d ∈ tables_1, d.before a0 Z = true) (bb wa : Addr) (h0 : Heap) (n0 : Nat) (Z0 : n0 ≤ h0.size) (F1 : Fld Z h0 bb "com/example/waypost/waypost/network/Message$Builder" "words" "[J" (.ref wa)) (F2 : Fld Z h0 bb "com/example/waypost/waypost/network/Message$Builder" "bits" "I" (.int 0)) (V : oArr Z h0 wa .long 1 (fun _ => .long 0)) :
    oMet l b4 [] Z n0 #[.ref bb] h0 (fun v h' => ∃ mm, v = some (.ref mm) ∧ Ext h0 h' ∧ Exa Z h' mm "com/example/waypost/waypost/network/Message") := by
  refine o_enter pn4 (Ls := #[.val (.ref bb)]) (fun m => by first | (simp [entryFrame, mkF, argsToLocals, Value.category, oBd.maxL, b4]; done) | rfl) ?_
  intro w T0 A0
  refine o_newO (q := 3) (k' := 1) (n' := 2) A0 d4_0 (hw _ (List.mem_of_getElem? (i := 36) rfl)) (hw _ (List.mem_of_getElem? (i := 37) rfl)) (hw _ (List.mem_of_getElem? (i := 19) rfl)) rfl rfl (by decide) (by decide) rfl (fun T1 h1 mm gmm A1 X1 Emm Dmm => ?_)
  have M1 : Fld Z h1 mm "com/example/waypost/waypost/network/Message" "words" "[J" .null := Dmm (Or.inr (hw _ (List.mem_of_getElem? (i := 57) rfl))) (ty := .array .long) (by decide)
  have M2 : Fld Z h1 mm "com/example/waypost/waypost/network/Message" "bits" "I" (.int 0) := Dmm (Or.inr (hw _ (List.mem_of_getElem? (i := 59) rfl))) (ty := .int) (by decide)
  have gm : n0 ≤ mm := by rw [gmm]; exact Z0
  have Z1 : n0 ≤ h1.size := Nat.le_trans Z0 X1.1
  refine o_dup (q := 4) A1 d4_3 rfl rfl ?_
  refine o_aloadN (q := 5) A1 d4_4 rfl rfl rfl ?_
  refine o_getF (q := 8) A1 d4_5 (hw _ (List.mem_of_getElem? (i := 29) rfl)) (F1.ext X1) rfl (fun T2 A2 => ?_)
  refine o_aloadN (q := 9) A2 d4_8 rfl rfl rfl ?_
  refine o_getF (q := 12) A2 d4_9 (hw _ (List.mem_of_getElem? (i := 38) rfl)) (F2.ext X1) rfl (fun T3 A3 => ?_)
  refine o_bipush (q := 14) (z := 63) A3 d4_12 rfl rfl ?_
  refine o_iadd (q := 15) A3 d4_14 rfl ?_
  refine o_bipush (q := 17) (z := 6) A3 d4_15 rfl rfl ?_
  refine o_iushr (q := 18) A3 d4_17 rfl ?_
  show oFin _ _ _ _ T3 18 #[.val (.ref bb)] [.int (0 : Int32), .ref wa, .ref mm, .ref mm]
  refine o_callS (q := 21) (W := 2) (k' := 2) (n' := 2) (st := [.ref mm, .ref mm]) (argsL := [.ref wa, .int (0 : Int32)]) (b' := b5) A3 (rm5 l Z a0 hw wa h1 n0 Z1 (V.ext X1)) d4_18 (hw _ (List.mem_of_getElem? (i := 40) rfl)) (hw _ (List.mem_of_getElem? (i := 41) rfl)) (hw _ (List.mem_of_getElem? (i := 42) rfl)) (hw _ (List.mem_of_getElem? (i := 43) rfl)) (by decide) pd5 rfl rfl rfl rfl rfl (by decide) (by decide) rfl rfl (by decide) (by decide) rfl (fun v4 T4 h4 A4 hQ4 => ?_)
  obtain ⟨r, rfl, X2⟩ := hQ4
  show oFin _ _ _ _ T4 21 #[.val (.ref bb)] [.ref r, .ref mm, .ref mm]
  refine o_aloadN (q := 22) A4 d4_21 rfl rfl rfl ?_
  refine o_getF (q := 25) A4 d4_22 (hw _ (List.mem_of_getElem? (i := 38) rfl)) ((F2.ext X1).ext X2) rfl (fun T5 A5 => ?_)
  refine o_callCN (q := 28) (W := 1) (k' := 2) (n' := 2) (st := [.ref mm]) (argsL := [.ref r, .int 0]) (b' := b7) (a := mm) (host := "com/example/waypost/waypost/network/Message") A5 (rm7 l Z a0 hw mm r 0 h4 n0 (Emm.ext X2) (M1.ext X2) (M2.ext X2) gm) d4_25 rfl (hw _ (List.mem_of_getElem? (i := 52) rfl)) (hw _ (List.mem_of_getElem? (i := 53) rfl)) (hw _ (List.mem_of_getElem? (i := 19) rfl)) (hw _ (List.mem_of_getElem? (i := 54) rfl)) rfl (by decide) pd7 rfl rfl rfl rfl rfl (by decide) (by decide) rfl rfl (by decide) (by decide) rfl (fun v6 T6 h6 A6 hQ6 => ?_)
  obtain ⟨rfl, Kc, R⟩ := hQ6
  show oFin _ _ _ _ T6 28 #[.val (.ref bb)] [.ref mm]
  have X9 := o_extr X1 X2
  exact o_retA A6 rfl rfl rfl d4_28 (by decide) (by decide) ⟨mm, rfl, o_ext ((show Keep h0 h4 [] from ⟨X9.1, fun x c q _ => X9.2 x c q, fun x c q => ⟨c, X9.2 x c q, rfl, rfl, rfl⟩⟩).trans Kc (fun x hx => by cases List.mem_singleton.mp hx; exact Or.inr (by rw [gmm]; exact Nat.le_refl _))), R⟩
set_option maxRecDepth 65536 in
set_option maxHeartbeats 40000000 in
theorem rm9 (l : Launch) (Z : State) (a0 : Array Value) (hw : ∀ d ∈ tables_1, d.before a0 Z = true) (pm ma pa : Addr) (d : Nat) (ms : Nat → Value) (ps : Nat → Int32) (cnt : Int32) (mm : Addr) (x : Int32) (p K : Nat) (h0 : Heap) (n0 : Nat) (S : own_S Z n0 h0 pm ma pa d ms ps cnt) (Em : Exa Z h0 mm "com/example/waypost/waypost/network/Message") (hx : x.toInt = (p : Int)) (hp : p < d) (hc : cnt.toInt = (K : Int)) (hK : K < d) :
    oMet l b9 [] Z n0 #[.ref pm, .int x, .ref mm] h0 (fun v h' => v = none ∧ own_S Z n0 h' pm ma pa d (fun i => if i = p then .ref mm else ms i) (fun j => if j = K then x else ps j) (cnt + 1) ∧ Exa Z h' mm "com/example/waypost/waypost/network/Message") := by
  refine o_enter pn9 (Ls := #[.val (.ref pm), .val (.int x), .val (.ref mm)]) (fun m => by first | (simp [entryFrame, mkF, argsToLocals, Value.category, oBd.maxL, b9]; done) | rfl) ?_
  intro w T0 A0
  refine o_aloadN (q := 1) A0 d9_0 rfl rfl rfl ?_
  refine o_getF (q := 4) A0 d9_1 (hw _ (List.mem_of_getElem? (i := 12) rfl)) S.2.1 rfl (fun T1 A1 => ?_)
  refine o_iloadN (q := 5) A1 d9_4 rfl rfl ?_
  refine o_aloadN (q := 6) A1 d9_5 rfl rfl rfl ?_
  refine o_aastore (q := 7) (m := d) (i := p) A1 d9_6 S.2.2.2.2.1 S.2.2.2.2.2.1 (Or.inr ⟨mm, rfl, Ins.self Em⟩) hx hp S.2.2.2.2.2.2.2.2.2.1 rfl (fun T2 h2 A2 W2 => ?_)
  have S1 := S.wm W2
  have Em1 := Em.wr W2
  refine o_aloadN (q := 8) A2 d9_7 rfl rfl rfl ?_
  refine o_getF (q := 11) A2 d9_8 (hw _ (List.mem_of_getElem? (i := 15) rfl)) S1.2.2.1 rfl (fun T3 A3 => ?_)
  refine o_aloadN (q := 12) A3 d9_11 rfl rfl rfl ?_
  refine o_dup (q := 13) A3 d9_12 rfl rfl ?_
  refine o_getF (q := 16) A3 d9_13 (hw _ (List.mem_of_getElem? (i := 70) rfl)) S1.2.2.2.1 rfl (fun T4 A4 => ?_)
  refine o_dupX1 (q := 17) A4 d9_16 rfl rfl rfl ?_
  refine o_iconst (q := 18) (z := 1) A4 d9_17 rfl rfl ?_
  refine o_iadd (q := 19) A4 d9_18 rfl ?_
  refine o_putF (q := 22) A4 d9_19 (hw _ (List.mem_of_getElem? (i := 70) rfl)) S1.2.2.2.1 S1.1 (Or.inl (hw _ (List.mem_of_getElem? (i := 71) rfl))) (hw _ (List.mem_of_getElem? (i := 2) rfl)) (ty := .int) (by decide) rfl rfl S1.2.2.2.2.2.2.2.2.1 rfl (fun T5 h5 A5 W5 => ?_)
  have S2 := S1.wc hw W5
  have Em2 := Em1.wr W5
  refine o_iloadN (q := 23) A5 d9_22 rfl rfl ?_
  refine o_iastore (q := 24) (m := d) (i := K) A5 d9_23 S2.2.2.2.2.2.2.1 hc hK S2.2.2.2.2.2.2.2.2.2.2 rfl (fun T6 h6 A6 W6 => ?_)
  exact o_retV A6 rfl d9_24 (by decide) (by decide) ⟨rfl, S2.wp W6, Em2.wr W6⟩
set_option maxRecDepth 65536 in
set_option maxHeartbeats 40000000 in
theorem rm8 (l : Launch) (Z : State) (a0 : Array Value) (hw : ∀ d ∈ tables_1, d.before a0 Z = true) (pm ma pa mm : Addr) (di si ii wh : Int32) (d s i : Nat) (h0 : Heap) (n0 : Nat) (F : own_F Z n0 h0 pm ma pa mm d i) (hd : di.toInt = (d : Int)) (hs : si.toInt = (s : Int)) (hi : ii.toInt = (i : Int)) (hd1 : 1 ≤ d) (hd4 : d ≤ 4) (hs4 : s < 4) (hi4 : i < 4) :
    oMet l b8 [] Z n0 #[.ref pm, .ref mm, .int di, .int si, .int ii, .int wh] h0 (fun v h' => v = none ∧ own_F Z n0 h' pm ma pa mm d (i + 1)) := by
  refine o_enter pn8 (Ls := #[.val (.ref pm), .val (.ref mm), .val (.int di), .val (.int si), .val (.int ii), .val (.int wh)]) (fun m => by first | (simp [entryFrame, mkF, argsToLocals, Value.category, oBd.maxL, b8]; done) | rfl) ?_
  intro w T0 A0
  refine o_iload (q := 2) A0 d8_0 rfl rfl ?_
  refine o_iloadN (q := 3) A0 d8_2 rfl rfl ?_
  refine o_icmp (q := 27) (q' := 6) A0 d8_3 (by decide) (by decide) rfl (fun hc => ?_) (fun hc => ?_)
  · replace hc : di ≤ ii := hc
    exact o_retV A0 rfl d8_27 (by decide) (by decide) ⟨rfl, by obtain ⟨ms, ps, cnt, K, f1, f2, f3, f4⟩ := F; exact ⟨ms, ps, cnt, K, f1, f2, Nat.le_succ_of_le f3, f4⟩⟩
  · replace hc : ¬ (di ≤ ii) := hc
    rw [Int32.le_iff_toInt_le, hd, hi] at hc
    refine o_iload (q := 8) A0 d8_6 rfl rfl ?_
    refine o_iload (q := 10) A0 d8_8 rfl rfl ?_
    refine o_iushr (q := 11) A0 d8_10 rfl ?_
    refine o_iconst (q := 12) (z := 1) A0 d8_11 rfl rfl ?_
    refine o_iand (q := 13) A0 d8_12 rfl ?_
    refine o_if (q := 27) (q' := 16) A0 d8_13 (by decide) (by decide) rfl (fun hb => ?_) (fun hb => ?_)
    · replace hb : (((wh).toUInt32 >>> (ii &&& 31).toUInt32).toInt32 &&& (1 : Int32)) = (0 : Int32) := hb
      exact o_retV A0 rfl d8_27 (by decide) (by decide) ⟨rfl, by obtain ⟨ms, ps, cnt, K, f1, f2, f3, f4⟩ := F; exact ⟨ms, ps, cnt, K, f1, f2, Nat.le_succ_of_le f3, f4⟩⟩
    · replace hb : ¬ ((((wh).toUInt32 >>> (ii &&& 31).toUInt32).toInt32 &&& (1 : Int32)) = (0 : Int32)) := hb
      obtain ⟨ms, ps, cnt, K, f1, f2, f3, f4, f5⟩ := F
      refine o_aloadN (q := 17) A0 d8_16 rfl rfl rfl ?_
      refine o_iloadN (q := 18) A0 d8_17 rfl rfl ?_
      refine o_iload (q := 20) A0 d8_18 rfl rfl ?_
      refine o_iadd (q := 21) A0 d8_20 rfl ?_
      refine o_iloadN (q := 22) A0 d8_21 rfl rfl ?_
      have hsi : 0 ≤ (si + ii).toInt := by rw [Jvm.Kit.i32_add (by omega) (by omega)]; omega
      obtain ⟨p, hp, hx⟩ := own_rem hsi hd hd1
      refine o_irem (q := 23) A0 d8_22 (own_nz hd hd1) rfl ?_
      generalize ((si + ii) % di) = x at hx ⊢
      show oFin _ _ _ _ T0 23 #[.val (.ref pm), .val (.ref mm), .val (.int di), .val (.int si), .val (.int ii), .val (.int wh)] [.int x, .ref pm]
      refine o_aloadN (q := 24) A0 d8_23 rfl rfl rfl ?_
      refine o_callV (q := 27) (W := 0) (k' := 0) (n' := 0) (st := []) (argsL := [.int x, .ref mm]) (b' := b9) A0 (rm9 l Z a0 hw pm ma pa d ms ps cnt mm x p K h0 n0 f1 f5 hx hp f2 (by omega)) d8_24 f1.1 (hw _ (List.mem_of_getElem? (i := 64) rfl)) (hw _ (List.mem_of_getElem? (i := 65) rfl)) (hw _ (List.mem_of_getElem? (i := 67) rfl)) (hw _ (List.mem_of_getElem? (i := 66) rfl)) (hw _ (List.mem_of_getElem? (i := 3) rfl)) (hw _ (List.mem_of_getElem? (i := 68) rfl)) (by decide) pd9 rfl rfl rfl rfl rfl (by decide) (by decide) rfl rfl (by decide) (by decide) rfl (fun v1 T1 h1 A1 hQ1 => ?_)
      obtain ⟨rfl, S1, Em1⟩ := hQ1
      show oFin _ _ _ _ T1 27 #[.val (.ref pm), .val (.ref mm), .val (.int di), .val (.int si), .val (.int ii), .val (.int wh)] []
      exact o_retV A1 rfl d8_27 (by decide) (by decide) ⟨rfl, _, _, _, K + 1, S1, own_inc f2 (by omega), by omega, own_put f4 (by omega) hp hx, Em1⟩
set_option maxRecDepth 65536 in
set_option maxHeartbeats 40000000 in
theorem loop10 (l : Launch) (Z : State) (a0 : Array Value) (hw : ∀ d ∈ tables_1, d.before a0 Z = true) (pm ma pa : Addr) (d : Nat) (hd4 : d ≤ 4) (ps : Nat → Int32) (cnt : Int32) (K : Nat) (hc : cnt.toInt = (K : Int)) (n0 : Nat) (w : oWd) :
    ∀ (r i : Nat) (z : Int32) (T0 : State) (h : Heap) (ms : Nat → Value), i + r = K → z.toInt = (i : Int) → oPos l Z n0 w b10 T0 h 0 0 → own_S Z n0 h pm ma pa d ms ps cnt → own_I d K i ms ps → oFin w b10 n0 (fun v h' => v = none ∧ ∃ ps, own_S Z n0 h' pm ma pa d (fun _ => .null) ps 0) T0 2 #[.val (.ref pm), .val (.int z)] [] := by
  intro r
  induction r with
  | zero =>
    intro i z T0 h ms hr hz A0 S I
    refine o_iloadN (q := 3) A0 d10_2 rfl rfl ?_
    refine o_aloadN (q := 4) A0 d10_3 rfl rfl rfl ?_
    refine o_getF (q := 7) A0 d10_4 (hw _ (List.mem_of_getElem? (i := 70) rfl)) S.2.2.2.1 rfl (fun T1 A1 => ?_)
    refine o_icmp (q := 28) (q' := 10) A1 d10_7 (by decide) (by decide) rfl (fun he => ?_) (fun he => ?_)
    · replace he : cnt ≤ z := he
      rw [Int32.le_iff_toInt_le, hc, hz] at he
      have ei : i = K := by omega
      refine o_aloadN (q := 29) A1 d10_28 rfl rfl rfl ?_
      refine o_iconst (q := 30) (z := 0) A1 d10_29 rfl rfl ?_
      refine o_putF (q := 33) A1 d10_30 (hw _ (List.mem_of_getElem? (i := 70) rfl)) S.2.2.2.1 S.1 (Or.inl (hw _ (List.mem_of_getElem? (i := 71) rfl))) (hw _ (List.mem_of_getElem? (i := 2) rfl)) (ty := .int) (by decide) rfl rfl S.2.2.2.2.2.2.2.2.1 rfl (fun T2 h2 A2 W2 => ?_)
      have S2 := S.wc hw W2
      obtain ⟨s1, s2, s3, s4, s5, s6⟩ := S2
      exact o_retV A2 rfl d10_33 (by decide) (by decide) ⟨rfl, ps, s1, s2, s3, s4, s5.congr fun p hp => (I.2.2 p hp).elim id fun ⟨j, j1, j2, _⟩ => absurd j2 (by omega), s6⟩
    · replace he : ¬ (cnt ≤ z) := he
      rw [Int32.le_iff_toInt_le, hc, hz] at he
      omega
  | succ r ih =>
    intro i z T0 h ms hr hz A0 S I
    refine o_iloadN (q := 3) A0 d10_2 rfl rfl ?_
    refine o_aloadN (q := 4) A0 d10_3 rfl rfl rfl ?_
    refine o_getF (q := 7) A0 d10_4 (hw _ (List.mem_of_getElem? (i := 70) rfl)) S.2.2.2.1 rfl (fun T1 A1 => ?_)
    refine o_icmp (q := 28) (q' := 10) A1 d10_7 (by decide) (by decide) rfl (fun he => ?_) (fun he => ?_)
    · replace he : cnt ≤ z := he
      rw [Int32.le_iff_toInt_le, hc, hz] at he
      have ei : i = K := by omega
      refine o_aloadN (q := 29) A1 d10_28 rfl rfl rfl ?_
      refine o_iconst (q := 30) (z := 0) A1 d10_29 rfl rfl ?_
      refine o_putF (q := 33) A1 d10_30 (hw _ (List.mem_of_getElem? (i := 70) rfl)) S.2.2.2.1 S.1 (Or.inl (hw _ (List.mem_of_getElem? (i := 71) rfl))) (hw _ (List.mem_of_getElem? (i := 2) rfl)) (ty := .int) (by decide) rfl rfl S.2.2.2.2.2.2.2.2.1 rfl (fun T2 h2 A2 W2 => ?_)
      have S2 := S.wc hw W2
      obtain ⟨s1, s2, s3, s4, s5, s6⟩ := S2
      exact o_retV A2 rfl d10_33 (by decide) (by decide) ⟨rfl, ps, s1, s2, s3, s4, s5.congr fun p hp => (I.2.2 p hp).elim id fun ⟨j, j1, j2, _⟩ => absurd j2 (by omega), s6⟩
    · replace he : ¬ (cnt ≤ z) := he
      rw [Int32.le_iff_toInt_le, hc, hz] at he
      refine o_aloadN (q := 11) A1 d10_10 rfl rfl rfl ?_
      refine o_getF (q := 14) A1 d10_11 (hw _ (List.mem_of_getElem? (i := 12) rfl)) S.2.1 rfl (fun T3 A3 => ?_)
      refine o_aloadN (q := 15) A3 d10_14 rfl rfl rfl ?_
      refine o_getF (q := 18) A3 d10_15 (hw _ (List.mem_of_getElem? (i := 15) rfl)) S.2.2.1 rfl (fun T4 A4 => ?_)
      refine o_iloadN (q := 19) A4 d10_18 rfl rfl ?_
      have iK : i < K := by omega
      obtain ⟨p, hp, hx⟩ := I.2.1 i iK
      refine o_iaload (q := 20) (m := d) (i := i) (v := .int (ps i)) A4 d10_19 S.2.2.2.2.2.2.1 hz (by have := I.1; omega) rfl rfl ?_
      refine o_aconstNull (q := 21) A4 d10_20 rfl ?_
      refine o_aastore (q := 22) (m := d) (i := p) A4 d10_21 S.2.2.2.2.1 S.2.2.2.2.2.1 (Or.inl rfl) hx hp S.2.2.2.2.2.2.2.2.2.1 rfl (fun T5 h5 A5 W5 => ?_)
      refine o_iinc (q := 25) (z := (z + (1 : Int32))) (Ls' := #[.val (.ref pm), .val (.int (z + (1 : Int32)))]) A5 d10_22 rfl rfl rfl rfl ?_
      refine o_goto (q := 2) A5 d10_25 (by decide) (by decide) ?_
      exact ih (i + 1) (z + 1) T5 h5 _ (by omega) (own_inc hz (by have := I.1; omega)) A5 (S.wm W5) (own_clr I hx)
set_option maxRecDepth 65536 in
set_option maxHeartbeats 40000000 in
theorem rm10 (l : Launch) (Z : State) (a0 : Array Value) (hw : ∀ d ∈ tables_1, d.before a0 Z = true) (pm ma pa mm : Addr) (d i : Nat) (h0 : Heap) (n0 : Nat) (F : own_F Z n0 h0 pm ma pa mm d i) (hd4 : d ≤ 4) :
    oMet l b10 [] Z n0 #[.ref pm] h0 (fun v h' => v = none ∧ ∃ ps, own_S Z n0 h' pm ma pa d (fun _ => .null) ps 0) := by
  refine o_enter pn10 (Ls := #[.val (.ref pm), .unset]) (fun m => by first | (simp [entryFrame, mkF, argsToLocals, Value.category, oBd.maxL, b10]; done) | rfl) ?_
  intro w T0 A0
  obtain ⟨ms, ps, cnt, K, f1, f2, f3, f4, f5⟩ := F
  refine o_iconst (q := 1) (z := 0) A0 d10_0 rfl rfl ?_
  refine o_istoreN (q := 2) (Ls' := #[.val (.ref pm), .val (.int (0 : Int32))]) A0 d10_1 rfl rfl ?_
  exact loop10 l Z a0 hw pm ma pa d hd4 ps cnt K f2 n0 w K 0 0 T0 h0 ms (Nat.zero_add K) (by decide) A0 f1 f4
set_option maxRecDepth 65536 in
set_option maxHeartbeats 40000000 in
theorem rm11 (l : Launch) (Z : State) (a0 : Array Value) (hw : ∀ d ∈ tables_1, d.before a0 Z = true) (pm ma pa : Addr) (d : Nat) (ms : Nat → Value) (ps : Nat → Int32) (cnt : Int32) (h0 : Heap) (n0 : Nat) (S : own_S Z n0 h0 pm ma pa d ms ps cnt) :
    oMet l b11 [] Z n0 #[.ref pm] h0 (fun v h' => v = some (.int cnt) ∧ h' = h0) := by
  refine o_enter pn11 (Ls := #[.val (.ref pm)]) (fun m => by first | (simp [entryFrame, mkF, argsToLocals, Value.category, oBd.maxL, b11]; done) | rfl) ?_
  intro w T0 A0
  refine o_aloadN (q := 1) A0 d11_0 rfl rfl rfl ?_
  refine o_getF (q := 4) A0 d11_1 (hw _ (List.mem_of_getElem? (i := 70) rfl)) S.2.2.2.1 rfl (fun T1 A1 => ?_)
  exact o_retI A1 rfl d11_4 (by decide) (by decide) ⟨rfl, rfl⟩
set_option maxRecDepth 65536 in
set_option maxHeartbeats 40000000 in
theorem rm13 (l : Launch) (Z : State) (a0 : Array Value) (hw : ∀ d ∈ tables_1, d.before a0 Z = true) (pm ma pa : Addr) (d : Nat) (ps : Nat → Int32) (cnt : Int32) (x : Int32) (p : Nat) (h0 : Heap) (n0 : Nat) (S : own_S Z n0 h0 pm ma pa d (fun _ => .null) ps cnt) (hx : x.toInt = (p : Int)) (hp : p < d) :
    oMet l b13 [] Z n0 #[.ref pm, .int x] h0 (fun v h' => v = some .null ∧ h' = h0) := by
  refine o_enter pn13 (Ls := #[.val (.ref pm), .val (.int x)]) (fun m => by first | (simp [entryFrame, mkF, argsToLocals, Value.category, oBd.maxL, b13]; done) | rfl) ?_
  intro w T0 A0
  refine o_aloadN (q := 1) A0 d13_0 rfl rfl rfl ?_
  refine o_getF (q := 4) A0 d13_1 (hw _ (List.mem_of_getElem? (i := 12) rfl)) S.2.1 rfl (fun T1 A1 => ?_)
  refine o_iloadN (q := 5) A1 d13_4 rfl rfl ?_
  refine o_aaload (q := 6) (m := d) (i := p) (v := .null) A1 d13_5 S.2.2.2.2.1 rfl hx hp rfl rfl ?_
  exact o_retA A1 rfl rfl rfl d13_6 (by decide) (by decide) ⟨rfl, rfl⟩
set_option maxRecDepth 65536 in
set_option maxHeartbeats 40000000 in
theorem rm12 (l : Launch) (Z : State) (a0 : Array Value) (hw : ∀ d ∈ tables_1, d.before a0 Z = true) (pm ma pa : Addr) (d : Nat) (ps : Nat → Int32) (cnt : Int32) (di x : Int32) (p : Nat) (h0 : Heap) (n0 : Nat) (S : own_S Z n0 h0 pm ma pa d (fun _ => .null) ps cnt) (hd : di.toInt = (d : Int)) (hx : x.toInt = (p : Int)) :
    oMet l b12 [] Z n0 #[.ref pm, .int di, .int x] h0 (fun v h' => v = some (.int 1) ∧ h' = h0) := by
  refine o_enter pn12 (Ls := #[.val (.ref pm), .val (.int di), .val (.int x)]) (fun m => by first | (simp [entryFrame, mkF, argsToLocals, Value.category, oBd.maxL, b12]; done) | rfl) ?_
  intro w T0 A0
  refine o_iloadN (q := 1) A0 d12_0 rfl rfl ?_
  refine o_iloadN (q := 2) A0 d12_1 rfl rfl ?_
  refine o_icmp (q := 13) (q' := 5) A0 d12_2 (by decide) (by decide) rfl (fun hc => ?_) (fun hc => ?_)
  · replace hc : di ≤ x := hc
    refine o_iconst (q := 14) (z := 1) A0 d12_13 rfl rfl ?_
    refine o_goto (q := 18) A0 d12_14 (by decide) (by decide) ?_
    exact o_retN A0 rfl (by simp) d12_18 (by decide) (by decide) ⟨rfl, rfl⟩
  · replace hc : ¬ (di ≤ x) := hc
    rw [Int32.le_iff_toInt_le, hd, hx] at hc
    refine o_aloadN (q := 6) A0 d12_5 rfl rfl rfl ?_
    refine o_iloadN (q := 7) A0 d12_6 rfl rfl ?_
    refine o_callV (q := 10) (W := 0) (k' := 0) (n' := 0) (st := []) (argsL := [.int x]) (b' := b13) A0 (rm13 l Z a0 hw pm ma pa d ps cnt x p h0 n0 S hx (by omega)) d12_7 S.1 (hw _ (List.mem_of_getElem? (i := 85) rfl)) (hw _ (List.mem_of_getElem? (i := 86) rfl)) (hw _ (List.mem_of_getElem? (i := 88) rfl)) (hw _ (List.mem_of_getElem? (i := 87) rfl)) (hw _ (List.mem_of_getElem? (i := 3) rfl)) (hw _ (List.mem_of_getElem? (i := 89) rfl)) (by decide) pd13 rfl rfl rfl rfl rfl (by decide) (by decide) rfl rfl (by decide) (by decide) rfl (fun v1 T1 h1 A1 hQ1 => ?_)
    obtain ⟨rfl, rfl⟩ := hQ1
    show oFin _ _ _ _ T1 10 #[.val (.ref pm), .val (.int di), .val (.int x)] [.null]
    refine o_ifnonnullN (q := 13) A1 d12_10 rfl ?_
    refine o_iconst (q := 14) (z := 1) A1 d12_13 rfl rfl ?_
    refine o_goto (q := 18) A1 d12_14 (by decide) (by decide) ?_
    exact o_retN A1 rfl (by simp) d12_18 (by decide) (by decide) ⟨rfl, rfl⟩
set_option maxRecDepth 65536 in
set_option maxHeartbeats 40000000 in
theorem rm0 (l : Launch) (Z : State) (a0 : Array Value) (hw : ∀ d ∈ tables_1, d.before a0 Z = true) (ws : List Jvm.Cond) (q1 q2 q3 : Int32) (h0 : Heap) (n0 : Nat) (Z0 : n0 ≤ h0.size) :
    oMet l b0 ws Z n0 #[.int q1, .int q2, .int q3] h0 (fun v h' => v = some (.int 1)) := by
  refine o_enter pn0 (Ls := #[.val (.int q1), .val (.int q2), .val (.int q3), .unset, .unset, .unset, .unset]) (fun m => by first | (simp [entryFrame, mkF, argsToLocals, Value.category, oBd.maxL, b0, maxLocals]; done) | rfl) ?_
  intro w T0 A0
  refine o_iloadN (q := 1) A0 at_0 rfl rfl ?_
  refine o_iconst (q := 2) (z := 3) A0 at_1 rfl rfl ?_
  refine o_iand (q := 3) A0 at_2 rfl ?_
  refine o_iconst (q := 4) (z := 1) A0 at_3 rfl rfl ?_
  refine o_iadd (q := 5) A0 at_4 rfl ?_
  obtain ⟨d, hd1, hd4, hd⟩ := own_d q1
  generalize ((q1 &&& (3 : Int32)) + (1 : Int32)) = di at hd ⊢
  show oFin _ _ _ _ T0 5 #[.val (.int q1), .val (.int q2), .val (.int q3), .unset, .unset, .unset, .unset] [.int di]
  refine o_istoreN (q := 6) (Ls' := #[.val (.int q1), .val (.int q2), .val (.int q3), .val (.int di), .unset, .unset, .unset]) A0 at_5 rfl rfl ?_
  refine o_iloadN (q := 7) A0 at_6 rfl rfl ?_
  refine o_ldc (q := 9) A0 at_7 (hw _ (List.mem_of_getElem? (i := 0) rfl)) rfl ?_
  refine o_iand (q := 10) A0 at_9 rfl ?_
  refine o_iloadN (q := 11) A0 at_10 rfl rfl ?_
  refine o_irem (q := 12) A0 at_11 (own_nz hd hd1) rfl ?_
  obtain ⟨s, hsd, hs⟩ := own_rem (own_m31 q3) hd hd1
  generalize ((q3 &&& (2147483647 : Int32)) % di) = si at hs ⊢
  show oFin _ _ _ _ T0 12 #[.val (.int q1), .val (.int q2), .val (.int q3), .val (.int di), .unset, .unset, .unset] [.int si]
  refine o_istore (q := 14) (Ls' := #[.val (.int q1), .val (.int q2), .val (.int q3), .val (.int di), .val (.int si), .unset, .unset]) A0 at_12 rfl rfl ?_
  refine o_newO (q := 17) (k' := 1) (n' := 3) A0 at_14 (hw _ (List.mem_of_getElem? (i := 1) rfl)) (hw _ (List.mem_of_getElem? (i := 2) rfl)) (hw _ (List.mem_of_getElem? (i := 3) rfl)) rfl rfl (by decide) (by decide) rfl (fun T1 h1 pm gpm A1 X1 Epm Dpm => ?_)
  have F_messages : Fld Z h1 pm "com/example/waypost/waypost/network/PortMessages" "messages" "[Lcom/example/waypost/waypost/network/Message;" .null := Dpm (Or.inr (hw _ (List.mem_of_getElem? (i := 13) rfl))) (ty := .array (.object "com/example/waypost/waypost/network/Message")) (by decide)
  have F_ports : Fld Z h1 pm "com/example/waypost/waypost/network/PortMessages" "ports" "[I" .null := Dpm (Or.inr (hw _ (List.mem_of_getElem? (i := 16) rfl))) (ty := .array .int) (by decide)
  have F_count : Fld Z h1 pm "com/example/waypost/waypost/network/PortMessages" "count" "I" (.int 0) := Dpm (Or.inl (hw _ (List.mem_of_getElem? (i := 71) rfl))) (ty := .int) (by decide)
  have gp : n0 ≤ pm := by rw [gpm]; exact Z0
  have Z1 : n0 ≤ h1.size := Nat.le_trans Z0 X1.1
  refine o_dup (q := 18) A1 at_17 rfl rfl ?_
  refine o_iloadN (q := 19) A1 at_18 rfl rfl ?_
  refine o_callC (q := 22) (W := 1) (k' := 3) (n' := 11) (st := [.ref pm]) (argsL := [.int di]) (b' := b1) (a := pm) A1 (rm1 l Z a0 hw pm di d h1 n0 Z1 Epm F_messages F_ports F_count gp hd hd4) at_19 rfl (hw _ (List.mem_of_getElem? (i := 4) rfl)) (hw _ (List.mem_of_getElem? (i := 5) rfl)) (hw _ (List.mem_of_getElem? (i := 3) rfl)) (hw _ (List.mem_of_getElem? (i := 6) rfl)) rfl (by decide) pd1 rfl rfl rfl rfl rfl (by decide) (by decide) rfl rfl (by decide) (by decide) rfl (fun v2 T2 h2 A2 hQ2 => ?_)
  obtain ⟨rfl, ma, pa, S1⟩ := hQ2
  show oFin _ _ _ _ T2 22 #[.val (.int q1), .val (.int q2), .val (.int q3), .val (.int di), .val (.int si), .unset, .unset] [.ref pm]
  have Z2 : n0 ≤ h2.size := Nat.le_of_lt (Nat.lt_of_le_of_lt gp S1.1.lt)
  refine o_astore (q := 24) (Ls' := #[.val (.int q1), .val (.int q2), .val (.int q3), .val (.int di), .val (.int si), .val (.ref pm), .unset]) A2 at_22 rfl rfl rfl ?_
  refine o_callS (q := 27) (W := 0) (k' := 5) (n' := 14) (st := []) (argsL := []) (b' := b2) A2 (rm2 l Z a0 hw h2 n0 Z2) at_24 (hw _ (List.mem_of_getElem? (i := 17) rfl)) (hw _ (List.mem_of_getElem? (i := 18) rfl)) (hw _ (List.mem_of_getElem? (i := 19) rfl)) (hw _ (List.mem_of_getElem? (i := 20) rfl)) (by decide) pd2 rfl rfl rfl rfl rfl (by decide) (by decide) rfl rfl (by decide) (by decide) rfl (fun v3 T3 h3 A3 hQ3 => ?_)
  obtain ⟨bb, rfl, X3, Eb, wa, B1, B2, BV⟩ := hQ3
  show oFin _ _ _ _ T3 27 #[.val (.int q1), .val (.int q2), .val (.int q3), .val (.int di), .val (.int si), .val (.ref pm), .unset] [.ref bb]
  have Z3 := Nat.le_trans Z2 X3.1
  refine o_callV (q := 30) (W := 0) (k' := 7) (n' := 16) (st := []) (argsL := []) (b' := b4) A3 (rm4 l Z a0 hw bb wa h3 n0 Z3 B1 B2 BV) at_27 Eb (hw _ (List.mem_of_getElem? (i := 31) rfl)) (hw _ (List.mem_of_getElem? (i := 32) rfl)) (hw _ (List.mem_of_getElem? (i := 34) rfl)) (hw _ (List.mem_of_getElem? (i := 33) rfl)) (hw _ (List.mem_of_getElem? (i := 23) rfl)) (hw _ (List.mem_of_getElem? (i := 35) rfl)) (by decide) pd4 rfl rfl rfl rfl rfl (by decide) (by decide) rfl rfl (by decide) (by decide) rfl (fun v4 T4 h4 A4 hQ4 => ?_)
  obtain ⟨mm, rfl, X4, Em⟩ := hQ4
  show oFin _ _ _ _ T4 30 #[.val (.int q1), .val (.int q2), .val (.int q3), .val (.int di), .val (.int si), .val (.ref pm), .unset] [.ref mm]
  have F0 : own_F Z n0 h4 pm ma pa mm d 0 := ⟨_, _, 0, 0, (S1.ext X3).ext X4, by decide, Nat.le_refl _, ⟨Nat.zero_le _, fun j hj => absurd hj (Nat.not_lt_zero j), fun p hp => Or.inl rfl⟩, Em⟩
  refine o_astore (q := 32) (Ls' := #[.val (.int q1), .val (.int q2), .val (.int q3), .val (.int di), .val (.int si), .val (.ref pm), .val (.ref mm)]) A4 at_30 rfl rfl rfl ?_
  refine o_aload (q := 34) A4 at_32 rfl rfl rfl ?_
  refine o_aload (q := 36) A4 at_34 rfl rfl rfl ?_
  refine o_iloadN (q := 37) A4 at_36 rfl rfl ?_
  refine o_iload (q := 39) A4 at_37 rfl rfl ?_
  refine o_iconst (q := 40) (z := 0) A4 at_39 rfl rfl ?_
  refine o_iloadN (q := 41) A4 at_40 rfl rfl ?_
  refine o_callS (q := 44) (W := 0) (k' := 7) (n' := 16) (st := []) (argsL := [.ref pm, .ref mm, .int di, .int si, .int (0 : Int32), .int q2]) (b' := b8) A4 (rm8 l Z a0 hw pm ma pa mm di si 0 q2 d s 0 h4 n0 F0 hd hs (by decide) hd1 hd4 (by omega) (by decide)) at_41 (hw _ (List.mem_of_getElem? (i := 60) rfl)) (hw _ (List.mem_of_getElem? (i := 61) rfl)) (hw _ (List.mem_of_getElem? (i := 62) rfl)) (hw _ (List.mem_of_getElem? (i := 63) rfl)) (by decide) pd8 rfl rfl rfl rfl rfl (by decide) (by decide) rfl rfl (by decide) (by decide) rfl (fun v5 T5 h5 A5 hQ5 => ?_)
  obtain ⟨rfl, F1⟩ := hQ5
  show oFin _ _ _ _ T5 44 #[.val (.int q1), .val (.int q2), .val (.int q3), .val (.int di), .val (.int si), .val (.ref pm), .val (.ref mm)] []
  refine o_aload (q := 46) A5 at_44 rfl rfl rfl ?_
  refine o_aload (q := 48) A5 at_46 rfl rfl rfl ?_
  refine o_iloadN (q := 49) A5 at_48 rfl rfl ?_
  refine o_iload (q := 51) A5 at_49 rfl rfl ?_
  refine o_iconst (q := 52) (z := 1) A5 at_51 rfl rfl ?_
  refine o_iloadN (q := 53) A5 at_52 rfl rfl ?_
  refine o_callS (q := 56) (W := 0) (k' := 7) (n' := 16) (st := []) (argsL := [.ref pm, .ref mm, .int di, .int si, .int (1 : Int32), .int q2]) (b' := b8) A5 (rm8 l Z a0 hw pm ma pa mm di si 1 q2 d s 1 h5 n0 F1 hd hs (by decide) hd1 hd4 (by omega) (by decide)) at_53 (hw _ (List.mem_of_getElem? (i := 60) rfl)) (hw _ (List.mem_of_getElem? (i := 61) rfl)) (hw _ (List.mem_of_getElem? (i := 62) rfl)) (hw _ (List.mem_of_getElem? (i := 63) rfl)) (by decide) pd8 rfl rfl rfl rfl rfl (by decide) (by decide) rfl rfl (by decide) (by decide) rfl (fun v6 T6 h6 A6 hQ6 => ?_)
  obtain ⟨rfl, F2⟩ := hQ6
  show oFin _ _ _ _ T6 56 #[.val (.int q1), .val (.int q2), .val (.int q3), .val (.int di), .val (.int si), .val (.ref pm), .val (.ref mm)] []
  refine o_aload (q := 58) A6 at_56 rfl rfl rfl ?_
  refine o_aload (q := 60) A6 at_58 rfl rfl rfl ?_
  refine o_iloadN (q := 61) A6 at_60 rfl rfl ?_
  refine o_iload (q := 63) A6 at_61 rfl rfl ?_
  refine o_iconst (q := 64) (z := 2) A6 at_63 rfl rfl ?_
  refine o_iloadN (q := 65) A6 at_64 rfl rfl ?_
  refine o_callS (q := 68) (W := 0) (k' := 7) (n' := 16) (st := []) (argsL := [.ref pm, .ref mm, .int di, .int si, .int (2 : Int32), .int q2]) (b' := b8) A6 (rm8 l Z a0 hw pm ma pa mm di si 2 q2 d s 2 h6 n0 F2 hd hs (by decide) hd1 hd4 (by omega) (by decide)) at_65 (hw _ (List.mem_of_getElem? (i := 60) rfl)) (hw _ (List.mem_of_getElem? (i := 61) rfl)) (hw _ (List.mem_of_getElem? (i := 62) rfl)) (hw _ (List.mem_of_getElem? (i := 63) rfl)) (by decide) pd8 rfl rfl rfl rfl rfl (by decide) (by decide) rfl rfl (by decide) (by decide) rfl (fun v7 T7 h7 A7 hQ7 => ?_)
  obtain ⟨rfl, F3⟩ := hQ7
  show oFin _ _ _ _ T7 68 #[.val (.int q1), .val (.int q2), .val (.int q3), .val (.int di), .val (.int si), .val (.ref pm), .val (.ref mm)] []
  refine o_aload (q := 70) A7 at_68 rfl rfl rfl ?_
  refine o_aload (q := 72) A7 at_70 rfl rfl rfl ?_
  refine o_iloadN (q := 73) A7 at_72 rfl rfl ?_
  refine o_iload (q := 75) A7 at_73 rfl rfl ?_
  refine o_iconst (q := 76) (z := 3) A7 at_75 rfl rfl ?_
  refine o_iloadN (q := 77) A7 at_76 rfl rfl ?_
  refine o_callS (q := 80) (W := 0) (k' := 7) (n' := 16) (st := []) (argsL := [.ref pm, .ref mm, .int di, .int si, .int (3 : Int32), .int q2]) (b' := b8) A7 (rm8 l Z a0 hw pm ma pa mm di si 3 q2 d s 3 h7 n0 F3 hd hs (by decide) hd1 hd4 (by omega) (by decide)) at_77 (hw _ (List.mem_of_getElem? (i := 60) rfl)) (hw _ (List.mem_of_getElem? (i := 61) rfl)) (hw _ (List.mem_of_getElem? (i := 62) rfl)) (hw _ (List.mem_of_getElem? (i := 63) rfl)) (by decide) pd8 rfl rfl rfl rfl rfl (by decide) (by decide) rfl rfl (by decide) (by decide) rfl (fun v8 T8 h8 A8 hQ8 => ?_)
  obtain ⟨rfl, F4⟩ := hQ8
  show oFin _ _ _ _ T8 80 #[.val (.int q1), .val (.int q2), .val (.int q3), .val (.int di), .val (.int si), .val (.ref pm), .val (.ref mm)] []
  refine o_aload (q := 82) A8 at_80 rfl rfl rfl ?_
  have Epm4 : Exa Z h8 pm "com/example/waypost/waypost/network/PortMessages" := by obtain ⟨_, _, _, _, f1, _⟩ := F4; exact f1.1
  refine o_callV (q := 85) (W := 0) (k' := 7) (n' := 16) (st := []) (argsL := []) (b' := b10) A8 (rm10 l Z a0 hw pm ma pa mm d 4 h8 n0 F4 hd4) at_82 Epm4 (hw _ (List.mem_of_getElem? (i := 72) rfl)) (hw _ (List.mem_of_getElem? (i := 73) rfl)) (hw _ (List.mem_of_getElem? (i := 75) rfl)) (hw _ (List.mem_of_getElem? (i := 74) rfl)) (hw _ (List.mem_of_getElem? (i := 3) rfl)) (hw _ (List.mem_of_getElem? (i := 76) rfl)) (by decide) pd10 rfl rfl rfl rfl rfl (by decide) (by decide) rfl rfl (by decide) (by decide) rfl (fun v9 T9 h9 A9 hQ9 => ?_)
  obtain ⟨rfl, ps, S⟩ := hQ9
  show oFin _ _ _ _ T9 85 #[.val (.int q1), .val (.int q2), .val (.int q3), .val (.int di), .val (.int si), .val (.ref pm), .val (.ref mm)] []
  refine o_aload (q := 87) A9 at_85 rfl rfl rfl ?_
  refine o_callV (q := 90) (W := 0) (k' := 7) (n' := 16) (st := []) (argsL := []) (b' := b11) A9 (rm11 l Z a0 hw pm ma pa d _ ps 0 h9 n0 S) at_87 S.1 (hw _ (List.mem_of_getElem? (i := 77) rfl)) (hw _ (List.mem_of_getElem? (i := 78) rfl)) (hw _ (List.mem_of_getElem? (i := 80) rfl)) (hw _ (List.mem_of_getElem? (i := 79) rfl)) (hw _ (List.mem_of_getElem? (i := 3) rfl)) (hw _ (List.mem_of_getElem? (i := 81) rfl)) (by decide) pd11 rfl rfl rfl rfl rfl (by decide) (by decide) rfl rfl (by decide) (by decide) rfl (fun v10 T10 h10 A10 hQ10 => ?_)
  obtain ⟨rfl, rfl⟩ := hQ10
  show oFin _ _ _ _ T10 90 #[.val (.int q1), .val (.int q2), .val (.int q3), .val (.int di), .val (.int si), .val (.ref pm), .val (.ref mm)] [.int (0 : Int32)]
  refine o_if (q := 95) (q' := 93) A10 at_90 (by decide) (by decide) rfl (fun _ => ?_) (fun hc => absurd (show (0 : Int32) = 0 from rfl) hc)
  refine o_aload (q := 97) A10 at_95 rfl rfl rfl ?_
  refine o_iloadN (q := 98) A10 at_97 rfl rfl ?_
  refine o_iconst (q := 99) (z := 0) A10 at_98 rfl rfl ?_
  refine o_callS (q := 102) (W := 0) (k' := 7) (n' := 16) (st := []) (argsL := [.ref pm, .int di, .int (0 : Int32)]) (b' := b12) A10 (rm12 l Z a0 hw pm ma pa d ps 0 di 0 0 h10 n0 S hd (by decide)) at_99 (hw _ (List.mem_of_getElem? (i := 82) rfl)) (hw _ (List.mem_of_getElem? (i := 83) rfl)) (hw _ (List.mem_of_getElem? (i := 62) rfl)) (hw _ (List.mem_of_getElem? (i := 84) rfl)) (by decide) pd12 rfl rfl rfl rfl rfl (by decide) (by decide) rfl rfl (by decide) (by decide) rfl (fun v11 T11 h11 A11 hQ11 => ?_)
  obtain ⟨rfl, rfl⟩ := hQ11
  show oFin _ _ _ _ T11 102 #[.val (.int q1), .val (.int q2), .val (.int q3), .val (.int di), .val (.int si), .val (.ref pm), .val (.ref mm)] [.int (1 : Int32)]
  refine o_if (q := 139) (q' := 105) A11 at_102 (by decide) (by decide) rfl (fun hc => absurd (show (1 : Int32) = 0 from hc) (by decide)) (fun _ => ?_)
  refine o_aload (q := 107) A11 at_105 rfl rfl rfl ?_
  refine o_iloadN (q := 108) A11 at_107 rfl rfl ?_
  refine o_iconst (q := 109) (z := 1) A11 at_108 rfl rfl ?_
  refine o_callS (q := 112) (W := 0) (k' := 7) (n' := 16) (st := []) (argsL := [.ref pm, .int di, .int (1 : Int32)]) (b' := b12) A11 (rm12 l Z a0 hw pm ma pa d ps 0 di 1 1 h11 n0 S hd (by decide)) at_109 (hw _ (List.mem_of_getElem? (i := 82) rfl)) (hw _ (List.mem_of_getElem? (i := 83) rfl)) (hw _ (List.mem_of_getElem? (i := 62) rfl)) (hw _ (List.mem_of_getElem? (i := 84) rfl)) (by decide) pd12 rfl rfl rfl rfl rfl (by decide) (by decide) rfl rfl (by decide) (by decide) rfl (fun v12 T12 h12 A12 hQ12 => ?_)
  obtain ⟨rfl, rfl⟩ := hQ12
  show oFin _ _ _ _ T12 112 #[.val (.int q1), .val (.int q2), .val (.int q3), .val (.int di), .val (.int si), .val (.ref pm), .val (.ref mm)] [.int (1 : Int32)]
  refine o_if (q := 139) (q' := 115) A12 at_112 (by decide) (by decide) rfl (fun hc => absurd (show (1 : Int32) = 0 from hc) (by decide)) (fun _ => ?_)
  refine o_aload (q := 117) A12 at_115 rfl rfl rfl ?_
  refine o_iloadN (q := 118) A12 at_117 rfl rfl ?_
  refine o_iconst (q := 119) (z := 2) A12 at_118 rfl rfl ?_
  refine o_callS (q := 122) (W := 0) (k' := 7) (n' := 16) (st := []) (argsL := [.ref pm, .int di, .int (2 : Int32)]) (b' := b12) A12 (rm12 l Z a0 hw pm ma pa d ps 0 di 2 2 h12 n0 S hd (by decide)) at_119 (hw _ (List.mem_of_getElem? (i := 82) rfl)) (hw _ (List.mem_of_getElem? (i := 83) rfl)) (hw _ (List.mem_of_getElem? (i := 62) rfl)) (hw _ (List.mem_of_getElem? (i := 84) rfl)) (by decide) pd12 rfl rfl rfl rfl rfl (by decide) (by decide) rfl rfl (by decide) (by decide) rfl (fun v13 T13 h13 A13 hQ13 => ?_)
  obtain ⟨rfl, rfl⟩ := hQ13
  show oFin _ _ _ _ T13 122 #[.val (.int q1), .val (.int q2), .val (.int q3), .val (.int di), .val (.int si), .val (.ref pm), .val (.ref mm)] [.int (1 : Int32)]
  refine o_if (q := 139) (q' := 125) A13 at_122 (by decide) (by decide) rfl (fun hc => absurd (show (1 : Int32) = 0 from hc) (by decide)) (fun _ => ?_)
  refine o_aload (q := 127) A13 at_125 rfl rfl rfl ?_
  refine o_iloadN (q := 128) A13 at_127 rfl rfl ?_
  refine o_iconst (q := 129) (z := 3) A13 at_128 rfl rfl ?_
  refine o_callS (q := 132) (W := 0) (k' := 7) (n' := 16) (st := []) (argsL := [.ref pm, .int di, .int (3 : Int32)]) (b' := b12) A13 (rm12 l Z a0 hw pm ma pa d ps 0 di 3 3 h13 n0 S hd (by decide)) at_129 (hw _ (List.mem_of_getElem? (i := 82) rfl)) (hw _ (List.mem_of_getElem? (i := 83) rfl)) (hw _ (List.mem_of_getElem? (i := 62) rfl)) (hw _ (List.mem_of_getElem? (i := 84) rfl)) (by decide) pd12 rfl rfl rfl rfl rfl (by decide) (by decide) rfl rfl (by decide) (by decide) rfl (fun v14 T14 h14 A14 hQ14 => ?_)
  obtain ⟨rfl, rfl⟩ := hQ14
  show oFin _ _ _ _ T14 132 #[.val (.int q1), .val (.int q2), .val (.int q3), .val (.int di), .val (.int si), .val (.ref pm), .val (.ref mm)] [.int (1 : Int32)]
  refine o_if (q := 139) (q' := 135) A14 at_132 (by decide) (by decide) rfl (fun hc => absurd (show (1 : Int32) = 0 from hc) (by decide)) (fun _ => ?_)
  refine o_iconst (q := 136) (z := 1) A14 at_135 rfl rfl ?_
  refine o_goto (q := 140) A14 at_136 (by decide) (by decide) ?_
  exact o_retN A14 rfl (by simp) at_140 (by decide) (by decide) rfl
set_option maxRecDepth 65536 in
set_option maxHeartbeats 40000000 in
theorem comes_1 {Post : Tables → Env → Array Value → State → Outcome → State → Prop} (hpost : ∀ tb e args s v u, (limb_1_1.after args s (.returned v) u = true ∧ limb_1_2.after args s (.returned v) u = true ∧ True) → FrameEnd s (.returned v) u (Jvm.fieldLocs frame_1_writes args s ++ Jvm.arrayLocs frame_1_arrays args s ++ Jvm.staticLocs frame_1_statics s) 24 128 → Post tb e args s (.returned v) u) :
    ArmFor flags0 classFile x code maxLocals ret World_1 tables_1 room_1 Calls_1 rest_1 Pre_1 Post := by
  intro l hfl _ _ p e ha hc hk s m args below hf hA hF happ hP
  obtain ⟨hcalls, hrest, hpre⟩ := hP
  obtain ⟨-, -, -, hnamed, -, -, -, hat⟩ := (Spec.applies_iff hf).mp happ
  obtain ⟨hg, hn⟩ := and_e (Cond.before_iff.mp (show (Jvm.Cond.and given_1 narrow_1).before args s = true from hpre))
  obtain ⟨hcnt, g0⟩ := and_e hg
  obtain ⟨a0, g1⟩ := and_e g0
  obtain ⟨a1, g2⟩ := and_e g1
  obtain ⟨w0, w1, w2, rfl⟩ : ∃ w0 w1 w2 : Value, args = #[w0, w1, w2] := by
    have hs : args.size = 3 := by simpa [Cond.value, given_1] using hcnt
    obtain ⟨L⟩ := args
    match L, hs with
    | [w0, w1, w2], _ => exact ⟨w0, w1, w2, rfl⟩
  have hw := fun d (hd : d ∈ tables_1) => atoms_spec (ws := Jvm.Cond.code x code maxLocals ret :: tables_1) hat d (List.mem_cons_of_mem _ hd)
  obtain ⟨i0, ei0⟩ := is_v a0
  obtain rfl : w0 = (.int i0) := Option.some.inj ei0
  obtain ⟨i1, ei1⟩ := is_v a1
  obtain rfl : w1 = (.int i1) := Option.some.inj ei1
  obtain ⟨i2, ei2⟩ := is_v g2
  obtain rfl : w2 = (.int i2) := Option.some.inj ei2
  obtain ⟨n, o, h1, h2, h3, _, L, rfl, ⟨rfl, N⟩, hq⟩ := rm0 l s _ hw tables_1 i0 i1 i2 s.heap s.heap.size (Nat.le_refl _) p e ha hc hk s m _ below hf ((Spec.applies_iff_loose hf).mp happ).1 ⟨rfl, State.Warmed39.refl s, rfl⟩ trivial
  refine ⟨n, _, h1, h2, h3, hpost _ _ _ _ _ _ ⟨Cond.after_iff.mpr rfl, Cond.after_iff.mpr (eq_i res_at (Term.int_eval (1)) rfl), trivial⟩ ⟨hq.1, hq.2.1, (hq.2.2.sift fun y hy => Or.inr (N y hy)).mono (by decide) (by decide)⟩⟩
theorem main_1_1 : Claimed_1_1 := comes_1 fun _ _ _ _ _ _ h hF => ⟨h.1, hF⟩
theorem main_1_2 : Claimed_1_2 := comes_1 fun _ _ _ _ _ _ h hF => ⟨h.2.1, hF⟩
end Jvm.Pilot.@@N@@
namespace Jvm.Pilot.@@N@@
open Jvm Jvm.ClassFile Sem Op Lib Jvm.Free Jvm.Stand Jvm.Pilot.@@N@@.Jvm.D
/-! MADE BY PROGRAM (witnessworld.py) out of the Statement's table words and the real class files: 17 classes; the members and pool entries that the words name. The judged class is class 1, her method 1. -/
namespace start1
open Jvm.ClassFile
def u (s : String) : CpInfo := .utf8 (stringToUtf16 s)
/-- a pool by its gaps: so many unusable entries, then the entry; so many at the end -/
def gap : Nat → List CpInfo → List CpInfo
  | 0, r => r
  | n + 1, r => .unusable :: gap n r
def poolList (es : List (Nat × CpInfo)) (last : Nat) : List CpInfo := es.foldr (fun e r => gap e.1 (e.2 :: r)) (gap last [])
def pool (es : List (Nat × CpInfo)) (last : Nat) : Array CpInfo := ⟨poolList es last⟩
def fileOf (pool : Array CpInfo) (this : Nat) (attrs : Array Attribute := #[]) (ms : Array MethodInfo := #[]) (fl : Nat := 33) (sup : Nat := 0) (ifs : Array Nat := #[]) (fds : Array FieldInfo := #[]) : ClassFile where
  minorVersion := 0
  majorVersion := 65
  constantPool := pool
  accessFlags := fl
  thisClass := this
  superClass := sup
  interfaces := ifs
  fields := fds
  methods := ms
  attributes := attrs
def plain (name : String) (sup : Option ClassId) : Class where
  name := name
  kind := .ordinary
  loader := none
  accessFlags := 33
  super := sup
  interfaces := #[]
  cf := none
  fields := #[]
  methods := #[]
  instanceTypes := #[]
  staticTypes := #[]
  resolved := #[]
  callSites := []
  init := .initialized
  statics := none
  mirror := none

def pool0 : Array CpInfo := pool [(5, u "<init>"), (0, u "()V"), (1, .class_ 10), (1, u "java/lang/Object")] 113

def k0c0 : Code := { maxStack := 0, maxLocals := 1, code := object_method_1_code, exceptionTable := #[], attributes := #[] }
def k0m0 : Method := { name := "<init>", desc := "()V", sig := { parameters := [], returnType := none }, accessFlags := 1, code := some k0c0 }
/-- java/lang/Object -/
def k0 : Class := { plain "java/lang/Object" none with
  accessFlags := 33
  interfaces := #[]
  cf := some (fileOf pool0 8 #[] #[{ accessFlags := 1, nameIndex := 5, descriptorIndex := 6, attributes := #[] }] 33 0 #[] #[])
  fields := #[]
  methods := #[k0m0]
  instanceTypes := #[]
  staticTypes := #[]
  resolved := Array.replicate 124 none
  statics := none }

def pool1 : Array CpInfo := pool [(2, .class_ 4), (1, u "java/lang/Object"), (0, u "<init>"), (0, u "()V"), (0, .integer 2147483647), (0, .class_ 9), (0, u "com/example/waypost/waypost/network/PortMessages"), (0, .methodref 8 11), (0, .nameAndType 5 12), (0, u "(I)V"), (0, .methodref 14 15), (0, .class_ 16), (0, .nameAndType 17 18), (0, u "com/example/waypost/waypost/network/Message"), (0, u "builder"), (0, u "()Lcom/example/waypost/waypost/network/Message$Builder;"), (0, .methodref 20 21), (0, .class_ 22), (0, .nameAndType 23 24), (0, u "com/example/waypost/waypost/network/Message$Builder"), (0, u "build"), (0, u "()Lcom/example/waypost/waypost/network/Message;"), (0, .methodref 26 27), (0, .class_ 28), (0, .nameAndType 29 30), (0, u "com/example/waypost/waypost/network/PortMessagesClearPinLaw"), (0, u "fill"), (0, u "(Lcom/example/waypost/waypost/network/PortMessages;Lcom/example/waypost/waypost/network/Message;IIII)V"), (0, .methodref 8 32), (0, .nameAndType 33 6), (0, u "clear"), (0, .methodref 8 35), (0, .nameAndType 36 37), (0, u "count"), (0, u "()I"), (0, .methodref 26 39), (0, .nameAndType 40 41), (0, u "none"), (0, u "(Lcom/example/waypost/waypost/network/PortMessages;II)Z"), (0, .methodref 8 43), (0, .nameAndType 44 45), (0, u "put"), (0, u "(ILcom/example/waypost/waypost/network/Message;)V"), (0, .methodref 8 47), (0, .nameAndType 48 49), (0, u "get"), (0, u "(I)Lcom/example/waypost/waypost/network/Message;"), (2, u "law"), (0, u "(III)Z")] 5

def k1m0 : Method := { name := "<init>", desc := "()V", sig := { parameters := [], returnType := none }, accessFlags := 1, code := none }
def k1c1 : Code := { maxStack := 6, maxLocals := 7, code := code, exceptionTable := #[], attributes := #[] }
def k1m1 : Method := { name := "law", desc := "(III)Z", sig := { parameters := [.int, .int, .int], returnType := some .boolean }, accessFlags := 9, code := some k1c1 }
def k1c2 : Code := { maxStack := 3, maxLocals := 6, code := method_3_code, exceptionTable := #[], attributes := #[] }
def k1m2 : Method := { name := "fill", desc := "(Lcom/example/waypost/waypost/network/PortMessages;Lcom/example/waypost/waypost/network/Message;IIII)V", sig := { parameters := [(.object "com/example/waypost/waypost/network/PortMessages"), (.object "com/example/waypost/waypost/network/Message"), .int, .int, .int, .int], returnType := none }, accessFlags := 10, code := some k1c2 }
def k1c3 : Code := { maxStack := 2, maxLocals := 3, code := method_4_code, exceptionTable := #[], attributes := #[] }
def k1m3 : Method := { name := "none", desc := "(Lcom/example/waypost/waypost/network/PortMessages;II)Z", sig := { parameters := [(.object "com/example/waypost/waypost/network/PortMessages"), .int, .int], returnType := some .boolean }, accessFlags := 10, code := some k1c3 }
/-- com/example/waypost/waypost/network/PortMessagesClearPinLaw -/
def k1 : Class := { plain "com/example/waypost/waypost/network/PortMessagesClearPinLaw" (some 0) with
  accessFlags := 49
  interfaces := #[]
  cf := some (fileOf pool1 26 #[] #[{ accessFlags := 1, nameIndex := 5, descriptorIndex := 6, attributes := #[] }, { accessFlags := 9, nameIndex := 52, descriptorIndex := 53, attributes := #[] }, { accessFlags := 10, nameIndex := 29, descriptorIndex := 30, attributes := #[] }, { accessFlags := 10, nameIndex := 40, descriptorIndex := 41, attributes := #[] }] 49 2 #[] #[])
  fields := #[]
  methods := #[k1m0, k1m1, k1m2, k1m3]
  instanceTypes := #[]
  staticTypes := #[]
  resolved := Array.replicate 59 none
  statics := none }

def pool2 : Array CpInfo := pool [(1, .methodref 2 3), (0, .class_ 4), (0, .nameAndType 5 6), (0, u "java/lang/Object"), (0, u "<init>"), (0, u "()V"), (0, .class_ 8), (0, u "com/example/waypost/waypost/network/Message"), (0, .fieldref 10 11), (0, .class_ 12), (0, .nameAndType 13 14), (0, u "com/example/waypost/waypost/network/PortMessages"), (0, u "messages"), (0, u "[Lcom/example/waypost/waypost/network/Message;"), (0, .fieldref 10 16), (0, .nameAndType 17 18), (0, u "ports"), (0, u "[I"), (0, .fieldref 10 20), (0, .nameAndType 21 22), (0, u "count"), (0, u "I"), (0, u "(I)V"), (3, u "()I"), (0, u "get"), (0, u "(I)Lcom/example/waypost/waypost/network/Message;"), (0, u "put"), (0, u "(ILcom/example/waypost/waypost/network/Message;)V"), (2, u "clear")] 3

def k2c0 : Code := { maxStack := 2, maxLocals := 2, code := prog_34_method_1_code, exceptionTable := #[], attributes := #[] }
def k2m0 : Method := { name := "<init>", desc := "(I)V", sig := { parameters := [.int], returnType := none }, accessFlags := 0, code := some k2c0 }
def k2c1 : Code := { maxStack := 2, maxLocals := 2, code := prog_34_method_3_code, exceptionTable := #[], attributes := #[] }
def k2m1 : Method := { name := "get", desc := "(I)Lcom/example/waypost/waypost/network/Message;", sig := { parameters := [.int], returnType := some (.object "com/example/waypost/waypost/network/Message") }, accessFlags := 0, code := some k2c1 }
def k2c2 : Code := { maxStack := 5, maxLocals := 3, code := prog_34_method_4_code, exceptionTable := #[], attributes := #[] }
def k2m2 : Method := { name := "put", desc := "(ILcom/example/waypost/waypost/network/Message;)V", sig := { parameters := [.int, (.object "com/example/waypost/waypost/network/Message")], returnType := none }, accessFlags := 0, code := some k2c2 }
def k2c3 : Code := { maxStack := 1, maxLocals := 1, code := prog_34_method_5_code, exceptionTable := #[], attributes := #[] }
def k2m3 : Method := { name := "count", desc := "()I", sig := { parameters := [], returnType := some .int }, accessFlags := 0, code := some k2c3 }
def k2c4 : Code := { maxStack := 3, maxLocals := 2, code := prog_34_method_7_code, exceptionTable := #[], attributes := #[] }
def k2m4 : Method := { name := "clear", desc := "()V", sig := { parameters := [], returnType := none }, accessFlags := 0, code := some k2c4 }
/-- com/example/waypost/waypost/network/PortMessages -/
def k2 : Class := { plain "com/example/waypost/waypost/network/PortMessages" (some 0) with
  accessFlags := 48
  interfaces := #[]
  cf := some (fileOf pool2 10 #[] #[{ accessFlags := 0, nameIndex := 5, descriptorIndex := 23, attributes := #[] }, { accessFlags := 0, nameIndex := 28, descriptorIndex := 29, attributes := #[] }, { accessFlags := 0, nameIndex := 30, descriptorIndex := 31, attributes := #[] }, { accessFlags := 0, nameIndex := 21, descriptorIndex := 27, attributes := #[] }, { accessFlags := 0, nameIndex := 34, descriptorIndex := 6, attributes := #[] }] 48 2 #[] #[{ accessFlags := 18, nameIndex := 13, descriptorIndex := 14, attributes := #[] }, { accessFlags := 18, nameIndex := 17, descriptorIndex := 18, attributes := #[] }, { accessFlags := 2, nameIndex := 21, descriptorIndex := 22, attributes := #[] }])
  fields := #[{ name := "messages", type := (.array (.object "com/example/waypost/waypost/network/Message")), accessFlags := 18, slot := 0, constantValue := 0 }, { name := "ports", type := (.array .int), accessFlags := 18, slot := 1, constantValue := 0 }, { name := "count", type := .int, accessFlags := 2, slot := 2, constantValue := 0 }]
  methods := #[k2m0, k2m1, k2m2, k2m3, k2m4]
  instanceTypes := #[(.array (.object "com/example/waypost/waypost/network/Message")), (.array .int), .int]
  staticTypes := #[]
  resolved := Array.replicate 38 none
  statics := none }

def pool3 : Array CpInfo := pool [(1, .methodref 2 3), (0, .class_ 4), (0, .nameAndType 5 6), (0, u "java/lang/Object"), (0, u "<init>"), (0, u "()V"), (0, .fieldref 8 9), (0, .class_ 10), (0, .nameAndType 11 12), (0, u "com/example/waypost/waypost/network/Message"), (0, u "words"), (0, u "[J"), (0, .fieldref 8 14), (0, .nameAndType 15 16), (0, u "bits"), (0, u "I"), (0, .class_ 18), (0, u "com/example/waypost/waypost/network/Message$Builder"), (0, .methodref 17 3), (29, u "([JI)V"), (2, u "builder"), (0, u "()Lcom/example/waypost/waypost/network/Message$Builder;")] 25

def k3c0 : Code := { maxStack := 2, maxLocals := 3, code := prog_28_method_1_code, exceptionTable := #[], attributes := #[] }
def k3m0 : Method := { name := "<init>", desc := "([JI)V", sig := { parameters := [(.array .long), .int], returnType := none }, accessFlags := 2, code := some k3c0 }
def k3c1 : Code := { maxStack := 2, maxLocals := 0, code := prog_28_method_2_code, exceptionTable := #[], attributes := #[] }
def k3m1 : Method := { name := "builder", desc := "()Lcom/example/waypost/waypost/network/Message$Builder;", sig := { parameters := [], returnType := some (.object "com/example/waypost/waypost/network/Message$Builder") }, accessFlags := 9, code := some k3c1 }
/-- com/example/waypost/waypost/network/Message -/
def k3 : Class := { plain "com/example/waypost/waypost/network/Message" (some 0) with
  accessFlags := 49
  interfaces := #[]
  cf := some (fileOf pool3 8 #[.nestMembers #[17]] #[{ accessFlags := 2, nameIndex := 5, descriptorIndex := 49, attributes := #[] }, { accessFlags := 9, nameIndex := 52, descriptorIndex := 53, attributes := #[] }] 49 2 #[] #[{ accessFlags := 18, nameIndex := 11, descriptorIndex := 12, attributes := #[] }, { accessFlags := 18, nameIndex := 15, descriptorIndex := 16, attributes := #[] }])
  fields := #[{ name := "words", type := (.array .long), accessFlags := 18, slot := 0, constantValue := 0 }, { name := "bits", type := .int, accessFlags := 18, slot := 1, constantValue := 0 }]
  methods := #[k3m0, k3m1]
  instanceTypes := #[(.array .long), .int]
  staticTypes := #[]
  resolved := ((Array.replicate 79 none).setIfInBounds 17 (some (.cls 4))).setIfInBounds 19 (some (.method ⟨4, 0⟩))
  statics := none }

def pool4 : Array CpInfo := pool [(1, .methodref 2 3), (0, .class_ 4), (0, .nameAndType 5 6), (0, u "java/lang/Object"), (0, u "<init>"), (0, u "()V"), (0, .fieldref 8 9), (0, .class_ 10), (0, .nameAndType 11 12), (0, u "com/example/waypost/waypost/network/Message$Builder"), (0, u "words"), (0, u "[J"), (1, .class_ 16), (1, u "com/example/waypost/waypost/network/Message"), (11, .fieldref 8 29), (0, .nameAndType 30 31), (0, u "bits"), (0, u "I"), (6, .methodref 39 40), (0, .class_ 41), (0, .nameAndType 42 43), (0, u "java/util/Arrays"), (0, u "copyOf"), (0, u "([JI)[J"), (10, .methodref 14 55), (0, .nameAndType 5 56), (0, u "([JI)V"), (5, u "build"), (0, u "()Lcom/example/waypost/waypost/network/Message;")] 19

def k4c0 : Code := { maxStack := 2, maxLocals := 1, code := prog_29_method_1_code, exceptionTable := #[], attributes := #[] }
def k4m0 : Method := { name := "<init>", desc := "()V", sig := { parameters := [], returnType := none }, accessFlags := 2, code := some k4c0 }
def k4c1 : Code := { maxStack := 5, maxLocals := 1, code := prog_29_method_4_code, exceptionTable := #[], attributes := #[] }
def k4m1 : Method := { name := "build", desc := "()Lcom/example/waypost/waypost/network/Message;", sig := { parameters := [], returnType := some (.object "com/example/waypost/waypost/network/Message") }, accessFlags := 1, code := some k4c1 }
/-- com/example/waypost/waypost/network/Message$Builder -/
def k4 : Class := { plain "com/example/waypost/waypost/network/Message$Builder" (some 0) with
  accessFlags := 49
  interfaces := #[]
  cf := some (fileOf pool4 8 #[.nestHost 14] #[{ accessFlags := 2, nameIndex := 5, descriptorIndex := 6, attributes := #[] }, { accessFlags := 1, nameIndex := 62, descriptorIndex := 63, attributes := #[] }] 49 2 #[] #[{ accessFlags := 2, nameIndex := 11, descriptorIndex := 12, attributes := #[] }, { accessFlags := 2, nameIndex := 30, descriptorIndex := 31, attributes := #[] }])
  fields := #[{ name := "words", type := (.array .long), accessFlags := 2, slot := 0, constantValue := 0 }, { name := "bits", type := .int, accessFlags := 2, slot := 1, constantValue := 0 }]
  methods := #[k4m0, k4m1]
  instanceTypes := #[(.array .long), .int]
  staticTypes := #[]
  resolved := Array.replicate 83 none
  statics := none }

def pool5 : Array CpInfo := pool [(2, .class_ 4), (1, u "java/lang/Object"), (0, u "<init>"), (0, u "()V"), (7, .class_ 16), (1, u "java/util/Arrays"), (57, .class_ 76), (1, u "java/util/Arrays$NaturalOrder"), (36, .class_ 115), (1, u "java/util/Arrays$LegacyMergeSort"), (1, u "Z"), (32, .methodref 151 152), (0, .class_ 153), (0, .nameAndType 154 155), (0, u "java/lang/System"), (0, u "arraycopy"), (0, u "(Ljava/lang/Object;ILjava/lang/Object;II)V"), (146, u "copyOf"), (1, .methodref 305 306), (0, .class_ 307), (0, .nameAndType 308 309), (0, u "java/lang/Math"), (0, u "min"), (0, u "(II)I"), (65, .class_ 376), (0, u "java/util/Arrays$ArrayList"), (68, u "$assertionsDisabled"), (269, u "MIN_ARRAY_SORT_GRAN"), (0, u "I"), (2, u "INSERTIONSORT_THRESHOLD"), (152, u "([JI)[J"), (102, .class_ 976), (0, u "java/util/Arrays$ArrayItr")] 52

def k5m0 : Method := { name := "<init>", desc := "()V", sig := { parameters := [], returnType := none }, accessFlags := 2, code := none }
def k5c1 : Code := { maxStack := 6, maxLocals := 3, code := jdk_65_method_124_code, exceptionTable := #[], attributes := #[] }
def k5m1 : Method := { name := "copyOf", desc := "([JI)[J", sig := { parameters := [(.array .long), .int], returnType := some (.array .long) }, accessFlags := 9, code := some k5c1 }
/-- java/util/Arrays -/
def k5 : Class := { plain "java/util/Arrays" (some 0) with
  accessFlags := 49
  interfaces := #[]
  cf := some (fileOf pool5 14 #[.nestMembers #[975, 375, 113, 74]] #[{ accessFlags := 2, nameIndex := 5, descriptorIndex := 6, attributes := #[] }, { accessFlags := 9, nameIndex := 302, descriptorIndex := 872, attributes := #[] }] 49 2 #[] #[{ accessFlags := 26, nameIndex := 715, descriptorIndex := 716, attributes := #[] }, { accessFlags := 26, nameIndex := 719, descriptorIndex := 716, attributes := #[] }, { accessFlags := 4120, nameIndex := 445, descriptorIndex := 117, attributes := #[] }])
  fields := #[{ name := "MIN_ARRAY_SORT_GRAN", type := .int, accessFlags := 26, slot := 0, constantValue := 0 }, { name := "INSERTIONSORT_THRESHOLD", type := .int, accessFlags := 26, slot := 1, constantValue := 0 }, { name := "$assertionsDisabled", type := .boolean, accessFlags := 4120, slot := 2, constantValue := 0 }]
  methods := #[k5m0, k5m1]
  instanceTypes := #[]
  staticTypes := #[.int, .int, .boolean]
  resolved := Array.replicate 1029 none
  statics := none }

def pool6 : Array CpInfo := pool [(1, .class_ 2), (0, u "java/lang/Math"), (1, .class_ 6), (1, u "java/lang/Object"), (0, u "<init>"), (0, u "()V"), (89, .class_ 100), (1, u "java/lang/Math$RandomNumberGeneratorHolder"), (71, u "negativeZeroFloatBits"), (0, u "J"), (2, u "negativeZeroDoubleBits"), (24, u "min"), (43, u "$assertionsDisabled"), (0, u "Z"), (88, u "(II)I"), (2, u "twoToTheDoubleScaleDown"), (0, u "D"), (4, u "twoToTheDoubleScaleUp"), (9, u "E"), (3, u "PI"), (2, u "TAU"), (2, u "DEGREES_TO_RADIANS"), (0, u "RADIANS_TO_DEGREES")] 94

def k6m0 : Method := { name := "<init>", desc := "()V", sig := { parameters := [], returnType := none }, accessFlags := 2, code := none }
def k6c1 : Code := { maxStack := 2, maxLocals := 2, code := jdk_29_method_69_code, exceptionTable := #[], attributes := #[] }
def k6m1 : Method := { name := "min", desc := "(II)I", sig := { parameters := [.int, .int], returnType := some .int }, accessFlags := 9, code := some k6c1 }
/-- java/lang/Math -/
def k6 : Class := { plain "java/lang/Math" (some 0) with
  accessFlags := 49
  interfaces := #[]
  cf := some (fileOf pool6 1 #[.nestMembers #[98]] #[{ accessFlags := 2, nameIndex := 7, descriptorIndex := 8, attributes := #[] }, { accessFlags := 9, nameIndex := 201, descriptorIndex := 335, attributes := #[] }] 49 4 #[] #[{ accessFlags := 25, nameIndex := 354, descriptorIndex := 339, attributes := #[] }, { accessFlags := 25, nameIndex := 358, descriptorIndex := 339, attributes := #[] }, { accessFlags := 25, nameIndex := 361, descriptorIndex := 339, attributes := #[] }, { accessFlags := 26, nameIndex := 364, descriptorIndex := 339, attributes := #[] }, { accessFlags := 26, nameIndex := 365, descriptorIndex := 339, attributes := #[] }, { accessFlags := 26, nameIndex := 172, descriptorIndex := 173, attributes := #[] }, { accessFlags := 26, nameIndex := 176, descriptorIndex := 173, attributes := #[] }, { accessFlags := 8, nameIndex := 344, descriptorIndex := 339, attributes := #[] }, { accessFlags := 8, nameIndex := 338, descriptorIndex := 339, attributes := #[] }, { accessFlags := 4120, nameIndex := 245, descriptorIndex := 246, attributes := #[] }])
  fields := #[{ name := "E", type := .double, accessFlags := 25, slot := 0, constantValue := 0 }, { name := "PI", type := .double, accessFlags := 25, slot := 1, constantValue := 0 }, { name := "TAU", type := .double, accessFlags := 25, slot := 2, constantValue := 0 }, { name := "DEGREES_TO_RADIANS", type := .double, accessFlags := 26, slot := 3, constantValue := 0 }, { name := "RADIANS_TO_DEGREES", type := .double, accessFlags := 26, slot := 4, constantValue := 0 }, { name := "negativeZeroFloatBits", type := .long, accessFlags := 26, slot := 5, constantValue := 0 }, { name := "negativeZeroDoubleBits", type := .long, accessFlags := 26, slot := 6, constantValue := 0 }, { name := "twoToTheDoubleScaleUp", type := .double, accessFlags := 8, slot := 7, constantValue := 0 }, { name := "twoToTheDoubleScaleDown", type := .double, accessFlags := 8, slot := 8, constantValue := 0 }, { name := "$assertionsDisabled", type := .boolean, accessFlags := 4120, slot := 9, constantValue := 0 }]
  methods := #[k6m0, k6m1]
  instanceTypes := #[]
  staticTypes := #[.double, .double, .double, .double, .double, .long, .long, .double, .double, .boolean]
  resolved := Array.replicate 460 none
  statics := none }

def pool7 : Array CpInfo := pool [(2, .class_ 4), (1, u "java/lang/Object"), (0, u "<init>"), (0, u "()V"), (1, .class_ 10), (1, u "java/lang/System"), (0, u "allowSecurityManager"), (0, u "I"), (16, u "cons"), (0, u "Ljava/io/Console;"), (77, .class_ 110), (1, u "java/lang/System$CallersHolder"), (43, u "initialErrStream"), (0, u "Ljava/io/PrintStream;"), (19, u "security"), (0, u "Ljava/lang/SecurityManager;"), (31, .class_ 209), (0, u "java/lang/System$1"), (7, u "props"), (0, u "Ljava/util/Properties;"), (2, u "lineSeparator"), (0, u "Ljava/lang/String;"), (96, .class_ 321), (1, u "java/lang/System$LoggerFinder"), (5, .class_ 328), (0, u "java/lang/System$Logger"), (67, u "err"), (2, u "out"), (91, u "notSupportedJnuEncoding"), (15, u "in"), (17, u "initialIn"), (0, u "Ljava/io/InputStream;"), (35, u "bootLayer"), (0, u "Ljava/lang/ModuleLayer;"), (99, .class_ 664), (0, u "java/lang/System$2"), (9, u "NEVER"), (2, u "MAYBE"), (49, u "arraycopy"), (0, u "(Ljava/lang/Object;ILjava/lang/Object;II)V"), (72, .class_ 802), (0, u "java/lang/System$Logger$Level")] 31

def k7m0 : Method := { name := "<init>", desc := "()V", sig := { parameters := [], returnType := none }, accessFlags := 2, code := none }
def k7m1 : Method := { name := "arraycopy", desc := "(Ljava/lang/Object;ILjava/lang/Object;II)V", sig := { parameters := [(.object "java/lang/Object"), .int, (.object "java/lang/Object"), .int, .int], returnType := none }, accessFlags := 265, code := none }
/-- java/lang/System -/
def k7 : Class := { plain "java/lang/System" (some 0) with
  accessFlags := 49
  interfaces := #[]
  cf := some (fileOf pool7 8 #[.nestMembers #[319, 327, 801, 108, 663, 208]] #[{ accessFlags := 2, nameIndex := 5, descriptorIndex := 6, attributes := #[] }, { accessFlags := 265, nameIndex := 727, descriptorIndex := 728, attributes := #[] }] 49 2 #[] #[{ accessFlags := 25, nameIndex := 507, descriptorIndex := 526, attributes := #[] }, { accessFlags := 25, nameIndex := 399, descriptorIndex := 155, attributes := #[] }, { accessFlags := 25, nameIndex := 396, descriptorIndex := 155, attributes := #[] }, { accessFlags := 10, nameIndex := 525, descriptorIndex := 526, attributes := #[] }, { accessFlags := 26, nameIndex := 674, descriptorIndex := 12, attributes := #[] }, { accessFlags := 26, nameIndex := 677, descriptorIndex := 12, attributes := #[] }, { accessFlags := 10, nameIndex := 11, descriptorIndex := 12, attributes := #[] }, { accessFlags := 74, nameIndex := 175, descriptorIndex := 176, attributes := #[] }, { accessFlags := 10, nameIndex := 491, descriptorIndex := 222, attributes := #[] }, { accessFlags := 74, nameIndex := 29, descriptorIndex := 30, attributes := #[] }, { accessFlags := 74, nameIndex := 154, descriptorIndex := 155, attributes := #[] }, { accessFlags := 10, nameIndex := 217, descriptorIndex := 218, attributes := #[] }, { accessFlags := 10, nameIndex := 221, descriptorIndex := 222, attributes := #[] }, { accessFlags := 8, nameIndex := 562, descriptorIndex := 563, attributes := #[] }])
  fields := #[{ name := "in", type := (.object "java/io/InputStream"), accessFlags := 25, slot := 0, constantValue := 0 }, { name := "out", type := (.object "java/io/PrintStream"), accessFlags := 25, slot := 1, constantValue := 0 }, { name := "err", type := (.object "java/io/PrintStream"), accessFlags := 25, slot := 2, constantValue := 0 }, { name := "initialIn", type := (.object "java/io/InputStream"), accessFlags := 10, slot := 3, constantValue := 0 }, { name := "NEVER", type := .int, accessFlags := 26, slot := 4, constantValue := 0 }, { name := "MAYBE", type := .int, accessFlags := 26, slot := 5, constantValue := 0 }, { name := "allowSecurityManager", type := .int, accessFlags := 10, slot := 6, constantValue := 0 }, { name := "security", type := (.object "java/lang/SecurityManager"), accessFlags := 74, slot := 7, constantValue := 0 }, { name := "notSupportedJnuEncoding", type := (.object "java/lang/String"), accessFlags := 10, slot := 8, constantValue := 0 }, { name := "cons", type := (.object "java/io/Console"), accessFlags := 74, slot := 9, constantValue := 0 }, { name := "initialErrStream", type := (.object "java/io/PrintStream"), accessFlags := 74, slot := 10, constantValue := 0 }, { name := "props", type := (.object "java/util/Properties"), accessFlags := 10, slot := 11, constantValue := 0 }, { name := "lineSeparator", type := (.object "java/lang/String"), accessFlags := 10, slot := 12, constantValue := 0 }, { name := "bootLayer", type := (.object "java/lang/ModuleLayer"), accessFlags := 8, slot := 13, constantValue := 0 }]
  methods := #[k7m0, k7m1]
  instanceTypes := #[]
  staticTypes := #[(.object "java/io/InputStream"), (.object "java/io/PrintStream"), (.object "java/io/PrintStream"), (.object "java/io/InputStream"), .int, .int, .int, (.object "java/lang/SecurityManager"), (.object "java/lang/String"), (.object "java/io/Console"), (.object "java/io/PrintStream"), (.object "java/util/Properties"), (.object "java/lang/String"), (.object "java/lang/ModuleLayer")]
  resolved := Array.replicate 834 none
  statics := none }

def pool8 : Array CpInfo := pool [(1, u "java/lang/Cloneable"), (0, .class_ 1), (0, u "java/lang/Object"), (0, .class_ 3)] 3

/-- java/lang/Cloneable -/
def k8 : Class := { plain "java/lang/Cloneable" (some 0) with
  accessFlags := 1537
  interfaces := #[]
  cf := some (fileOf pool8 2 #[] #[] 1537 4 #[] #[])
  fields := #[]
  methods := #[]
  instanceTypes := #[]
  staticTypes := #[]
  resolved := Array.replicate 8 none
  statics := none }

def pool9 : Array CpInfo := pool [(1, u "java/io/Serializable"), (0, .class_ 1), (0, u "java/lang/Object"), (0, .class_ 3)] 3

/-- java/io/Serializable -/
def k9 : Class := { plain "java/io/Serializable" (some 0) with
  accessFlags := 1537
  interfaces := #[]
  cf := some (fileOf pool9 2 #[] #[] 1537 4 #[] #[])
  fields := #[]
  methods := #[]
  instanceTypes := #[]
  staticTypes := #[]
  resolved := Array.replicate 8 none
  statics := none }

/-- the primitive byte -/
def k10 : Class := { plain "byte" none with kind := .primitive 'B', accessFlags := 0x411 }
/-- [B -/
def k11 : Class := { plain "[B" (some 0) with kind := .array 10 .byte, interfaces := #[8, 9], accessFlags := 1041 }

/-- the primitive int -/
def k12 : Class := { plain "int" none with kind := .primitive 'I', accessFlags := 0x411 }
/-- [I -/
def k13 : Class := { plain "[I" (some 0) with kind := .array 12 .int, interfaces := #[8, 9], accessFlags := 1041 }

/-- the primitive long -/
def k14 : Class := { plain "long" none with kind := .primitive 'J', accessFlags := 0x411 }
/-- [J -/
def k15 : Class := { plain "[J" (some 0) with kind := .array 14 .long, interfaces := #[8, 9], accessFlags := 1041 }

/-- [Lcom/example/waypost/waypost/network/Message; -/
def k16 : Class := { plain "[Lcom/example/waypost/waypost/network/Message;" (some 0) with kind := .array 3 (.object "com/example/waypost/waypost/network/Message"), interfaces := #[8, 9], accessFlags := 1041 }

def heap : Heap := #[]
def classes : Array Class := #[k0, k1, k2, k3, k4, k5, k6, k7, k8, k9, k10, k11, k12, k13, k14, k15, k16]
def interned : List (Array UInt16 × Addr) := []
def slotsUsed : Nat := 0
def theMethod : MethodId := ⟨1, 1⟩
def args0 : Array Value := #[.int 5, .int 6, .int 7]
def aboutOver (below : List Frame) : State where
  vm := { classes := classes, interned := interned.toArray }
  heap := heap
  slotsUsed := slotsUsed
  threads := #[{ frames := .invoking theMethod args0 :: below }]
def below0 : List Frame := [.native { method := ⟨0, 0⟩, args := #[] }]
def about1 : State := aboutOver below0
def p0 : Program := .bare "" "" ""
def e0 : Env := launch0.env 0 0 0
theorem w_frames : about1.frames = Frame.invoking theMethod args0 :: below0 := rfl
set_option maxRecDepth 65536 in
theorem w_args : argsFit about1.vm theMethod args0 = true := by decide +kernel
set_option maxRecDepth 65536 in
theorem w_heap : heapFits about1 = true := by decide +kernel
set_option maxRecDepth 65536 in
theorem w_runnable : about1.curStatus? = some .runnable := by decide +kernel
set_option maxRecDepth 65536 in
theorem w_alone : about1.alone = true := by decide +kernel
set_option maxRecDepth 65536 in
theorem w_named : about1.methodNamed? x = some theMethod := by decide +kernel
set_option maxRecDepth 65536 in
theorem w_hears : about1.hears theMethod below0 = true := by decide +kernel
set_option maxRecDepth 65536 in
theorem w_ripe : about1.ripe theMethod args0 below0 = true := by decide +kernel
theorem w_running : about1.status = .running := rfl
set_option maxRecDepth 65536 in
theorem w_room : about1.hasRoom e0.platform room_1 = true :=
  launch0.hasRoom_least _ room_1 (by decide +kernel) (by decide +kernel) (by decide +kernel) (by decide +kernel) (by decide +kernel) (by decide +kernel)
theorem allAtoms_all (ts : List Jvm.Cond) (a : Array Jvm.Value) (st : Jvm.State) : (allAtoms ts).before a st = ts.all (fun c => c.before a st) := by
  induction ts with
  | nil => rfl
  | cons c t ih =>
    show (Jvm.Cond.and c (allAtoms t)).before a st = _
    rw [Jvm.Cond.before_and, ih, List.all_cons]
def words1 : List Jvm.Cond := Jvm.Cond.code x code maxLocals ret :: tables_1
/-- a 'code' word, met by the world's own term for the bytes: nothing is compared byte by byte -/
theorem code_word {y : MethodName} {bytes : ByteArray} {mx : Nat} {rt : Option FieldType} {a : Array Value} {s : State} {m : MethodId} {meth : Method} {c : Code} (h1 : s.methodNamed? y = some m) (h2 : s.vm.method? m = some meth) (h3 : meth.code = some c) (h4 : c.code = bytes)
    (h5 : (c.maxLocals == mx && c.exceptionTable.isEmpty && decide (c.maxStack ≤ mostOperands) && decide (meth.sig.returnType = rt) && !meth.locks && decide (parseMethodDescriptor y.desc = some meth.sig)) = true) : (Jvm.Cond.code y bytes mx rt).before a s = true := by
  simp only [Bool.and_eq_true, beq_iff_eq, Bool.not_eq_true', decide_eq_true_eq] at h5
  obtain ⟨⟨⟨⟨⟨g1, g2⟩, g3⟩, g4⟩, g5⟩, g6⟩ := h5
  simp [Cond.before, Cond.holds, Cond.value, h1, h2, h3, h4, g1, g2, g3, g4, g5, g6]
def isCode : Jvm.Cond → Bool
  | .code _ _ _ _ => true
  | _ => false
theorem all_split {L : List Jvm.Cond} {P : Jvm.Cond → Bool} (h1 : L.all (fun c => isCode c || P c) = true) (h2 : ∀ c ∈ L.filter isCode, P c = true) : L.all P = true := by
  refine List.all_eq_true.mpr fun c hc => ?_
  have h := List.all_eq_true.mp h1 c hc
  rcases Bool.eq_false_or_eq_true (isCode c) with hi | hi
  · exact h2 c (List.mem_filter.mpr ⟨hc, hi⟩)
  · simpa [hi] using h
set_option maxRecDepth 65536 in
theorem w_c0 : (Jvm.Cond.code x code maxLocals ret).before args0 about1 = true := code_word (m := ⟨1, 1⟩) (meth := k1m1) (c := k1c1) (by decide +kernel) rfl rfl rfl (by decide +kernel)
set_option maxRecDepth 65536 in
theorem w_c1 : (Jvm.Cond.code ({ cls := "com/example/waypost/waypost/network/PortMessages", name := "<init>", desc := "(I)V" } : Jvm.MethodName) prog_34_method_1_code (2 : Nat) (Option.none : Option Jvm.ClassFile.FieldType)).before args0 about1 = true := code_word (m := ⟨2, 0⟩) (meth := k2m0) (c := k2c0) (by decide +kernel) rfl rfl rfl (by decide +kernel)
set_option maxRecDepth 65536 in
theorem w_c2 : (Jvm.Cond.code ({ cls := "java/lang/Object", name := "<init>", desc := "()V" } : Jvm.MethodName) object_method_1_code (1 : Nat) (Option.none : Option Jvm.ClassFile.FieldType)).before args0 about1 = true := code_word (m := ⟨0, 0⟩) (meth := k0m0) (c := k0c0) (by decide +kernel) rfl rfl rfl (by decide +kernel)
set_option maxRecDepth 65536 in
theorem w_c3 : (Jvm.Cond.code ({ cls := "com/example/waypost/waypost/network/Message", name := "builder", desc := "()Lcom/example/waypost/waypost/network/Message$Builder;" } : Jvm.MethodName) prog_28_method_2_code (0 : Nat) (Option.some (Jvm.ClassFile.FieldType.object "com/example/waypost/waypost/network/Message$Builder"))).before args0 about1 = true := code_word (m := ⟨3, 1⟩) (meth := k3m1) (c := k3c1) (by decide +kernel) rfl rfl rfl (by decide +kernel)
set_option maxRecDepth 65536 in
theorem w_c4 : (Jvm.Cond.code ({ cls := "com/example/waypost/waypost/network/Message$Builder", name := "<init>", desc := "()V" } : Jvm.MethodName) prog_29_method_1_code (1 : Nat) (Option.none : Option Jvm.ClassFile.FieldType)).before args0 about1 = true := code_word (m := ⟨4, 0⟩) (meth := k4m0) (c := k4c0) (by decide +kernel) rfl rfl rfl (by decide +kernel)
set_option maxRecDepth 65536 in
theorem w_c5 : (Jvm.Cond.code ({ cls := "com/example/waypost/waypost/network/Message$Builder", name := "build", desc := "()Lcom/example/waypost/waypost/network/Message;" } : Jvm.MethodName) prog_29_method_4_code (1 : Nat) (Option.some (Jvm.ClassFile.FieldType.object "com/example/waypost/waypost/network/Message"))).before args0 about1 = true := code_word (m := ⟨4, 1⟩) (meth := k4m1) (c := k4c1) (by decide +kernel) rfl rfl rfl (by decide +kernel)
set_option maxRecDepth 65536 in
theorem w_c6 : (Jvm.Cond.code ({ cls := "java/util/Arrays", name := "copyOf", desc := "([JI)[J" } : Jvm.MethodName) jdk_65_method_124_code (3 : Nat) (Option.some (Jvm.ClassFile.FieldType.array Jvm.ClassFile.FieldType.long))).before args0 about1 = true := code_word (m := ⟨5, 1⟩) (meth := k5m1) (c := k5c1) (by decide +kernel) rfl rfl rfl (by decide +kernel)
set_option maxRecDepth 65536 in
theorem w_c7 : (Jvm.Cond.code ({ cls := "java/lang/Math", name := "min", desc := "(II)I" } : Jvm.MethodName) jdk_29_method_69_code (2 : Nat) (Option.some Jvm.ClassFile.FieldType.int)).before args0 about1 = true := code_word (m := ⟨6, 1⟩) (meth := k6m1) (c := k6c1) (by decide +kernel) rfl rfl rfl (by decide +kernel)
set_option maxRecDepth 65536 in
theorem w_c8 : (Jvm.Cond.code ({ cls := "com/example/waypost/waypost/network/Message", name := "<init>", desc := "([JI)V" } : Jvm.MethodName) prog_28_method_1_code (3 : Nat) (Option.none : Option Jvm.ClassFile.FieldType)).before args0 about1 = true := code_word (m := ⟨3, 0⟩) (meth := k3m0) (c := k3c0) (by decide +kernel) rfl rfl rfl (by decide +kernel)
set_option maxRecDepth 65536 in
theorem w_c9 : (Jvm.Cond.code ({ cls := "com/example/waypost/waypost/network/PortMessagesClearPinLaw", name := "fill", desc := "(Lcom/example/waypost/waypost/network/PortMessages;Lcom/example/waypost/waypost/network/Message;IIII)V" } : Jvm.MethodName) method_3_code (6 : Nat) (Option.none : Option Jvm.ClassFile.FieldType)).before args0 about1 = true := code_word (m := ⟨1, 2⟩) (meth := k1m2) (c := k1c2) (by decide +kernel) rfl rfl rfl (by decide +kernel)
set_option maxRecDepth 65536 in
theorem w_c10 : (Jvm.Cond.code ({ cls := "com/example/waypost/waypost/network/PortMessages", name := "put", desc := "(ILcom/example/waypost/waypost/network/Message;)V" } : Jvm.MethodName) prog_34_method_4_code (3 : Nat) (Option.none : Option Jvm.ClassFile.FieldType)).before args0 about1 = true := code_word (m := ⟨2, 2⟩) (meth := k2m2) (c := k2c2) (by decide +kernel) rfl rfl rfl (by decide +kernel)
set_option maxRecDepth 65536 in
theorem w_c11 : (Jvm.Cond.code ({ cls := "com/example/waypost/waypost/network/PortMessages", name := "clear", desc := "()V" } : Jvm.MethodName) prog_34_method_7_code (2 : Nat) (Option.none : Option Jvm.ClassFile.FieldType)).before args0 about1 = true := code_word (m := ⟨2, 4⟩) (meth := k2m4) (c := k2c4) (by decide +kernel) rfl rfl rfl (by decide +kernel)
set_option maxRecDepth 65536 in
theorem w_c12 : (Jvm.Cond.code ({ cls := "com/example/waypost/waypost/network/PortMessages", name := "count", desc := "()I" } : Jvm.MethodName) prog_34_method_5_code (1 : Nat) (Option.some Jvm.ClassFile.FieldType.int)).before args0 about1 = true := code_word (m := ⟨2, 3⟩) (meth := k2m3) (c := k2c3) (by decide +kernel) rfl rfl rfl (by decide +kernel)
set_option maxRecDepth 65536 in
theorem w_c13 : (Jvm.Cond.code ({ cls := "com/example/waypost/waypost/network/PortMessagesClearPinLaw", name := "none", desc := "(Lcom/example/waypost/waypost/network/PortMessages;II)Z" } : Jvm.MethodName) method_4_code (3 : Nat) (Option.some Jvm.ClassFile.FieldType.boolean)).before args0 about1 = true := code_word (m := ⟨1, 3⟩) (meth := k1m3) (c := k1c3) (by decide +kernel) rfl rfl rfl (by decide +kernel)
set_option maxRecDepth 65536 in
theorem w_c14 : (Jvm.Cond.code ({ cls := "com/example/waypost/waypost/network/PortMessages", name := "get", desc := "(I)Lcom/example/waypost/waypost/network/Message;" } : Jvm.MethodName) prog_34_method_3_code (2 : Nat) (Option.some (Jvm.ClassFile.FieldType.object "com/example/waypost/waypost/network/Message"))).before args0 about1 = true := code_word (m := ⟨2, 1⟩) (meth := k2m1) (c := k2c1) (by decide +kernel) rfl rfl rfl (by decide +kernel)
def codes1 : List Jvm.Cond := [Jvm.Cond.code x code maxLocals ret, Jvm.Cond.code ({ cls := "com/example/waypost/waypost/network/PortMessages", name := "<init>", desc := "(I)V" } : Jvm.MethodName) prog_34_method_1_code (2 : Nat) (Option.none : Option Jvm.ClassFile.FieldType), Jvm.Cond.code ({ cls := "java/lang/Object", name := "<init>", desc := "()V" } : Jvm.MethodName) object_method_1_code (1 : Nat) (Option.none : Option Jvm.ClassFile.FieldType), Jvm.Cond.code ({ cls := "com/example/waypost/waypost/network/Message", name := "builder", desc := "()Lcom/example/waypost/waypost/network/Message$Builder;" } : Jvm.MethodName) prog_28_method_2_code (0 : Nat) (Option.some (Jvm.ClassFile.FieldType.object "com/example/waypost/waypost/network/Message$Builder")), Jvm.Cond.code ({ cls := "com/example/waypost/waypost/network/Message$Builder", name := "<init>", desc := "()V" } : Jvm.MethodName) prog_29_method_1_code (1 : Nat) (Option.none : Option Jvm.ClassFile.FieldType), Jvm.Cond.code ({ cls := "com/example/waypost/waypost/network/Message$Builder", name := "build", desc := "()Lcom/example/waypost/waypost/network/Message;" } : Jvm.MethodName) prog_29_method_4_code (1 : Nat) (Option.some (Jvm.ClassFile.FieldType.object "com/example/waypost/waypost/network/Message")), Jvm.Cond.code ({ cls := "java/util/Arrays", name := "copyOf", desc := "([JI)[J" } : Jvm.MethodName) jdk_65_method_124_code (3 : Nat) (Option.some (Jvm.ClassFile.FieldType.array Jvm.ClassFile.FieldType.long)), Jvm.Cond.code ({ cls := "java/lang/Math", name := "min", desc := "(II)I" } : Jvm.MethodName) jdk_29_method_69_code (2 : Nat) (Option.some Jvm.ClassFile.FieldType.int), Jvm.Cond.code ({ cls := "com/example/waypost/waypost/network/Message", name := "<init>", desc := "([JI)V" } : Jvm.MethodName) prog_28_method_1_code (3 : Nat) (Option.none : Option Jvm.ClassFile.FieldType), Jvm.Cond.code ({ cls := "com/example/waypost/waypost/network/PortMessagesClearPinLaw", name := "fill", desc := "(Lcom/example/waypost/waypost/network/PortMessages;Lcom/example/waypost/waypost/network/Message;IIII)V" } : Jvm.MethodName) method_3_code (6 : Nat) (Option.none : Option Jvm.ClassFile.FieldType), Jvm.Cond.code ({ cls := "com/example/waypost/waypost/network/PortMessages", name := "put", desc := "(ILcom/example/waypost/waypost/network/Message;)V" } : Jvm.MethodName) prog_34_method_4_code (3 : Nat) (Option.none : Option Jvm.ClassFile.FieldType), Jvm.Cond.code ({ cls := "com/example/waypost/waypost/network/PortMessages", name := "clear", desc := "()V" } : Jvm.MethodName) prog_34_method_7_code (2 : Nat) (Option.none : Option Jvm.ClassFile.FieldType), Jvm.Cond.code ({ cls := "com/example/waypost/waypost/network/PortMessages", name := "count", desc := "()I" } : Jvm.MethodName) prog_34_method_5_code (1 : Nat) (Option.some Jvm.ClassFile.FieldType.int), Jvm.Cond.code ({ cls := "com/example/waypost/waypost/network/PortMessagesClearPinLaw", name := "none", desc := "(Lcom/example/waypost/waypost/network/PortMessages;II)Z" } : Jvm.MethodName) method_4_code (3 : Nat) (Option.some Jvm.ClassFile.FieldType.boolean), Jvm.Cond.code ({ cls := "com/example/waypost/waypost/network/PortMessages", name := "get", desc := "(I)Lcom/example/waypost/waypost/network/Message;" } : Jvm.MethodName) prog_34_method_3_code (2 : Nat) (Option.some (Jvm.ClassFile.FieldType.object "com/example/waypost/waypost/network/Message"))]
set_option maxRecDepth 65536 in
theorem codes_eq : words1.filter isCode = codes1 := rfl
theorem w_codes : ∀ c ∈ words1.filter isCode, c.before args0 about1 = true := by
  rw [codes_eq]
  intro c hc
  simp only [codes1, List.mem_cons, List.not_mem_nil, or_false] at hc
  rcases hc with rfl | rfl | rfl | rfl | rfl | rfl | rfl | rfl | rfl | rfl | rfl | rfl | rfl | rfl | rfl
  · exact w_c0
  · exact w_c1
  · exact w_c2
  · exact w_c3
  · exact w_c4
  · exact w_c5
  · exact w_c6
  · exact w_c7
  · exact w_c8
  · exact w_c9
  · exact w_c10
  · exact w_c11
  · exact w_c12
  · exact w_c13
  · exact w_c14
set_option maxRecDepth 65536 in
theorem w_t1 : (words1.take 24).all (fun c => isCode c || c.before args0 about1) = true := by decide +kernel
set_option maxRecDepth 65536 in
theorem w_t2 : ((words1.drop 24).take 24).all (fun c => isCode c || c.before args0 about1) = true := by decide +kernel
set_option maxRecDepth 65536 in
theorem w_t3 : (((words1.drop 24).drop 24).take 24).all (fun c => isCode c || c.before args0 about1) = true := by decide +kernel
set_option maxRecDepth 65536 in
theorem w_t4 : (((words1.drop 24).drop 24).drop 24).all (fun c => isCode c || c.before args0 about1) = true := by decide +kernel
theorem w_tables : (allAtoms (Jvm.Cond.code x code maxLocals ret :: tables_1)).before args0 about1 = true := by
  rw [allAtoms_all]
  show words1.all (fun c => c.before args0 about1) = true
  refine all_split ?_ w_codes
  rw [← List.take_append_drop 24 words1, List.all_append, w_t1, ← List.take_append_drop 24 (words1.drop 24), List.all_append, w_t2, ← List.take_append_drop 24 ((words1.drop 24).drop 24), List.all_append, w_t3, w_t4]
  rfl
set_option maxRecDepth 65536 in
theorem w_case : (Jvm.Cond.and given_1 narrow_1).before args0 about1 = true := by decide +kernel
theorem w_applies : (headSpec (Jvm.Cond.code x code maxLocals ret :: tables_1) room_1).applies x e0.platform about1 = true :=
  (Spec.applies_iff w_frames).mpr ⟨w_running, w_runnable, w_alone, w_named, w_hears, w_ripe, w_room, w_tables⟩
theorem atStart : AtStart classFile x code maxLocals ret World_1 tables_1 room_1 Calls_1 rest_1 Pre_1 launch0 p0 e0 about1 theMethod args0 below0 :=
  ⟨lists_1, trivial, launch0.admits_env _ _ _, launch0.least_env, fairChoices_fair.cas, fairChoices_fair.clock, w_frames, w_args, w_heap, w_applies, trivial, trivial, w_case⟩
end start1
theorem witness_1 : WitnessClaimed_1 := ⟨start1.p0, start1.e0, start1.about1, start1.theMethod, start1.args0, start1.below0, start1.atStart⟩
end Jvm.Pilot.@@N@@
