import JvmDerived
import JvmDerived.Pilot.@@N@@Statement
import JvmDerived.Pilot.@@N@@Code
set_option linter.unusedVariables false
set_option linter.unusedSimpArgs false
@@BLOCK:NumsL.lean.txt@@
namespace Jvm.OwnKit
open Jvm Sem ClassFile Op Lib Jvm.Free Jvm.Stand Jvm.LawKit Jvm.RoadKit Bundle
/-- a body: its method, its bytes, max_locals, what it returns, its room -/
abbrev oBd : Type := MethodName × ByteArray × Nat × Option FieldType × Room
abbrev oBd.y (b : oBd) : MethodName := b.1
abbrev oBd.bytes (b : oBd) : ByteArray := b.2.1
abbrev oBd.maxL (b : oBd) : Nat := b.2.2.1
abbrev oBd.ret (b : oBd) : Option FieldType := b.2.2.2.1
abbrev oBd.R (b : oBd) : Room := b.2.2.2.2
/-- an invocation: program, environment, its state, method, arguments, the frames below, the method's record, its code -/
abbrev oWd : Type := Program × Env × State × MethodId × Array Value × List Frame × Method × Code
/-- where a walk stands: T its state, h its heap, k cells and n slots made; all that was written lies at or above n0 -/
def oPos (l : Launch) (Z : State) (n0 : Nat) (w : oWd) (b : oBd) (T : State) (h : Heap) (k n : Nat) : Prop :=
  w.1.tables.exec = Jvm.exec ∧ Z.Warmed39 w.2.2.1.vm ∧ w.2.2.1.vm.findClass b.y.cls = some w.2.2.2.1.cls ∧ w.2.2.2.2.2.2.2.code = b.bytes ∧ w.2.2.2.2.2.2.2.maxLocals = b.maxL ∧ w.2.2.2.2.2.2.1.sig.returnType = b.ret ∧ w.2.2.2.2.2.2.1.locks = false ∧ w.2.2.2.2.2.2.1.name = b.y.name ∧ T.heap = h ∧
    ∃ locs, Stand w.1 l w.2.1 b.R w.2.2.1 w.2.2.2.1 w.2.2.2.2.1 w.2.2.2.2.2.1 w.2.2.2.2.2.2.1 w.2.2.2.2.2.2.2 T locs k n ∧ Fr n0 locs
/-- from here the invocation comes to its end, and Q holds of what it returns and of the heap -/
def oFin (w : oWd) (b : oBd) (n0 : Nat) (Q : Option Value → Heap → Prop) (T : State) (pc : Nat) (Ls : Array Slot) (st : List Value) : Prop :=
  ∃ s₂ o, Steps w.1.tables w.2.1 w.2.2.2.2.2.1 (T.setTop (mkF w.2.2.2.1 pc Ls st)) s₂ ∧ s₂.status = .running ∧ Ended s₂ w.2.2.2.2.2.1 o ∧ ∃ v L, o = .returned v ∧ (Q v s₂.heap ∧ Fr n0 L) ∧ FrameEnd w.2.2.1 o s₂ L b.R.cells b.R.slots
/-- a body's contract: called with the arguments as' at the heap h it returns, and Q holds -/
def oMet (l : Launch) (b : oBd) (ws : List Jvm.Cond) (Z : State) (n0 : Nat) (as' : Array Value) (h : Heap) (Q : Option Value → Heap → Prop) : Prop :=
  MetFree l b.y (head1 (Jvm.Cond.code b.y b.bytes b.maxL b.ret :: ws) b.R) (fun a U => a = as' ∧ Z.Warmed39 U.vm ∧ U.heap = h) (fun _ _ _ _ _ => True) (fun _ U o U' => ∃ v L, o = .returned v ∧ (Q v U'.heap ∧ Fr n0 L) ∧ FrameEnd U o U' L b.R.cells b.R.slots)
section Steps
variable {l : Launch} {Z : State} {n0 : Nat} {w : oWd} {b : oBd} {T T' : State} {h : Heap} {k n pc q : Nat} {Ls Ls' : Array Slot} {st st' : List Value} {Q : Option Value → Heap → Prop} {a0 : Array Value}
theorem o_go {pc' : Nat} (hh : ∀ t, Steps w.1.tables w.2.1 w.2.2.2.2.2.1 (T'.setTop (mkF w.2.2.2.1 pc' Ls' st')) t → Steps w.1.tables w.2.1 w.2.2.2.2.2.1 (T.setTop (mkF w.2.2.2.1 pc Ls st)) t) (K : oFin w b n0 Q T' pc' Ls' st') : oFin w b n0 Q T pc Ls st := by
  obtain ⟨s₂, o, h1, r⟩ := K
  exact ⟨s₂, o, hh _ h1, r⟩
theorem o_enter {ws : List Jvm.Cond} {as' : Array Value} (hp : plainFor b.y = true) (hef : ∀ m : MethodId, entryFrame m as' b.maxL = mkF m 0 Ls []) (body : ∀ (w : oWd) (T : State), oPos l Z n0 w b T h 0 0 → oFin w b n0 Q T 0 Ls []) : oMet l b ws Z n0 as' h Q := by
  refine MetFree.of_bodySF hp hisR ?_
  intro p e s m args below meth c s₁ Bd hml0 hP hK
  obtain ⟨rfl, hZ, hh⟩ := hP
  have e0 : s₁.heap = h := by rw [← hh, Bd.state]; rfl
  obtain ⟨s₂, o, h1, r⟩ := body (p, e, s, m, args, below, meth, c) s₁ ⟨Bd.exec, hZ, findClass_of_methodNamed Bd.named, Bd.bytes, hml0, Bd.returns, Bd.notSynchronized, (name_of_methodNamed Bd.named Bd.method).1, e0, [], Stand.of_body Bd, Fr.nil n0⟩
  exact ⟨s₂, o, castTop (hef m) h1, r⟩

theorem o_aloadN (A : oPos l Z n0 w b T h k n) {j : Fin 4} {v : Value} (hd : decode b.bytes pc = .ok (.aload_n j, 1)) (hl : Ls[j.val]? = some (.val v)) (hv : v.isRef = true) (hq : pc + 1 = q) (K : oFin w b n0 Q T q Ls (v :: st)) : oFin w b n0 Q T pc Ls (st) := by
  subst hq
  obtain ⟨hx, hZ, hown, hby, hml, hret, hlk, hnm, eT, locs, X, N⟩ := A
  exact o_go (fun t kk => XS.aloadN X.here hx rfl (hb hby hd) hl hv kk) K
theorem o_aload (A : oPos l Z n0 w b T h k n) {j : Nat} {v : Value} (hd : decode b.bytes pc = .ok (.aload j, 2)) (hl : Ls[j]? = some (.val v)) (hv : v.isRef = true) (hq : pc + 2 = q) (K : oFin w b n0 Q T q Ls (v :: st)) : oFin w b n0 Q T pc Ls (st) := by
  subst hq
  obtain ⟨hx, hZ, hown, hby, hml, hret, hlk, hnm, eT, locs, X, N⟩ := A
  exact o_go (fun t kk => XS.aload X.here hx rfl (hb hby hd) hl hv kk) K
theorem o_iloadN (A : oPos l Z n0 w b T h k n) {j : Fin 4} {v : Int32} (hd : decode b.bytes pc = .ok (.iload_n j, 1)) (hl : Ls[j.val]? = some (.val (.int v))) (hq : pc + 1 = q) (K : oFin w b n0 Q T q Ls (.int v :: st)) : oFin w b n0 Q T pc Ls (st) := by
  subst hq
  obtain ⟨hx, hZ, hown, hby, hml, hret, hlk, hnm, eT, locs, X, N⟩ := A
  exact o_go (fun t kk => XS.iloadN X.here hx rfl (hb hby hd) hl kk) K
theorem o_iload (A : oPos l Z n0 w b T h k n) {j : Nat} {v : Int32} (hd : decode b.bytes pc = .ok (.iload j, 2)) (hl : Ls[j]? = some (.val (.int v))) (hq : pc + 2 = q) (K : oFin w b n0 Q T q Ls (.int v :: st)) : oFin w b n0 Q T pc Ls (st) := by
  subst hq
  obtain ⟨hx, hZ, hown, hby, hml, hret, hlk, hnm, eT, locs, X, N⟩ := A
  exact o_go (fun t kk => XS.iload X.here hx rfl (hb hby hd) hl kk) K
theorem o_lloadN (A : oPos l Z n0 w b T h k n) {j : Fin 4} {v : Int64} (hd : decode b.bytes pc = .ok (.lload_n j, 1)) (hl : Ls[j.val]? = some (.val (.long v))) (hq : pc + 1 = q) (K : oFin w b n0 Q T q Ls (.long v :: st)) : oFin w b n0 Q T pc Ls (st) := by
  subst hq
  obtain ⟨hx, hZ, hown, hby, hml, hret, hlk, hnm, eT, locs, X, N⟩ := A
  exact o_go (fun t kk => XS.lloadN X.here hx rfl (hb hby hd) hl kk) K
theorem o_lload (A : oPos l Z n0 w b T h k n) {j : Nat} {v : Int64} (hd : decode b.bytes pc = .ok (.lload j, 2)) (hl : Ls[j]? = some (.val (.long v))) (hq : pc + 2 = q) (K : oFin w b n0 Q T q Ls (.long v :: st)) : oFin w b n0 Q T pc Ls (st) := by
  subst hq
  obtain ⟨hx, hZ, hown, hby, hml, hret, hlk, hnm, eT, locs, X, N⟩ := A
  exact o_go (fun t kk => XS.lload X.here hx rfl (hb hby hd) hl kk) K
theorem o_iconst (A : oPos l Z n0 w b T h k n) {i : Int} {z : Int32} (hd : decode b.bytes pc = .ok (.iconst i, 1)) (hz : Int32.ofInt i = z) (hq : pc + 1 = q) (K : oFin w b n0 Q T q Ls (.int z :: st)) : oFin w b n0 Q T pc Ls (st) := by
  subst hq hz
  obtain ⟨hx, hZ, hown, hby, hml, hret, hlk, hnm, eT, locs, X, N⟩ := A
  exact o_go (fun t kk => XS.iconst X.here hx rfl (hb hby hd) kk) K
theorem o_bipush (A : oPos l Z n0 w b T h k n) {i : Int} {z : Int32} (hd : decode b.bytes pc = .ok (.bipush i, 2)) (hz : (Int8.ofInt i).toInt32 = z) (hq : pc + 2 = q) (K : oFin w b n0 Q T q Ls (.int z :: st)) : oFin w b n0 Q T pc Ls (st) := by
  subst hq hz
  obtain ⟨hx, hZ, hown, hby, hml, hret, hlk, hnm, eT, locs, X, N⟩ := A
  exact o_go (fun t kk => XS.bipush X.here hx rfl (hb hby hd) kk) K
theorem o_sipush (A : oPos l Z n0 w b T h k n) {i : Int} {z : Int32} (hd : decode b.bytes pc = .ok (.sipush i, 3)) (hz : (Int16.ofInt i).toInt32 = z) (hq : pc + 3 = q) (K : oFin w b n0 Q T q Ls (.int z :: st)) : oFin w b n0 Q T pc Ls (st) := by
  subst hq hz
  obtain ⟨hx, hZ, hown, hby, hml, hret, hlk, hnm, eT, locs, X, N⟩ := A
  exact o_go (fun t kk => XS.sipush X.here hx rfl (hb hby hd) kk) K
theorem o_lconst (A : oPos l Z n0 w b T h k n) {j : Fin 2} {z : Int64} (hd : decode b.bytes pc = .ok (.lconst j, 1)) (hz : Int64.ofNat j = z) (hq : pc + 1 = q) (K : oFin w b n0 Q T q Ls (.long z :: st)) : oFin w b n0 Q T pc Ls (st) := by
  subst hq hz
  obtain ⟨hx, hZ, hown, hby, hml, hret, hlk, hnm, eT, locs, X, N⟩ := A
  exact o_go (fun t kk => XS.lconst X.here hx rfl (hb hby hd) kk) K
theorem o_aconstNull (A : oPos l Z n0 w b T h k n)  (hd : decode b.bytes pc = .ok (.aconst_null, 1))  (hq : pc + 1 = q) (K : oFin w b n0 Q T q Ls (.null :: st)) : oFin w b n0 Q T pc Ls (st) := by
  subst hq
  obtain ⟨hx, hZ, hown, hby, hml, hret, hlk, hnm, eT, locs, X, N⟩ := A
  exact o_go (fun t kk => XS.aconstNull X.here hx rfl (hb hby hd) kk) K
theorem o_iadd (A : oPos l Z n0 w b T h k n) {x y : Int32} (hd : decode b.bytes pc = .ok (.iadd, 1))  (hq : pc + 1 = q) (K : oFin w b n0 Q T q Ls (.int (x + y) :: st)) : oFin w b n0 Q T pc Ls (.int y :: .int x :: st) := by
  subst hq
  obtain ⟨hx, hZ, hown, hby, hml, hret, hlk, hnm, eT, locs, X, N⟩ := A
  exact o_go (fun t kk => XS.iadd X.here hx rfl (hb hby hd) rfl kk) K
theorem o_isub (A : oPos l Z n0 w b T h k n) {x y : Int32} (hd : decode b.bytes pc = .ok (.isub, 1))  (hq : pc + 1 = q) (K : oFin w b n0 Q T q Ls (.int (x - y) :: st)) : oFin w b n0 Q T pc Ls (.int y :: .int x :: st) := by
  subst hq
  obtain ⟨hx, hZ, hown, hby, hml, hret, hlk, hnm, eT, locs, X, N⟩ := A
  exact o_go (fun t kk => XS.isub X.here hx rfl (hb hby hd) rfl kk) K
theorem o_imul (A : oPos l Z n0 w b T h k n) {x y : Int32} (hd : decode b.bytes pc = .ok (.imul, 1))  (hq : pc + 1 = q) (K : oFin w b n0 Q T q Ls (.int (x * y) :: st)) : oFin w b n0 Q T pc Ls (.int y :: .int x :: st) := by
  subst hq
  obtain ⟨hx, hZ, hown, hby, hml, hret, hlk, hnm, eT, locs, X, N⟩ := A
  exact o_go (fun t kk => XS.imul X.here hx rfl (hb hby hd) rfl kk) K
theorem o_iand (A : oPos l Z n0 w b T h k n) {x y : Int32} (hd : decode b.bytes pc = .ok (.iand, 1))  (hq : pc + 1 = q) (K : oFin w b n0 Q T q Ls (.int (x &&& y) :: st)) : oFin w b n0 Q T pc Ls (.int y :: .int x :: st) := by
  subst hq
  obtain ⟨hx, hZ, hown, hby, hml, hret, hlk, hnm, eT, locs, X, N⟩ := A
  exact o_go (fun t kk => XS.iand X.here hx rfl (hb hby hd) rfl kk) K
theorem o_ior (A : oPos l Z n0 w b T h k n) {x y : Int32} (hd : decode b.bytes pc = .ok (.ior, 1))  (hq : pc + 1 = q) (K : oFin w b n0 Q T q Ls (.int (x ||| y) :: st)) : oFin w b n0 Q T pc Ls (.int y :: .int x :: st) := by
  subst hq
  obtain ⟨hx, hZ, hown, hby, hml, hret, hlk, hnm, eT, locs, X, N⟩ := A
  exact o_go (fun t kk => XS.ior X.here hx rfl (hb hby hd) rfl kk) K
theorem o_ishr (A : oPos l Z n0 w b T h k n) {x y : Int32} (hd : decode b.bytes pc = .ok (.ishr, 1))  (hq : pc + 1 = q) (K : oFin w b n0 Q T q Ls (.int (x >>> (y &&& 31)) :: st)) : oFin w b n0 Q T pc Ls (.int y :: .int x :: st) := by
  subst hq
  obtain ⟨hx, hZ, hown, hby, hml, hret, hlk, hnm, eT, locs, X, N⟩ := A
  exact o_go (fun t kk => XS.ishr X.here hx rfl (hb hby hd) rfl kk) K
theorem o_iushr (A : oPos l Z n0 w b T h k n) {x y : Int32} (hd : decode b.bytes pc = .ok (.iushr, 1))  (hq : pc + 1 = q) (K : oFin w b n0 Q T q Ls (.int ((x.toUInt32 >>> (y &&& 31).toUInt32).toInt32) :: st)) : oFin w b n0 Q T pc Ls (.int y :: .int x :: st) := by
  subst hq
  obtain ⟨hx, hZ, hown, hby, hml, hret, hlk, hnm, eT, locs, X, N⟩ := A
  exact o_go (fun t kk => XS.iushr X.here hx rfl (hb hby hd) rfl kk) K
theorem o_idiv (A : oPos l Z n0 w b T h k n) {x y : Int32} (hd : decode b.bytes pc = .ok (.idiv, 1)) (hy : y ≠ 0) (hq : pc + 1 = q) (K : oFin w b n0 Q T q Ls (.int (x / y) :: st)) : oFin w b n0 Q T pc Ls (.int y :: .int x :: st) := by
  subst hq
  obtain ⟨hx, hZ, hown, hby, hml, hret, hlk, hnm, eT, locs, X, N⟩ := A
  exact o_go (fun t kk => XS.idiv X.here hx rfl (hb hby hd) rfl hy kk) K
theorem o_irem (A : oPos l Z n0 w b T h k n) {x y : Int32} (hd : decode b.bytes pc = .ok (.irem, 1)) (hy : y ≠ 0) (hq : pc + 1 = q) (K : oFin w b n0 Q T q Ls (.int (x % y) :: st)) : oFin w b n0 Q T pc Ls (.int y :: .int x :: st) := by
  subst hq
  obtain ⟨hx, hZ, hown, hby, hml, hret, hlk, hnm, eT, locs, X, N⟩ := A
  exact o_go (fun t kk => iremM X hx rfl (hb hby hd) rfl hy kk) K
theorem o_ladd (A : oPos l Z n0 w b T h k n) {x y : Int64} (hd : decode b.bytes pc = .ok (.ladd, 1))  (hq : pc + 1 = q) (K : oFin w b n0 Q T q Ls (.long (x + y) :: st)) : oFin w b n0 Q T pc Ls (.long y :: .long x :: st) := by
  subst hq
  obtain ⟨hx, hZ, hown, hby, hml, hret, hlk, hnm, eT, locs, X, N⟩ := A
  exact o_go (fun t kk => XS.ladd X.here hx rfl (hb hby hd) rfl kk) K
theorem o_lsub (A : oPos l Z n0 w b T h k n) {x y : Int64} (hd : decode b.bytes pc = .ok (.lsub, 1))  (hq : pc + 1 = q) (K : oFin w b n0 Q T q Ls (.long (x - y) :: st)) : oFin w b n0 Q T pc Ls (.long y :: .long x :: st) := by
  subst hq
  obtain ⟨hx, hZ, hown, hby, hml, hret, hlk, hnm, eT, locs, X, N⟩ := A
  exact o_go (fun t kk => XS.lsub X.here hx rfl (hb hby hd) rfl kk) K
theorem o_lmul (A : oPos l Z n0 w b T h k n) {x y : Int64} (hd : decode b.bytes pc = .ok (.lmul, 1))  (hq : pc + 1 = q) (K : oFin w b n0 Q T q Ls (.long (x * y) :: st)) : oFin w b n0 Q T pc Ls (.long y :: .long x :: st) := by
  subst hq
  obtain ⟨hx, hZ, hown, hby, hml, hret, hlk, hnm, eT, locs, X, N⟩ := A
  exact o_go (fun t kk => XS.lmul X.here hx rfl (hb hby hd) rfl kk) K
theorem o_land (A : oPos l Z n0 w b T h k n) {x y : Int64} (hd : decode b.bytes pc = .ok (.land, 1))  (hq : pc + 1 = q) (K : oFin w b n0 Q T q Ls (.long (x &&& y) :: st)) : oFin w b n0 Q T pc Ls (.long y :: .long x :: st) := by
  subst hq
  obtain ⟨hx, hZ, hown, hby, hml, hret, hlk, hnm, eT, locs, X, N⟩ := A
  exact o_go (fun t kk => XS.land X.here hx rfl (hb hby hd) rfl kk) K
theorem o_lrem (A : oPos l Z n0 w b T h k n) {x y : Int64} (hd : decode b.bytes pc = .ok (.lrem, 1)) (hy : y ≠ 0) (hq : pc + 1 = q) (K : oFin w b n0 Q T q Ls (.long (x - (x / y) * y) :: st)) : oFin w b n0 Q T pc Ls (.long y :: .long x :: st) := by
  subst hq
  obtain ⟨hx, hZ, hown, hby, hml, hret, hlk, hnm, eT, locs, X, N⟩ := A
  exact o_go (fun t kk => XS.lrem X.here hx rfl (hb hby hd) rfl hy kk) K
theorem o_lushr (A : oPos l Z n0 w b T h k n) {x : Int64} {y : Int32} (hd : decode b.bytes pc = .ok (.lushr, 1))  (hq : pc + 1 = q) (K : oFin w b n0 Q T q Ls (.long ((x.toUInt64 >>> (y &&& 0x3f).toInt64.toUInt64).toInt64) :: st)) : oFin w b n0 Q T pc Ls (.int y :: .long x :: st) := by
  subst hq
  obtain ⟨hx, hZ, hown, hby, hml, hret, hlk, hnm, eT, locs, X, N⟩ := A
  exact o_go (fun t kk => XS.lushr X.here hx rfl (hb hby hd) rfl kk) K
theorem o_i2l (A : oPos l Z n0 w b T h k n) {x : Int32} (hd : decode b.bytes pc = .ok (.i2l, 1))  (hq : pc + 1 = q) (K : oFin w b n0 Q T q Ls (.long (x.toInt64) :: st)) : oFin w b n0 Q T pc Ls (.int x :: st) := by
  subst hq
  obtain ⟨hx, hZ, hown, hby, hml, hret, hlk, hnm, eT, locs, X, N⟩ := A
  exact o_go (fun t kk => XS.i2l X.here hx rfl (hb hby hd) rfl kk) K
theorem o_i2b (A : oPos l Z n0 w b T h k n) {x : Int32} (hd : decode b.bytes pc = .ok (.i2b, 1))  (hq : pc + 1 = q) (K : oFin w b n0 Q T q Ls (.int (x.toInt8.toInt32) :: st)) : oFin w b n0 Q T pc Ls (.int x :: st) := by
  subst hq
  obtain ⟨hx, hZ, hown, hby, hml, hret, hlk, hnm, eT, locs, X, N⟩ := A
  exact o_go (fun t kk => XS.i2b X.here hx rfl (hb hby hd) rfl kk) K
theorem o_i2c (A : oPos l Z n0 w b T h k n) {x : Int32} (hd : decode b.bytes pc = .ok (.i2c, 1))  (hq : pc + 1 = q) (K : oFin w b n0 Q T q Ls (.int (x.toUInt32.toUInt16.toUInt32.toInt32) :: st)) : oFin w b n0 Q T pc Ls (.int x :: st) := by
  subst hq
  obtain ⟨hx, hZ, hown, hby, hml, hret, hlk, hnm, eT, locs, X, N⟩ := A
  exact o_go (fun t kk => XS.i2c X.here hx rfl (hb hby hd) rfl kk) K
theorem o_lcmp (A : oPos l Z n0 w b T h k n) {x y : Int64} (hd : decode b.bytes pc = .ok (.lcmp, 1))  (hq : pc + 1 = q) (K : oFin w b n0 Q T q Ls (.int (lcmpW x y) :: st)) : oFin w b n0 Q T pc Ls (.long y :: .long x :: st) := by
  subst hq
  obtain ⟨hx, hZ, hown, hby, hml, hret, hlk, hnm, eT, locs, X, N⟩ := A
  exact o_go (fun t kk => XS.lcmp X.here hx rfl (hb hby hd) rfl kk) K
theorem o_dup (A : oPos l Z n0 w b T h k n) {x : Value} (hd : decode b.bytes pc = .ok (.dup, 1)) (hc : x.category = 1) (hq : pc + 1 = q) (K : oFin w b n0 Q T q Ls (x :: x :: st)) : oFin w b n0 Q T pc Ls (x :: st) := by
  subst hq
  obtain ⟨hx, hZ, hown, hby, hml, hret, hlk, hnm, eT, locs, X, N⟩ := A
  exact o_go (fun t kk => XS.dup X.here hx rfl (hb hby hd) rfl hc kk) K
theorem o_dupX1 (A : oPos l Z n0 w b T h k n) {x y : Value} (hd : decode b.bytes pc = .ok (.dup_x1, 1)) (hc : x.category = 1) (hc2 : y.category = 1) (hq : pc + 1 = q) (K : oFin w b n0 Q T q Ls (x :: y :: x :: st)) : oFin w b n0 Q T pc Ls (x :: y :: st) := by
  subst hq
  obtain ⟨hx, hZ, hown, hby, hml, hret, hlk, hnm, eT, locs, X, N⟩ := A
  exact o_go (fun t kk => Jvm.Free.XT.dupX1 X.here hx rfl (hb hby hd) rfl hc hc2 kk) K
theorem o_dup2 (A : oPos l Z n0 w b T h k n) {x y : Value} (hd : decode b.bytes pc = .ok (.dup2, 1)) (hc : x.category = 1) (hc2 : y.category = 1) (hq : pc + 1 = q) (K : oFin w b n0 Q T q Ls (x :: y :: x :: y :: st)) : oFin w b n0 Q T pc Ls (x :: y :: st) := by
  subst hq
  obtain ⟨hx, hZ, hown, hby, hml, hret, hlk, hnm, eT, locs, X, N⟩ := A
  exact o_go (fun t kk => Jvm.Free.XT.dup2 X.here hx rfl (hb hby hd) rfl hc hc2 kk) K
theorem o_pop (A : oPos l Z n0 w b T h k n) {x : Value} (hd : decode b.bytes pc = .ok (.pop, 1)) (hc : x.category = 1) (hq : pc + 1 = q) (K : oFin w b n0 Q T q Ls (st)) : oFin w b n0 Q T pc Ls (x :: st) := by
  subst hq
  obtain ⟨hx, hZ, hown, hby, hml, hret, hlk, hnm, eT, locs, X, N⟩ := A
  exact o_go (fun t kk => XS.pop X.here hx rfl (hb hby hd) rfl hc kk) K
theorem o_istoreN (A : oPos l Z n0 w b T h k n) {j : Fin 4} {x : Int32} (hd : decode b.bytes pc = .ok (.istore_n j, 1)) (hl : storeLocals Ls j.val (.int x) = some Ls') (hq : pc + 1 = q) (K : oFin w b n0 Q T q Ls' (st)) : oFin w b n0 Q T pc Ls (.int x :: st) := by
  subst hq
  obtain ⟨hx, hZ, hown, hby, hml, hret, hlk, hnm, eT, locs, X, N⟩ := A
  exact o_go (fun t kk => XS.istoreN X.here hx rfl (hb hby hd) rfl hl kk) K
theorem o_istore (A : oPos l Z n0 w b T h k n) {j : Nat} {x : Int32} (hd : decode b.bytes pc = .ok (.istore j, 2)) (hl : storeLocals Ls j (.int x) = some Ls') (hq : pc + 2 = q) (K : oFin w b n0 Q T q Ls' (st)) : oFin w b n0 Q T pc Ls (.int x :: st) := by
  subst hq
  obtain ⟨hx, hZ, hown, hby, hml, hret, hlk, hnm, eT, locs, X, N⟩ := A
  exact o_go (fun t kk => XS.istore X.here hx rfl (hb hby hd) rfl hl kk) K
theorem o_lstoreN (A : oPos l Z n0 w b T h k n) {j : Fin 4} {x : Int64} (hd : decode b.bytes pc = .ok (.lstore_n j, 1)) (hl : storeLocals Ls j.val (.long x) = some Ls') (hq : pc + 1 = q) (K : oFin w b n0 Q T q Ls' (st)) : oFin w b n0 Q T pc Ls (.long x :: st) := by
  subst hq
  obtain ⟨hx, hZ, hown, hby, hml, hret, hlk, hnm, eT, locs, X, N⟩ := A
  exact o_go (fun t kk => XS.lstoreN X.here hx rfl (hb hby hd) rfl hl kk) K
theorem o_lstore (A : oPos l Z n0 w b T h k n) {j : Nat} {x : Int64} (hd : decode b.bytes pc = .ok (.lstore j, 2)) (hl : storeLocals Ls j (.long x) = some Ls') (hq : pc + 2 = q) (K : oFin w b n0 Q T q Ls' (st)) : oFin w b n0 Q T pc Ls (.long x :: st) := by
  subst hq
  obtain ⟨hx, hZ, hown, hby, hml, hret, hlk, hnm, eT, locs, X, N⟩ := A
  exact o_go (fun t kk => XS.lstore X.here hx rfl (hb hby hd) rfl hl kk) K
theorem o_astoreN (A : oPos l Z n0 w b T h k n) {j : Fin 4} {x : Value} (hd : decode b.bytes pc = .ok (.astore_n j, 1)) (hv : x.isRef = true) (hl : storeLocals Ls j.val x = some Ls') (hq : pc + 1 = q) (K : oFin w b n0 Q T q Ls' (st)) : oFin w b n0 Q T pc Ls (x :: st) := by
  subst hq
  obtain ⟨hx, hZ, hown, hby, hml, hret, hlk, hnm, eT, locs, X, N⟩ := A
  exact o_go (fun t kk => XS.astoreN X.here hx rfl (hb hby hd) rfl hv hl kk) K
theorem o_astore (A : oPos l Z n0 w b T h k n) {j : Nat} {x : Value} (hd : decode b.bytes pc = .ok (.astore j, 2)) (hv : x.isRef = true) (hl : storeLocals Ls j x = some Ls') (hq : pc + 2 = q) (K : oFin w b n0 Q T q Ls' (st)) : oFin w b n0 Q T pc Ls (x :: st) := by
  subst hq
  obtain ⟨hx, hZ, hown, hby, hml, hret, hlk, hnm, eT, locs, X, N⟩ := A
  exact o_go (fun t kk => XS.astore X.here hx rfl (hb hby hd) rfl hv hl kk) K
theorem o_iinc (A : oPos l Z n0 w b T h k n) {j : Nat} {cst : Int} {x z : Int32} (hd : decode b.bytes pc = .ok (.iinc j cst, 3)) (hl : Ls[j]? = some (.val (.int x))) (hz : x + Int32.ofInt cst = z) (hl' : storeLocals Ls j (.int z) = some Ls') (hq : pc + 3 = q) (K : oFin w b n0 Q T q Ls' (st)) : oFin w b n0 Q T pc Ls (st) := by
  subst hq hz
  obtain ⟨hx, hZ, hown, hby, hml, hret, hlk, hnm, eT, locs, X, N⟩ := A
  exact o_go (fun t kk => XS.iinc X.here hx rfl (hb hby hd) hl hl' kk) K
theorem o_ldc (A : oPos l Z n0 w b T h k n) {index : Nat} {v : Int32} (hd : decode b.bytes pc = .ok (.ldc index, 2)) (wd : (Jvm.Cond.constant b.y.cls index v).before a0 Z = true) (hq : pc + 2 = q) (K : oFin w b n0 Q T q Ls (.int v :: st)) : oFin w b n0 Q T pc Ls (st) := by
  subst hq
  obtain ⟨hx, hZ, hown, hby, hml, hret, hlk, hnm, eT, locs, X, N⟩ := A
  exact o_go (fun t kk => X.ldcInt hx hown (mvT hZ wd) (g := mkF w.2.2.2.1 pc Ls st) rfl (hb hby hd) t kk) K
theorem o_ldc2 (A : oPos l Z n0 w b T h k n) {index : Nat} {v : Int64} (hd : decode b.bytes pc = .ok (.ldc2_w index, 3)) (wd : (Jvm.Cond.constantLong b.y.cls index v).before a0 Z = true) (hq : pc + 3 = q) (K : oFin w b n0 Q T q Ls (.long v :: st)) : oFin w b n0 Q T pc Ls (st) := by
  subst hq
  obtain ⟨hx, hZ, hown, hby, hml, hret, hlk, hnm, eT, locs, X, N⟩ := A
  exact o_go (fun t kk => X.ldc2Long hx hown (mvT hZ wd) (g := mkF w.2.2.2.1 pc Ls st) rfl (hb hby hd) t kk) K
theorem o_goto (A : oPos l Z n0 w b T h k n) {o : Int} (hd : decode b.bytes pc = .ok (.goto o, 3)) (ho : 0 ≤ (pc : Int) + o) (hq : ((pc : Int) + o).toNat = q) (K : oFin w b n0 Q T q Ls st) : oFin w b n0 Q T pc Ls st := by
  obtain ⟨hx, hZ, hown, hby, hml, hret, hlk, hnm, eT, locs, X, N⟩ := A
  exact o_go (fun t kk => XS.goto X.here hx rfl rfl (hb hby hd) ho hq kk) K
/-- what a comparison says -/
def oCnd : ClassFile.Cond → Int32 → Int32 → Prop
  | .eq, x, y => x = y
  | .ne, x, y => x ≠ y
  | .lt, x, y => x < y
  | .ge, x, y => y ≤ x
  | .gt, x, y => y < x
  | .le, x, y => x ≤ y
theorem o_cnd (cd : ClassFile.Cond) (x y : Int32) : if_icmp.holds cd x y = true ↔ oCnd cd x y := by
  cases cd <;> simp [if_icmp.holds, oCnd]
theorem o_icmp (A : oPos l Z n0 w b T h k n) {cd : ClassFile.Cond} {x y : Int32} {o : Int} {q' : Nat} (hd : decode b.bytes pc = .ok (.if_icmp cd o, 3)) (ho : 0 ≤ (pc : Int) + o) (hq : ((pc : Int) + o).toNat = q) (hq' : pc + 3 = q') (Y : oCnd cd x y → oFin w b n0 Q T q Ls st) (N' : ¬ oCnd cd x y → oFin w b n0 Q T q' Ls st) : oFin w b n0 Q T pc Ls (.int y :: .int x :: st) := by
  subst hq'
  obtain ⟨hx, hZ, hown, hby, hml, hret, hlk, hnm, eT, locs, X, N⟩ := A
  by_cases hc : oCnd cd x y
  · exact o_go (fun t kk => XS.icmpYes X.here hx rfl rfl (hb hby hd) rfl ((o_cnd _ _ _).mpr hc) ho hq kk) (Y hc)
  · exact o_go (fun t kk => XS.icmpNo X.here hx rfl (hb hby hd) rfl (by rw [← Bool.not_eq_true, o_cnd]; exact hc) kk) (N' hc)
theorem o_if (A : oPos l Z n0 w b T h k n) {cd : ClassFile.Cond} {x : Int32} {o : Int} {q' : Nat} (hd : decode b.bytes pc = .ok (.ifCond cd o, 3)) (ho : 0 ≤ (pc : Int) + o) (hq : ((pc : Int) + o).toNat = q) (hq' : pc + 3 = q') (Y : oCnd cd x 0 → oFin w b n0 Q T q Ls st) (N' : ¬ oCnd cd x 0 → oFin w b n0 Q T q' Ls st) : oFin w b n0 Q T pc Ls (.int x :: st) := by
  subst hq'
  obtain ⟨hx, hZ, hown, hby, hml, hret, hlk, hnm, eT, locs, X, N⟩ := A
  by_cases hc : oCnd cd x 0
  · exact o_go (fun t kk => XS.ifYes X.here hx rfl rfl (hb hby hd) rfl ((if0 _ _).trans ((o_cnd _ _ _).mpr hc)) ho hq kk) (Y hc)
  · exact o_go (fun t kk => XS.ifNo X.here hx rfl (hb hby hd) rfl ((if0 _ _).trans (by rw [← Bool.not_eq_true, o_cnd]; exact hc)) kk) (N' hc)
theorem o_ifnonnullR (A : oPos l Z n0 w b T h k n) {a : Addr} {o : Int} (hd : decode b.bytes pc = .ok (.ifnonnull o, 3)) (ho : 0 ≤ (pc : Int) + o) (hq : ((pc : Int) + o).toNat = q) (K : oFin w b n0 Q T q Ls st) : oFin w b n0 Q T pc Ls (.ref a :: st) := by
  obtain ⟨hx, hZ, hown, hby, hml, hret, hlk, hnm, eT, locs, X, N⟩ := A
  exact o_go (fun t kk => XS.ifnonnullYes X.here hx rfl rfl (hb hby hd) rfl ho hq kk) K
theorem o_ifnonnullN (A : oPos l Z n0 w b T h k n) {o : Int} (hd : decode b.bytes pc = .ok (.ifnonnull o, 3)) (hq : pc + 3 = q) (K : oFin w b n0 Q T q Ls st) : oFin w b n0 Q T pc Ls (.null :: st) := by
  subst hq
  obtain ⟨hx, hZ, hown, hby, hml, hret, hlk, hnm, eT, locs, X, N⟩ := A
  exact o_go (fun t kk => XS.ifnonnullNo X.here hx rfl (hb hby hd) rfl kk) K
/-- if_acmpne of two references that differ: taken -/
theorem o_acmpneY (A : oPos l Z n0 w b T h k n) {a c : Addr} {o : Int} (hd : decode b.bytes pc = .ok (.if_acmp .ne o, 3)) (hne : a ≠ c) (ho : 0 ≤ (pc : Int) + o) (hq : ((pc : Int) + o).toNat = q) (K : oFin w b n0 Q T q Ls st) : oFin w b n0 Q T pc Ls (.ref c :: .ref a :: st) := by
  obtain ⟨hx, hZ, hown, hby, hml, hret, hlk, hnm, eT, locs, X, N⟩ := A
  exact o_go (fun t kk => XS.acmpYes X.here hx rfl rfl (hb hby hd) rfl (by simp [if_acmp.holds, hne]) ho hq kk) K

theorem o_retV (A : oPos l Z n0 w b T h k n)  (hr : b.ret = none)  (hd : decode b.bytes pc = .ok (.return_, 1)) (hk : k ≤ b.R.cells) (hn : n ≤ b.R.slots) (hQ : Q (none) h) : oFin w b n0 Q T pc Ls ([]) := by
  obtain ⟨hx, hZ, hown, hby, hml, hret, hlk, hnm, eT, locs, X, N⟩ := A
  have hret' : w.2.2.2.2.2.2.1.sig.returnType = none := hret.trans hr
  obtain ⟨fs, hr', hrun, hended, hW, hsame⟩ := X.leave (v := none) (fun _ => rfl) hlk
  exact ⟨_, _, X.returnOut hx hret' (hb hby hd) hr', hrun, hended, _, _, rfl, ⟨by rw [← eT] at hQ; exact hQ, N⟩, ⟨_, rfl⟩, hW, hsame.mono hk hn⟩
theorem o_retI (A : oPos l Z n0 w b T h k n) {z : Int32} (hr : b.ret = some .int)  (hd : decode b.bytes pc = .ok (.ireturn, 1)) (hk : k ≤ b.R.cells) (hn : n ≤ b.R.slots) (hQ : Q (some (.int z)) h) : oFin w b n0 Q T pc Ls ([.int z]) := by
  obtain ⟨hx, hZ, hown, hby, hml, hret, hlk, hnm, eT, locs, X, N⟩ := A
  have hret' : w.2.2.2.2.2.2.1.sig.returnType = some .int := hret.trans hr
  obtain ⟨fs, hr', hrun, hended, hW, hsame⟩ := X.leave (v := some (.int z)) (fun hz => by rw [hret'] at hz; cases hz) hlk
  exact ⟨_, _, X.ireturnOut hx hret' rfl (Or.inl rfl) (hb hby hd) hr', hrun, hended, _, _, rfl, ⟨by rw [← eT] at hQ; exact hQ, N⟩, ⟨_, rfl⟩, hW, hsame.mono hk hn⟩
theorem o_retJ (A : oPos l Z n0 w b T h k n) {z : Int64} (hr : b.ret = some .long)  (hd : decode b.bytes pc = .ok (.lreturn, 1)) (hk : k ≤ b.R.cells) (hn : n ≤ b.R.slots) (hQ : Q (some (.long z)) h) : oFin w b n0 Q T pc Ls ([.long z]) := by
  obtain ⟨hx, hZ, hown, hby, hml, hret, hlk, hnm, eT, locs, X, N⟩ := A
  have hret' : w.2.2.2.2.2.2.1.sig.returnType = some .long := hret.trans hr
  obtain ⟨fs, hr', hrun, hended, hW, hsame⟩ := X.leave (v := some (.long z)) (fun hz => by rw [hret'] at hz; cases hz) hlk
  exact ⟨_, _, X.lreturnOut hx hret' (hb hby hd) hr', hrun, hended, _, _, rfl, ⟨by rw [← eT] at hQ; exact hQ, N⟩, ⟨_, rfl⟩, hW, hsame.mono hk hn⟩
theorem o_retA (A : oPos l Z n0 w b T h k n) {z : Value} {t : FieldType} (hr : b.ret = some t) (ht : t.isReference = true) (hz : z.isRef = true) (hd : decode b.bytes pc = .ok (.areturn, 1)) (hk : k ≤ b.R.cells) (hn : n ≤ b.R.slots) (hQ : Q (some z) h) : oFin w b n0 Q T pc Ls ([z]) := by
  obtain ⟨hx, hZ, hown, hby, hml, hret, hlk, hnm, eT, locs, X, N⟩ := A
  have hret' : w.2.2.2.2.2.2.1.sig.returnType = some t := hret.trans hr
  obtain ⟨fs, hr', hrun, hended, hW, hsame⟩ := X.leave (v := some z) (fun hz => by rw [hret'] at hz; cases hz) hlk
  exact ⟨_, _, X.areturnOut hx hz hret' ht (hb hby hd) hr', hrun, hended, _, _, rfl, ⟨by rw [← eT] at hQ; exact hQ, N⟩, ⟨_, rfl⟩, hW, hsame.mono hk hn⟩
theorem o_retN (A : oPos l Z n0 w b T h k n) {z : Int32} {t : FieldType} (hr : b.ret = some t) (ht : t = .boolean ∨ t = .byte ∨ t = .char ∨ t = .short) (hd : decode b.bytes pc = .ok (.ireturn, 1)) (hk : k ≤ b.R.cells) (hn : n ≤ b.R.slots) (hQ : Q (some (.int (nar t z))) h) : oFin w b n0 Q T pc Ls ([.int z]) := by
  obtain ⟨hx, hZ, hown, hby, hml, hret, hlk, hnm, eT, locs, X, N⟩ := A
  have hret' : w.2.2.2.2.2.2.1.sig.returnType = some t := hret.trans hr
  obtain ⟨fs, hr', hrun, hended, hW, hsame⟩ := X.leave (v := some (.int (nar t z))) (fun hz => by rw [hret'] at hz; cases hz) hlk
  exact ⟨_, _, retN X hx hret' ht (hb hby hd) hr', hrun, hended, _, _, rfl, ⟨by rw [← eT] at hQ; exact hQ, N⟩, ⟨_, rfl⟩, hW, hsame.mono hk hn⟩
theorem o_getF (A : oPos l Z n0 w b T h k n) {O nm d : String} {index : Nat} {a : Addr} {v : Value} (hd : decode b.bytes pc = .ok (.getfield index, 3)) (wd : (Jvm.Cond.fieldLink b.y.cls index O nm d).before a0 Z = true) (F : Fld Z h a O nm d v) (hq : pc + 3 = q) (K : ∀ T', oPos l Z n0 w b T' h k n → oFin w b n0 Q T' q Ls (v :: st)) : oFin w b n0 Q T pc Ls (.ref a :: st) := by
  subst hq
  obtain ⟨hx, hZ, hown, hby, hml, hret, hlk, hnm, eT, locs, X, N⟩ := A
  obtain ⟨T', X', e', st'⟩ := getF X hx hZ hown (host := "") (Or.inl wd) Via.refl eT F (g := mkF w.2.2.2.1 pc Ls (.ref a :: st)) rfl rfl (hb hby hd)
  exact o_go st' (K T' ⟨hx, hZ, hown, hby, hml, hret, hlk, hnm, e', locs, X', N⟩)
theorem o_putF (A : oPos l Z n0 w b T h k n) {O nm d C : String} {index kk : Nat} {a : Addr} {v old : Value} {ty : FieldType} (hd : decode b.bytes pc = .ok (.putfield index, 3)) (wd : (Jvm.Cond.fieldLink b.y.cls index O nm d).before a0 Z = true) (F : Fld Z h a O nm d old) (E : Exa Z h a C) (L : (Jvm.Cond.lays C O nm d).before a0 Z = true ∨ ((Jvm.Cond.laysFinal C O nm d).before a0 Z = true ∧ b.y.cls = O ∧ b.y.name = "<init>"))
    (wi : (Jvm.Cond.instantiable C kk).before a0 Z = true) (hty : parseFieldDescriptor d = some ty) (hna : narrow ty v = v) (hfi : fits ty v = true) (ha : n0 ≤ a) (hq : pc + 3 = q) (K : ∀ T' h', oPos l Z n0 w b T' h' k n → Wr h h' a (RoadKit.slotOf Z O nm d) v → oFin w b n0 Q T' q Ls st) : oFin w b n0 Q T pc Ls (v :: .ref a :: st) := by
  subst hq
  obtain ⟨hx, hZ, hown, hby, hml, hret, hlk, hnm, eT, locs, X, N⟩ := A
  obtain ⟨T', h', X', e', W, st'⟩ := putF X hx hZ hown (host := "") (Or.inl wd) Via.refl eT F E (L.imp id fun q => ⟨q.1, q.2.1, hnm.trans q.2.2⟩) wi hty hna hfi (g := mkF w.2.2.2.1 pc Ls (v :: .ref a :: st)) rfl rfl (hb hby hd)
  exact o_go st' (K T' h' ⟨hx, hZ, hown, hby, hml, hret, hlk, hnm, e', _, X', Fr.snoc X' N ha⟩ W)
theorem o_newO (A : oPos l Z n0 w b T h k n) {C : String} {index m k' n' : Nat} (hd : decode b.bytes pc = .ok (.new index, 3)) (wd : (Jvm.Cond.classLink b.y.cls index C).before a0 Z = true) (wi : (Jvm.Cond.instantiable C m).before a0 Z = true) (wz : (Jvm.Cond.initialized C).before a0 Z = true) (hk : k + 1 = k') (hn : n + m = n') (hk2 : k' ≤ b.R.cells) (hn2 : n' ≤ b.R.slots) (hq : pc + 3 = q)
    (K : ∀ T' h' a, a = h.size → oPos l Z n0 w b T' h' k' n' → Ext h h' → Exa Z h' a C → (∀ {O nm d : String} {ty : FieldType}, Laid Z a0 C O nm d → parseFieldDescriptor d = some ty → Fld Z h' a O nm d (defaultValue ty)) → oFin w b n0 Q T' q Ls (.ref a :: st)) : oFin w b n0 Q T pc Ls st := by
  subst hq hk hn
  obtain ⟨hx, hZ, hown, hby, hml, hret, hlk, hnm, eT, locs, X, N⟩ := A
  obtain ⟨T', h', X', e', E, Ax, Dx, -, st'⟩ := newO X hx hZ hown wd wi wz eT (g := mkF w.2.2.2.1 pc Ls st) rfl (hb hby hd) hk2 hn2
  exact o_go st' (K T' h' _ rfl ⟨hx, hZ, hown, hby, hml, hret, hlk, hnm, e', _, X', N⟩ E Ax Dx)
theorem o_initO (A : oPos l Z n0 w b T h k n) {idx W : Nat} {a : Addr} (hd : decode b.bytes pc = .ok (.invokespecial idx, 3)) (w1 : (Jvm.Cond.methodLink b.y.cls idx Lib.objectInit).before a0 Z = true) (w2 : (Jvm.Cond.instanceMethod Lib.objectInit).before a0 Z = true) (w3 : (Jvm.Cond.code Lib.objectInit Jvm.Lib.objCode 1 none).before a0 Z = true) (hsz : Ls.size = b.maxL) (hf : 1 ≤ b.R.frames) (hW : (st.map fun v => v.category).sum = W) (hl : W + 12 ≤ b.R.locals) (hq : pc + 3 = q)
    (K : ∀ T', oPos l Z n0 w b T' h k n → oFin w b n0 Q T' q Ls st) : oFin w b n0 Q T pc Ls (.ref a :: st) := by
  subst hq
  obtain ⟨hx, hZ, hown, hby, hml, hret, hlk, hnm, eT, locs, X, N⟩ := A
  obtain ⟨T', X', e', st'⟩ := initO X hx hZ hown w1 w2 w3 eT (g := mkF w.2.2.2.1 pc Ls (.ref a :: st)) rfl (hsz.trans hml.symm) rfl (hb hby hd) hf (W := W) (by show 2 * 0 + _ ≤ _; omega) hl
  exact o_go st' (K T' ⟨hx, hZ, hown, hby, hml, hret, hlk, hnm, e', locs, X', N⟩)

theorem o_selP {s : State} {args : Array Value} {n : Nat} {y : MethodName} (hy : y.cls ≠ "java/lang/invoke/MethodHandle" ∧ y.cls ≠ "java/lang/invoke/VarHandle") (hins : (Jvm.Cond.instantiable y.cls n).before args s = true) (hpriv : (Jvm.Cond.privateMethod y).before args s = true) (hinst : (Jvm.Cond.instanceMethod y).before args s = true) : (Jvm.Cond.selects y.cls y y).before args s = true := by
  obtain ⟨c, k, hc, hk, -, hniab, -, -⟩ := Cond.instantiable_spec hins
  have hni : k.isInterface = false := (Bool.or_eq_false_iff.mp hniab).1
  obtain ⟨mk, methM, hnamed, hmethM, -, -⟩ := Cond.instanceMethod_spec hinst
  have hfound : s.methodFound? y.cls y.name y.desc = some mk := State.methodFound?_of_named hnamed hy
  have hcls : mk.cls = c := Option.some.inj ((findClass_of_methodNamed hnamed).symm.trans hc)
  have hsel : selectMethod {} s.vm c mk = .method mk := selectMethod_private hmethM (Cond.privateMethod_at hpriv mk methM hnamed hmethM)
  simp only [Cond.before, Cond.holds, Cond.value, hc, hfound, hnamed, hsel, hcls, hk]
  simp; exact hni
theorem o_callS (A : oPos l Z n0 w b T h k n) {b' : oBd} {as' : Array Value} {Q' : Option Value → Heap → Prop} {index W k' n' : Nat} {argsL : List Value} {sig : MethodDescriptor} (hM : oMet l b' [] Z n0 as' h Q') (hd : decode b.bytes pc = .ok (.invokestatic index, 3)) (w1 : (Jvm.Cond.methodLink b.y.cls index b'.y).before a0 Z = true) (w2 : (Jvm.Cond.static b'.y).before a0 Z = true) (w3 : (Jvm.Cond.initialized b'.y.cls).before a0 Z = true) (w4 : (Jvm.Cond.code b'.y b'.bytes b'.maxL b'.ret).before a0 Z = true)
    (hy : b'.y.cls ≠ "java/lang/invoke/MethodHandle" ∧ b'.y.cls ≠ "java/lang/invoke/VarHandle") (hsig : parseMethodDescriptor b'.y.desc = some sig) (hlen : argsL.length = sig.parameters.length) (has : argsL.toArray = as') (hst : st' = argsL.reverse ++ st) (hsz : Ls.size = b.maxL) (hW : (st.map fun v => v.category).sum = W) (hf : b'.R.frames + 1 ≤ b.R.frames) (hl : W + (b'.maxL + 11) + b'.R.locals ≤ b.R.locals)
    (hk : k + b'.R.cells = k') (hn : n + b'.R.slots = n') (hk2 : k' ≤ b.R.cells) (hn2 : n' ≤ b.R.slots) (hq : pc + 3 = q) (K : ∀ v T' h', oPos l Z n0 w b T' h' k' n' → Q' v h' → oFin w b n0 Q T' q Ls (v.toList ++ st)) : oFin w b n0 Q T pc Ls st' := by
  subst hq hk hn has hst
  obtain ⟨hx, hZ, hown, hby, hml, hret, hlk, hnm, eT, locs, X, N⟩ := A
  obtain ⟨v, _, ⟨T', L', k', n'⟩, -, X', ⟨Lc, hQ', l', y', z'⟩, stp⟩ := Jvm.LawKit.callS X hx (y := b'.y) hown (mvT hZ w1) (mvT hZ w2) (mvT hZ w3) (mvT hZ w4) hy (backOf (W := W) (Q := fun v h' L => Q' v h' ∧ Fr n0 L) hM hZ w4 w3 hf hl) (g := mkF w.2.2.2.1 pc Ls (argsL.reverse ++ st)) rfl (hsz.trans hml.symm) (argsL := argsL) (rest := st) (lenOf hsig hlen) rfl (by show 2 * 0 + _ ≤ _; omega) (hb hby hd) (fun _ _ => ⟨rfl, eT, hk2, hn2⟩)
  dsimp only [Pt.U, Pt.locs, Pt.cells, Pt.slots] at X' l' y' z' stp hQ'
  subst l' y' z'
  exact o_go stp (K v T' _ ⟨hx, hZ, hown, hby, hml, hret, hlk, hnm, rfl, _, X', Fr.app N hQ'.2⟩ hQ'.1)
theorem o_callV (A : oPos l Z n0 w b T h k n) {b' : oBd} {as' : Array Value} {Q' : Option Value → Heap → Prop} {C : String} {a : Addr} {index W k' n' : Nat} {argsL : List Value} {sig : MethodDescriptor} (hM : oMet l b' [] Z n0 as' h Q') (hd : decode b.bytes pc = .ok (.invokevirtual index, 3)) (E : Exa Z h a C) (w1 : (Jvm.Cond.methodLink b.y.cls index b'.y).before a0 Z = true) (w2 : (Jvm.Cond.declares b'.y).before a0 Z = true) (ws : (Jvm.Cond.selects C b'.y b'.y).before a0 Z = true) (wi : (Jvm.Cond.instanceMethod b'.y).before a0 Z = true) (w3 : (Jvm.Cond.initialized b'.y.cls).before a0 Z = true) (w4 : (Jvm.Cond.code b'.y b'.bytes b'.maxL b'.ret).before a0 Z = true)
    (hy : b'.y.cls ≠ "java/lang/invoke/MethodHandle" ∧ b'.y.cls ≠ "java/lang/invoke/VarHandle") (hsig : parseMethodDescriptor b'.y.desc = some sig) (hlen : argsL.length = sig.parameters.length) (has : (.ref a :: argsL).toArray = as') (hst : st' = argsL.reverse ++ .ref a :: st) (hsz : Ls.size = b.maxL) (hW : (st.map fun v => v.category).sum = W) (hf : b'.R.frames + 1 ≤ b.R.frames) (hl : W + (b'.maxL + 11) + b'.R.locals ≤ b.R.locals)
    (hk : k + b'.R.cells = k') (hn : n + b'.R.slots = n') (hk2 : k' ≤ b.R.cells) (hn2 : n' ≤ b.R.slots) (hq : pc + 3 = q) (K : ∀ v T' h', oPos l Z n0 w b T' h' k' n' → Q' v h' → oFin w b n0 Q T' q Ls (v.toList ++ st)) : oFin w b n0 Q T pc Ls st' := by
  subst hq hk hn has hst
  obtain ⟨hx, hZ, hown, hby, hml, hret, hlk, hnm, eT, locs, X, N⟩ := A
  obtain ⟨cq, kq, qa, qb, qc⟩ := isOf hZ eT E
  obtain ⟨v, _, ⟨T', L', k', n'⟩, -, X', ⟨Lc, hQ', l', y', z'⟩, stp⟩ := X.virtualBack hx (y := b'.y) (z := b'.y) hown (mvT hZ w1) (mvT hZ w2) (notFace_of_selects (args := #[]) (mvT hZ ws)) (mvT hZ ws) (mvT hZ wi) hy (backOf (W := W) (Q := fun v h' L => Q' v h' ∧ Fr n0 L) hM hZ w4 w3 hf hl) qa qc (g := mkF w.2.2.2.1 pc Ls (argsL.reverse ++ .ref a :: st)) rfl (hsz.trans hml.symm) (Steps.refl _) (argsL := argsL) (rest := st) (lenOf hsig hlen) rfl (by show 2 * 0 + _ ≤ _; omega) (hb hby hd) (fun _ _ => ⟨rfl, eT, hk2, hn2⟩)
  dsimp only [Pt.U, Pt.locs, Pt.cells, Pt.slots] at X' l' y' z' stp hQ'
  subst l' y' z'
  exact o_go (fun t kk => stp.trans kk) (K v T' _ ⟨hx, hZ, hown, hby, hml, hret, hlk, hnm, rfl, _, X', Fr.app N hQ'.2⟩ hQ'.1)
theorem o_callP (A : oPos l Z n0 w b T h k n) {b' : oBd} {as' : Array Value} {Q' : Option Value → Heap → Prop} {C : String} {a : Addr} {index W k' n' : Nat} {argsL : List Value} {sig : MethodDescriptor} (hM : oMet l b' [] Z n0 as' h Q') (hd : decode b.bytes pc = .ok (.invokevirtual index, 3)) (E : Exa Z h a C) (w1 : (Jvm.Cond.methodLink b.y.cls index b'.y).before a0 Z = true) (wp : (Jvm.Cond.privateMethod b'.y).before a0 Z = true) {mm : Nat} (wn : (Jvm.Cond.instantiable b'.y.cls mm).before a0 Z = true) (wi : (Jvm.Cond.instanceMethod b'.y).before a0 Z = true) (w3 : (Jvm.Cond.initialized b'.y.cls).before a0 Z = true) (w4 : (Jvm.Cond.code b'.y b'.bytes b'.maxL b'.ret).before a0 Z = true)
    (hy : b'.y.cls ≠ "java/lang/invoke/MethodHandle" ∧ b'.y.cls ≠ "java/lang/invoke/VarHandle") (hsig : parseMethodDescriptor b'.y.desc = some sig) (hlen : argsL.length = sig.parameters.length) (has : (.ref a :: argsL).toArray = as') (hst : st' = argsL.reverse ++ .ref a :: st) (hsz : Ls.size = b.maxL) (hW : (st.map fun v => v.category).sum = W) (hf : b'.R.frames + 1 ≤ b.R.frames) (hl : W + (b'.maxL + 11) + b'.R.locals ≤ b.R.locals)
    (hk : k + b'.R.cells = k') (hn : n + b'.R.slots = n') (hk2 : k' ≤ b.R.cells) (hn2 : n' ≤ b.R.slots) (hq : pc + 3 = q) (K : ∀ v T' h', oPos l Z n0 w b T' h' k' n' → Q' v h' → oFin w b n0 Q T' q Ls (v.toList ++ st)) : oFin w b n0 Q T pc Ls st' := by
  subst hq hk hn has hst
  obtain ⟨hx, hZ, hown, hby, hml, hret, hlk, hnm, eT, locs, X, N⟩ := A
  obtain ⟨cq, qa, qb⟩ := E.cell
  obtain ⟨v, _, ⟨T', L', k', n'⟩, -, X', ⟨Lc, hQ', l', y', z'⟩, stp⟩ := X.privateBack hx (y := b'.y) hown (mvT hZ w1) (mvT hZ wi) (mvT hZ (o_selP hy wn wp wi)) (Cond.privateMethod_at (mvP hZ wp (args := #[]))) (mvT hZ w4) hy (backOf (W := W) (Q := fun v h' L => Q' v h' ∧ Fr n0 L) hM hZ w4 w3 hf hl) (g := mkF w.2.2.2.1 pc Ls (argsL.reverse ++ .ref a :: st)) rfl (hsz.trans hml.symm) (Steps.refl _) (a := a) (by rw [eT]; exact qa) qb (argsL := argsL) (rest := st) (lenOf hsig hlen) rfl (by show 2 * 0 + _ ≤ _; omega) (hb hby hd) (fun _ _ => ⟨rfl, eT, hk2, hn2⟩)
  dsimp only [Pt.U, Pt.locs, Pt.cells, Pt.slots] at X' l' y' z' stp hQ'
  subst l' y' z'
  exact o_go (fun t kk => stp.trans kk) (K v T' _ ⟨hx, hZ, hown, hby, hml, hret, hlk, hnm, rfl, _, X', Fr.app N hQ'.2⟩ hQ'.1)
theorem o_callC (A : oPos l Z n0 w b T h k n) {b' : oBd} {as' : Array Value} {Q' : Option Value → Heap → Prop} {a : Addr} {index W k' n' : Nat} {argsL : List Value} {sig : MethodDescriptor} (hM : oMet l b' [] Z n0 as' h Q') (hd : decode b.bytes pc = .ok (.invokespecial index, 3)) (hi : b'.y.name = "<init>") (w1 : (Jvm.Cond.methodLink b.y.cls index b'.y).before a0 Z = true) (wi : (Jvm.Cond.instanceMethod b'.y).before a0 Z = true) (w3 : (Jvm.Cond.initialized b'.y.cls).before a0 Z = true) (w4 : (Jvm.Cond.code b'.y b'.bytes b'.maxL b'.ret).before a0 Z = true) (hrn : b'.ret = none)
    (hy : b'.y.cls ≠ "java/lang/invoke/MethodHandle" ∧ b'.y.cls ≠ "java/lang/invoke/VarHandle") (hsig : parseMethodDescriptor b'.y.desc = some sig) (hlen : argsL.length = sig.parameters.length) (has : (.ref a :: argsL).toArray = as') (hst : st' = argsL.reverse ++ .ref a :: st) (hsz : Ls.size = b.maxL) (hW : (st.map fun v => v.category).sum = W) (hf : b'.R.frames + 1 ≤ b.R.frames) (hl : W + (b'.maxL + 11) + b'.R.locals ≤ b.R.locals)
    (hk : k + b'.R.cells = k') (hn : n + b'.R.slots = n') (hk2 : k' ≤ b.R.cells) (hn2 : n' ≤ b.R.slots) (hq : pc + 3 = q) (K : ∀ v T' h', oPos l Z n0 w b T' h' k' n' → Q' v h' → oFin w b n0 Q T' q Ls (v.toList ++ st)) : oFin w b n0 Q T pc Ls st' := by
  subst hq hk hn has hst
  obtain ⟨hx, hZ, hown, hby, hml, hret, hlk, hnm, eT, locs, X, N⟩ := A
  obtain ⟨v, _, ⟨T', L', k', n'⟩, -, X', ⟨Lc, hQ', l', y', z'⟩, stp⟩ := X.specialBack hx (y := b'.y) hi hown (mvT hZ w1) (mvT hZ wi) (bytes := b'.bytes) (maxL := b'.maxL) (mvT hZ (by rw [← hrn]; exact w4)) hy (backOf (W := W) (Q := fun v h' L => Q' v h' ∧ Fr n0 L) hM hZ w4 w3 hf hl) (g := mkF w.2.2.2.1 pc Ls (argsL.reverse ++ .ref a :: st)) rfl (hsz.trans hml.symm) (Steps.refl _) (a := a) (argsL := argsL) (rest := st) (lenOf hsig hlen) rfl (by show 2 * 0 + _ ≤ _; omega) (hb hby hd) (fun _ _ => ⟨rfl, eT, hk2, hn2⟩)
  dsimp only [Pt.U, Pt.locs, Pt.cells, Pt.slots] at X' l' y' z' stp hQ'
  subst l' y' z'
  exact o_go (fun t kk => stp.trans kk) (K v T' _ ⟨hx, hZ, hown, hby, hml, hret, hlk, hnm, rfl, _, X', Fr.app N hQ'.2⟩ hQ'.1)

/-- an array of n places; place i holds f i -/
def oArr (Z : State) (h : Heap) (a : Addr) (ty : FieldType) (n : Nat) (f : Nat → Value) : Prop := n < 2 ^ 31 ∧ ∃ c : Cell, Arr Z h a c ty ∧ c.slots.size = n ∧ ∀ i, i < n → c.slots[i]? = some (f i)
theorem o_ix {j : Int32} {i m : Nat} (hj : j.toInt = (i : Int)) (hi : i < m) : j.toNatClampNeg = i ∧ ¬ (j < 0 ∨ m ≤ j.toNatClampNeg) := by
  have e1 : j.toNatClampNeg = i := by
    show j.toInt.toNat = i
    rw [hj]; rfl
  refine ⟨e1, ?_⟩
  rw [e1, Int32.lt_iff_toInt_lt, hj, Int32.toInt_zero]
  omega
section Arrays
variable {h1 h2 : Heap} {a c : Addr} {ty : FieldType} {m : Nat} {f : Nat → Value} {sl : Nat} {v : Value} {ws : List Addr}
theorem oArr.lt (F : oArr Z h1 a ty m f) : a < h1.size := by obtain ⟨-, c, A, -⟩ := F; exact A.lt
theorem oArr.ext (F : oArr Z h1 a ty m f) (E : Ext h1 h2) : oArr Z h2 a ty m f := by obtain ⟨q, c, A, r⟩ := F; exact ⟨q, c, A.ext E, r⟩
theorem oArr.other (F : oArr Z h1 a ty m f) (W : Wr h1 h2 c sl v) (q : a ≠ c) : oArr Z h2 a ty m f := by obtain ⟨p, c, A, r⟩ := F; exact ⟨p, c, A.other W q, r⟩
theorem oArr.keep (F : oArr Z h1 a ty m f) (K : Keep h1 h2 ws) (q : a ∉ ws) : oArr Z h2 a ty m f := by obtain ⟨p, c, A, r⟩ := F; exact ⟨p, c, ⟨K.2.1 a c A.1 q, A.2⟩, r⟩
theorem oArr.same (F : oArr Z h1 a ty m f) (W : Wr h1 h2 a sl v) : oArr Z h2 a ty m (fun i => if i = sl then v else f i) := by
  obtain ⟨p, c, A, S, H⟩ := F
  refine ⟨p, _, A.same W, by rw [← S]; simp [Cell.setSlot], fun i hi => ?_⟩
  show (c.slots.setIfInBounds sl v)[i]? = _
  by_cases e : i = sl
  · subst e
    simp [S, hi]
  · simp only [if_neg e]
    rw [Array.getElem?_setIfInBounds_ne (Ne.symm e)]
    exact H i hi
theorem oArr.congr {f' : Nat → Value} (F : oArr Z h1 a ty m f) (q : ∀ i, i < m → f i = f' i) : oArr Z h1 a ty m f' := by
  obtain ⟨p, c, A, S, H⟩ := F
  exact ⟨p, c, A, S, fun i hi => by rw [← q i hi]; exact H i hi⟩
end Arrays
theorem o_arraylength (A : oPos l Z n0 w b T h k n) {a : Addr} {ty : FieldType} {m : Nat} {f : Nat → Value} {z : Int32} (hd : decode b.bytes pc = .ok (.arraylength, 1)) (F : oArr Z h a ty m f) (hz : m.toInt32 = z) (hq : pc + 1 = q) (K : oFin w b n0 Q T q Ls (.int z :: st)) : oFin w b n0 Q T pc Ls (.ref a :: st) := by
  subst hq hz
  obtain ⟨hx, hZ, hown, hby, hml, hret, hlk, hnm, eT, locs, X, N⟩ := A
  obtain ⟨-, c, Ar, S, -⟩ := F
  subst S
  exact o_go (fun t kk => X.arraylength hx (by rw [eT]; exact Ar.1) (State.isArrayOf_alike hZ.alike Ar.2.1) (g := mkF w.2.2.2.1 pc Ls (.ref a :: st)) rfl rfl (hb hby hd) t kk) K

theorem o_iaload (A : oPos l Z n0 w b T h k n) {a : Addr} {m i : Nat} {f : Nat → Value} {j : Int32} {v : Value} (hd : decode b.bytes pc = .ok (.iaload, 1)) (F : oArr Z h a .int m f) (hj : j.toInt = (i : Int)) (hi : i < m) (hv : f i = v) (hq : pc + 1 = q) (K : oFin w b n0 Q T q Ls (v :: st)) : oFin w b n0 Q T pc Ls (.int j :: .ref a :: st) := by
  subst hq hv
  obtain ⟨hx, hZ, hown, hby, hml, hret, hlk, hnm, eT, locs, X, N⟩ := A
  obtain ⟨-, c, Ar, S, H⟩ := F
  subst S
  exact o_go (fun t kk => X.iaload hx (j := j) (v := f i) (by rw [eT]; exact Ar.1) (State.isArrayOf_alike hZ.alike Ar.2.1) Ar.2.2 (o_ix hj hi).2 (by rw [(o_ix hj hi).1]; exact H i hi) (g := mkF w.2.2.2.1 pc Ls (.int j :: .ref a :: st)) rfl rfl (hb hby hd) t kk) K
theorem o_laload (A : oPos l Z n0 w b T h k n) {a : Addr} {m i : Nat} {f : Nat → Value} {j : Int32} {v : Value} (hd : decode b.bytes pc = .ok (.laload, 1)) (F : oArr Z h a .long m f) (hj : j.toInt = (i : Int)) (hi : i < m) (hv : f i = v) (hq : pc + 1 = q) (K : oFin w b n0 Q T q Ls (v :: st)) : oFin w b n0 Q T pc Ls (.int j :: .ref a :: st) := by
  subst hq hv
  obtain ⟨hx, hZ, hown, hby, hml, hret, hlk, hnm, eT, locs, X, N⟩ := A
  obtain ⟨-, c, Ar, S, H⟩ := F
  subst S
  exact o_go (fun t kk => X.laload hx (j := j) (v := f i) (by rw [eT]; exact Ar.1) (State.isArrayOf_alike hZ.alike Ar.2.1) Ar.2.2 (o_ix hj hi).2 (by rw [(o_ix hj hi).1]; exact H i hi) (g := mkF w.2.2.2.1 pc Ls (.int j :: .ref a :: st)) rfl rfl (hb hby hd) t kk) K
theorem o_baload (A : oPos l Z n0 w b T h k n) {a : Addr} {m i : Nat} {f : Nat → Value} {j : Int32} {v : Value} (hd : decode b.bytes pc = .ok (.baload, 1)) (F : oArr Z h a .byte m f) (hj : j.toInt = (i : Int)) (hi : i < m) (hv : f i = v) (hq : pc + 1 = q) (K : oFin w b n0 Q T q Ls (v :: st)) : oFin w b n0 Q T pc Ls (.int j :: .ref a :: st) := by
  subst hq hv
  obtain ⟨hx, hZ, hown, hby, hml, hret, hlk, hnm, eT, locs, X, N⟩ := A
  obtain ⟨-, c, Ar, S, H⟩ := F
  subst S
  exact o_go (fun t kk => X.baloadBytes hx (j := j) (v := f i) (by rw [eT]; exact Ar.1) (State.isArrayOf_alike hZ.alike Ar.2.1) Ar.2.2 (o_ix hj hi).2 (by rw [(o_ix hj hi).1]; exact H i hi) (g := mkF w.2.2.2.1 pc Ls (.int j :: .ref a :: st)) rfl rfl (hb hby hd) t kk) K
theorem o_aaload (A : oPos l Z n0 w b T h k n) {a : Addr} {m i : Nat} {f : Nat → Value} {j : Int32} {v : Value} {ty : FieldType} (hd : decode b.bytes pc = .ok (.aaload, 1)) (F : oArr Z h a ty m f) (hty : ty.isReference = true) (hj : j.toInt = (i : Int)) (hi : i < m) (hv : f i = v) (hq : pc + 1 = q) (K : oFin w b n0 Q T q Ls (v :: st)) : oFin w b n0 Q T pc Ls (.int j :: .ref a :: st) := by
  subst hq hv
  obtain ⟨hx, hZ, hown, hby, hml, hret, hlk, hnm, eT, locs, X, N⟩ := A
  obtain ⟨-, c, Ar, S, H⟩ := F
  subst S
  exact o_go (fun t kk => X.aaload hx (j := j) (v := f i) (by rw [eT]; exact Ar.1) (State.isArrayOf_alike hZ.alike Ar.2.1) hty Ar.2.2 (o_ix hj hi).2 (by rw [(o_ix hj hi).1]; exact H i hi) (g := mkF w.2.2.2.1 pc Ls (.int j :: .ref a :: st)) rfl rfl (hb hby hd) t kk) K
theorem o_iastore (A : oPos l Z n0 w b T h k n) {a : Addr} {m i : Nat} {f : Nat → Value} {j : Int32} {x : Int32} (hd : decode b.bytes pc = .ok (.iastore, 1)) (F : oArr Z h a .int m f) (hj : j.toInt = (i : Int)) (hi : i < m) (ha : n0 ≤ a) (hq : pc + 1 = q) (K : ∀ T' h', oPos l Z n0 w b T' h' k n → Wr h h' a i (.int x) → oFin w b n0 Q T' q Ls st) : oFin w b n0 Q T pc Ls (.int x :: .int j :: .ref a :: st) := by
  subst hq
  obtain ⟨hx, hZ, hown, hby, hml, hret, hlk, hnm, eT, locs, X, N⟩ := A
  obtain ⟨-, c, Ar, S, H⟩ := F
  subst S
  obtain ⟨e1, e2⟩ := o_ix hj hi
  obtain ⟨T', h', X', e', W, st'⟩ := stI X hx hZ eT Ar (j := j) e2 (g := mkF w.2.2.2.1 pc Ls (.int x :: .int j :: .ref a :: st)) rfl rfl (hb hby hd)
  rw [e1] at W
  exact o_go st' (K T' h' ⟨hx, hZ, hown, hby, hml, hret, hlk, hnm, e', _, X', Fr.snoc X' N ha⟩ W)
theorem o_lastore (A : oPos l Z n0 w b T h k n) {a : Addr} {m i : Nat} {f : Nat → Value} {j : Int32} {x : Int64} (hd : decode b.bytes pc = .ok (.lastore, 1)) (F : oArr Z h a .long m f) (hj : j.toInt = (i : Int)) (hi : i < m) (ha : n0 ≤ a) (hq : pc + 1 = q) (K : ∀ T' h', oPos l Z n0 w b T' h' k n → Wr h h' a i (.long x) → oFin w b n0 Q T' q Ls st) : oFin w b n0 Q T pc Ls (.long x :: .int j :: .ref a :: st) := by
  subst hq
  obtain ⟨hx, hZ, hown, hby, hml, hret, hlk, hnm, eT, locs, X, N⟩ := A
  obtain ⟨-, c, Ar, S, H⟩ := F
  subst S
  obtain ⟨e1, e2⟩ := o_ix hj hi
  obtain ⟨T', h', X', e', W, st'⟩ := stJ X hx hZ eT Ar (j := j) e2 (g := mkF w.2.2.2.1 pc Ls (.long x :: .int j :: .ref a :: st)) rfl rfl (hb hby hd)
  rw [e1] at W
  exact o_go st' (K T' h' ⟨hx, hZ, hown, hby, hml, hret, hlk, hnm, e', _, X', Fr.snoc X' N ha⟩ W)
theorem o_bastore (A : oPos l Z n0 w b T h k n) {a : Addr} {m i : Nat} {f : Nat → Value} {j : Int32} {x : Int32} (hd : decode b.bytes pc = .ok (.bastore, 1)) (F : oArr Z h a .byte m f) (hj : j.toInt = (i : Int)) (hi : i < m) (ha : n0 ≤ a) (hq : pc + 1 = q) (K : ∀ T' h', oPos l Z n0 w b T' h' k n → Wr h h' a i (.int (nar .byte x)) → oFin w b n0 Q T' q Ls st) : oFin w b n0 Q T pc Ls (.int x :: .int j :: .ref a :: st) := by
  subst hq
  obtain ⟨hx, hZ, hown, hby, hml, hret, hlk, hnm, eT, locs, X, N⟩ := A
  obtain ⟨-, c, Ar, S, H⟩ := F
  subst S
  obtain ⟨e1, e2⟩ := o_ix hj hi
  obtain ⟨T', h', X', e', W, st'⟩ := stB X hx hZ eT Ar (j := j) e2 (g := mkF w.2.2.2.1 pc Ls (.int x :: .int j :: .ref a :: st)) rfl rfl (hb hby hd)
  rw [e1] at W
  exact o_go st' (K T' h' ⟨hx, hZ, hown, hby, hml, hret, hlk, hnm, e', _, X', Fr.snoc X' N ha⟩ W)
theorem o_kept {s u : State} {h : Heap} (K : Jvm.Free.XT.Kept s u) (e : s.heap = h) : Ext h u.heap := by
  subst e
  refine ⟨Nat.le_of_not_lt fun q => ?_, K⟩
  have hlt : s.heap.size - 1 < s.heap.size := by omega
  have h1 := (Array.getElem?_eq_some_iff.mp (K (s.heap.size - 1) _ (Array.getElem?_eq_getElem hlt))).1
  omega
theorem o_ext {h h' : Heap} (K : Keep h h' []) : Ext h h' := ⟨K.1, fun x c q => K.2.1 x c q nin0⟩
theorem o_exrefl (h : Heap) : Ext h h := ⟨Nat.le_refl _, fun _ _ q => q⟩
theorem o_extr {h h' h2 : Heap} (E : Ext h h') (E2 : Ext h' h2) : Ext h h2 := ⟨Nat.le_trans E.1 E2.1, fun x c q => E2.2 x c (E.2 x c q)⟩
theorem o_exwr {h h' h2 : Heap} {a : Addr} {sl : Nat} {v : Value} (E : Ext h h') (W : Wr h' h2 a sl v) (q : h.size ≤ a) : Ext h h2 := by
  refine ⟨by rw [W.size]; exact E.1, fun x c hc => ?_⟩
  have hx : x < h.size := (Array.getElem?_eq_some_iff.mp hc).1
  obtain ⟨c', e1, -, -, -, e5, -⟩ := wr_at W (E.2 x c hc)
  rw [← e5 (Nat.ne_of_lt (Nat.lt_of_lt_of_le hx q))]; exact e1
/-- isArrayOf, carried back to the start's tables -/
theorem o_arrBack {Z u : State} (hal : Z.vm.Alike u.vm) {B : Cell} {t : FieldType} (hA : u.isArrayOf B t) {ad : String} (hf : u.vm.findClass ad = some B.cls) : Z.isArrayOf B t ∧ ∃ kZ, Z.vm.findClass ad = some B.cls ∧ Z.vm.classes[B.cls]? = some kZ ∧ ∃ comp, kZ.kind = .array comp t := by
  rw [hal.findClass] at hf
  obtain ⟨kZ, z1, -⟩ := Vm.findClass_spec hf
  obtain ⟨k', z2, z3⟩ := hal.2.2 _ _ z1
  obtain ⟨q0, k2, q1, comp, q2⟩ := hA
  cases q1.symm.trans z2
  have q3 : kZ.kind = .array comp t := by rw [← q2, z3]
  exact ⟨⟨q0, kZ, z1, comp, q3⟩, kZ, hf, z1, comp, q3⟩
theorem o_copyOfI (A : oPos l Z n0 w b T h k n) {a : Addr} {m j : Nat} {f : Nat → Int32} {z : Int32} {index W k' n' : Nat} (hd : decode b.bytes pc = .ok (.invokestatic index, 3)) (V : oArr Z h a .int m (fun i => .int (f i))) (E : Exa Z h a "[I") (hz : Int32.ofNat j = z) (hj : j ≤ 134217728) (w1 : (Jvm.Cond.methodLink b.y.cls index Jvm.Free.JA.CopyOfI.yN).before a0 Z = true) (w2 : (Jvm.Cond.static Jvm.Free.JA.CopyOfI.yN).before a0 Z = true) (w3 : (Jvm.Cond.initialized "java/util/Arrays").before a0 Z = true) (w4 : (Jvm.Cond.code Jvm.Free.JA.CopyOfI.yN Jvm.Free.JA.CopyOfI.yB 3 (some (.array .int))).before a0 Z = true)
    (ws : ∀ d ∈ Jvm.Free.JA.CopyOfI.site, d.before w.2.2.2.2.1 w.2.2.1 = true) (hsz : Ls.size = b.maxL) (hW : (st.map fun v => v.category).sum = W) (hf : 2 ≤ b.R.frames) (hl : W + 54 ≤ b.R.locals) (hk : k + 1 = k') (hn : n + j = n') (hk2 : k' ≤ b.R.cells) (hn2 : n' ≤ b.R.slots) (hq : pc + 3 = q)
    (K : ∀ T' h' r, r = h.size → oPos l Z n0 w b T' h' k' n' → Ext h h' → oArr Z h' r .int j (fun i => if i < m then .int (f i) else .int 0) → Exa Z h' r "[I" → oFin w b n0 Q T' q Ls (.ref r :: st)) : oFin w b n0 Q T pc Ls (.int z :: .ref a :: st) := by
  subst hq hk hn hz
  obtain ⟨hx, hZ, hown, hby, hml, hret, hlk, hnm, eT, locs, X, N⟩ := A
  obtain ⟨hm, cl, Ar, S, H⟩ := V
  obtain ⟨cl', kc, e1, e2, e3, e4, -⟩ := E
  cases e1.symm.trans Ar.1
  have hal : Z.vm.Alike w.2.2.1.vm := hZ.alike
  have hty : Jvm.Free.XT.Typed .int cl := fun i v hv => by
    have hi : i < cl.slots.size := (Array.getElem?_eq_some_iff.mp hv).1
    rw [H i (by omega)] at hv
    cases hv; rfl
  have htab : Jvm.Free.JA.CopyOfI.tab.before w.2.2.2.2.1 w.2.2.1 = true := Jvm.Free.XT.unparts (mvT hZ w4) (fun d hd' => (List.mem_cons.mp hd').elim (fun e => e ▸ mvT hZ w3) (ws d))
  obtain ⟨v, vm₁, ⟨T', L', k', n'⟩, hW₁, X', ⟨hE, l', y', z'⟩, stp⟩ := Jvm.LawKit.callS X hx (y := Jvm.Free.JA.CopyOfI.yN) hown (mvT hZ w1) (mvT hZ w2) (mvT hZ w3) (mvT hZ w4) (by decide) (Jvm.Free.JA.CopyOfI.pays (W := W) a cl j htab hf hl) (g := mkF w.2.2.2.1 pc Ls (.int (Int32.ofNat j) :: .ref a :: st)) rfl (hsz.trans hml.symm) (argsL := [.ref a, .int (Int32.ofNat j)]) (rest := st) (lenOf (show parseMethodDescriptor "([II)[I" = some ⟨[.array .int, .int], some (.array .int)⟩ by decide +kernel) rfl) rfl (by show 2 * 0 + _ ≤ _; omega) (hb hby hd)
    (fun vm₁ hv₁ => ⟨hk2, hn2, rfl, ⟨by show T.heap[a]? = _; rw [eT]; exact Ar.1, State.isArrayOf_alike (hal.trans hv₁.alike) Ar.2.1, Ar.2.2, by omega⟩, by show vm₁.findClass _ = _; rw [(hal.trans hv₁.alike).findClass]; exact e2, hty, hj⟩)
  dsimp only [Pt.U, Pt.locs, Pt.cells, Pt.slots] at X' l' y' z' stp hE
  subst l' y' z'
  obtain ⟨rfl, B, b1, b2, b3, b4, b5, b6⟩ := hE
  have halU : Z.vm.Alike T'.vm := hal.trans X'.warmed.alike
  obtain ⟨c1, kZ, c2, c3, comp, c4⟩ := o_arrBack halU b1.2.1 b3
  have hsz' : (T.setVm vm₁).heap.size = h.size := by rw [← eT]; rfl
  rw [hsz'] at b1 stp
  refine o_go stp (K T' _ _ rfl ⟨hx, hZ, hown, hby, hml, hret, hlk, hnm, rfl, _, X', by rw [List.append_nil]; exact N⟩ ?_ ⟨by omega, B, ⟨b1.1, c1, b1.2.2.1⟩, b4, fun i hi => ?_⟩ ⟨B, kZ, b1.1, c2, c3, by rw [b2]; rfl, fun q => by rw [c4] at q; cases q⟩)
  · exact o_kept b6 (by show T.heap = h; exact eT)
  · rw [b5 i hi]
    show some (cl.slots.getD i (defaultValue .int)) = some (if i < m then .int (f i) else .int 0)
    by_cases e : i < m
    · rw [if_pos e]
      have := H i e
      simp [Array.getD_eq_getD_getElem?, this]
    · rw [if_neg e]
      simp [Array.getD_eq_getD_getElem?, Array.getElem?_eq_none (show cl.slots.size ≤ i by omega)]; rfl
theorem o_copyOfJ (A : oPos l Z n0 w b T h k n) {a : Addr} {m j : Nat} {f : Nat → Int64} {z : Int32} {index W k' n' : Nat} (hd : decode b.bytes pc = .ok (.invokestatic index, 3)) (V : oArr Z h a .long m (fun i => .long (f i))) (E : Exa Z h a "[J") (hz : Int32.ofNat j = z) (hj : j ≤ 67108864) (w1 : (Jvm.Cond.methodLink b.y.cls index Jvm.Free.JA.CopyOfJ.yN).before a0 Z = true) (w2 : (Jvm.Cond.static Jvm.Free.JA.CopyOfJ.yN).before a0 Z = true) (w3 : (Jvm.Cond.initialized "java/util/Arrays").before a0 Z = true) (w4 : (Jvm.Cond.code Jvm.Free.JA.CopyOfJ.yN Jvm.Free.JA.CopyOfJ.yB 3 (some (.array .long))).before a0 Z = true)
    (ws : ∀ d ∈ Jvm.Free.JA.CopyOfJ.site, d.before w.2.2.2.2.1 w.2.2.1 = true) (hsz : Ls.size = b.maxL) (hW : (st.map fun v => v.category).sum = W) (hf : 2 ≤ b.R.frames) (hl : W + 54 ≤ b.R.locals) (hk : k + 1 = k') (hn : n + j = n') (hk2 : k' ≤ b.R.cells) (hn2 : n' ≤ b.R.slots) (hq : pc + 3 = q)
    (K : ∀ T' h' r, r = h.size → oPos l Z n0 w b T' h' k' n' → Ext h h' → oArr Z h' r .long j (fun i => if i < m then .long (f i) else .long 0) → Exa Z h' r "[J" → oFin w b n0 Q T' q Ls (.ref r :: st)) : oFin w b n0 Q T pc Ls (.int z :: .ref a :: st) := by
  subst hq hk hn hz
  obtain ⟨hx, hZ, hown, hby, hml, hret, hlk, hnm, eT, locs, X, N⟩ := A
  obtain ⟨hm, cl, Ar, S, H⟩ := V
  obtain ⟨cl', kc, e1, e2, e3, e4, -⟩ := E
  cases e1.symm.trans Ar.1
  have hal : Z.vm.Alike w.2.2.1.vm := hZ.alike
  have hty : Jvm.Free.XT.Typed .long cl := fun i v hv => by
    have hi : i < cl.slots.size := (Array.getElem?_eq_some_iff.mp hv).1
    rw [H i (by omega)] at hv
    cases hv; rfl
  have htab : Jvm.Free.JA.CopyOfJ.tab.before w.2.2.2.2.1 w.2.2.1 = true := Jvm.Free.XT.unparts (mvT hZ w4) (fun d hd' => (List.mem_cons.mp hd').elim (fun e => e ▸ mvT hZ w3) (ws d))
  obtain ⟨v, vm₁, ⟨T', L', k', n'⟩, hW₁, X', ⟨hE, l', y', z'⟩, stp⟩ := Jvm.LawKit.callS X hx (y := Jvm.Free.JA.CopyOfJ.yN) hown (mvT hZ w1) (mvT hZ w2) (mvT hZ w3) (mvT hZ w4) (by decide) (Jvm.Free.JA.CopyOfJ.pays (W := W) a cl j htab hf hl) (g := mkF w.2.2.2.1 pc Ls (.int (Int32.ofNat j) :: .ref a :: st)) rfl (hsz.trans hml.symm) (argsL := [.ref a, .int (Int32.ofNat j)]) (rest := st) (lenOf (show parseMethodDescriptor "([JI)[J" = some ⟨[.array .long, .int], some (.array .long)⟩ by decide +kernel) rfl) rfl (by show 2 * 0 + _ ≤ _; omega) (hb hby hd)
    (fun vm₁ hv₁ => ⟨hk2, hn2, rfl, ⟨by show T.heap[a]? = _; rw [eT]; exact Ar.1, State.isArrayOf_alike (hal.trans hv₁.alike) Ar.2.1, Ar.2.2, by omega⟩, by show vm₁.findClass _ = _; rw [(hal.trans hv₁.alike).findClass]; exact e2, hty, hj⟩)
  dsimp only [Pt.U, Pt.locs, Pt.cells, Pt.slots] at X' l' y' z' stp hE
  subst l' y' z'
  obtain ⟨rfl, B, b1, b2, b3, b4, b5, b6⟩ := hE
  have halU : Z.vm.Alike T'.vm := hal.trans X'.warmed.alike
  obtain ⟨c1, kZ, c2, c3, comp, c4⟩ := o_arrBack halU b1.2.1 b3
  have hsz' : (T.setVm vm₁).heap.size = h.size := by rw [← eT]; rfl
  rw [hsz'] at b1 stp
  refine o_go stp (K T' _ _ rfl ⟨hx, hZ, hown, hby, hml, hret, hlk, hnm, rfl, _, X', by rw [List.append_nil]; exact N⟩ ?_ ⟨by omega, B, ⟨b1.1, c1, b1.2.2.1⟩, b4, fun i hi => ?_⟩ ⟨B, kZ, b1.1, c2, c3, by rw [b2]; rfl, fun q => by rw [c4] at q; cases q⟩)
  · exact o_kept b6 (by show T.heap = h; exact eT)
  · rw [b5 i hi]
    show some (cl.slots.getD i (defaultValue .long)) = some (if i < m then .long (f i) else .long 0)
    by_cases e : i < m
    · rw [if_pos e]
      have := H i e
      simp [Array.getD_eq_getD_getElem?, this]
    · rw [if_neg e]
      simp [Array.getD_eq_getD_getElem?, Array.getElem?_eq_none (show cl.slots.size ≤ i by omega)]; rfl
theorem o_newarr (A : oPos l Z n0 w b T h k n) {aty : ArrayType} {ty : FieldType} {z : Int32} {m cap k' n' : Nat} (hd : decode b.bytes pc = .ok (.newarray aty, 2)) (hty : newarray.typeOf aty = ty) (wd : (Jvm.Cond.arrayClass ty).before a0 Z = true) (hz : z.toInt = (m : Int)) (hcap : m ≤ cap) (hbig : cap * 8 ≤ 536870912) (hk : k + 1 = k') (hn : n + cap = n') (hk2 : k' ≤ b.R.cells) (hn2 : n' ≤ b.R.slots) (hq : pc + 2 = q) {ad : String} (had : "[" ++ ty.toString = ad)
    (K : ∀ T' h' a, a = h.size → oPos l Z n0 w b T' h' k' n' → Ext h h' → oArr Z h' a ty m (fun _ => defaultValue ty) → Exa Z h' a ad → oFin w b n0 Q T' q Ls (.ref a :: st)) : oFin w b n0 Q T pc Ls (.int z :: st) := by
  subst hq hk hn hty
  obtain ⟨hx, hZ, hown, hby, hml, hret, hlk, hnm, eT, locs, X, N⟩ := A
  have e1 : z.toNatClampNeg = m := by show z.toInt.toNat = m; rw [hz]; rfl
  have e2 : ¬ z < 0 := by rw [Int32.lt_iff_toInt_lt, hz, Int32.toInt_zero]; omega
  obtain ⟨T', h', cA, X', e', E, Ar, Ea, st'⟩ := newPE X hx hZ wd eT (g := mkF w.2.2.2.1 pc Ls (.int z :: st)) rfl (hb hby hd) rfl e2 (cap := cap) (by rw [e1]; exact hcap) hbig hk2 hn2 had
  refine o_go st' (K T' h' _ rfl ⟨hx, hZ, hown, hby, hml, hret, hlk, hnm, e', _, X', N⟩ E ⟨?_, _, Ar, (sz_new _ _ _).trans e1, fun i hi => ?_⟩ Ea)
  · have := z.toInt_lt; omega
  · show (Array.replicate z.toNatClampNeg _)[i]? = _
    rw [e1]; simp [hi]
end Steps
end Jvm.OwnKit
namespace Jvm.Pilot.@@N@@
open Jvm Jvm.ClassFile Sem Op Lib Jvm.Free Jvm.Stand Jvm.LawKit Jvm.RoadKit Bundle Jvm.OwnKit Jvm.Pilot.@@N@@.Jvm.D
theorem own_lclt (x y : Int64) : lcmpW x y < 0 ↔ x < y := by rw [lcW]; exact lc_lt x y
theorem own_lceq (x y : Int64) : lcmpW x y = 0 ↔ x = y := by rw [lcW]; exact lc_eq x y
theorem own_max (y : Int64) : (if (1 : Int64) < y then y else 1) ≠ 0 := by
  split
  · rename_i h; intro e; rw [e] at h; exact absurd h (by decide)
  · decide
theorem own_r0 (f s : Int64) : f + 0 * s = f := by rw [Int64.zero_mul, Int64.add_zero]
theorem own_r1 (f i s : Int64) : f + (i + 1) * s - (f + i * s) = s := by grind
theorem own_r2 (f i j s : Int64) : f + (i + j) * s - f = (f + i * s - f) + (f + j * s - f) := by grind
theorem d1_0 : decode jdk_29_method_66_code 0 = .ok (.lload_n 0, 1) := by decide +kernel
theorem d1_1 : decode jdk_29_method_66_code 1 = .ok (.lload_n 2, 1) := by decide +kernel
theorem d1_2 : decode jdk_29_method_66_code 2 = .ok (.lcmp, 1) := by decide +kernel
theorem d1_3 : decode jdk_29_method_66_code 3 = .ok (.ifCond .lt 7, 3) := by decide +kernel
theorem d1_6 : decode jdk_29_method_66_code 6 = .ok (.lload_n 0, 1) := by decide +kernel
theorem d1_7 : decode jdk_29_method_66_code 7 = .ok (.goto 4, 3) := by decide +kernel
theorem d1_10 : decode jdk_29_method_66_code 10 = .ok (.lload_n 2, 1) := by decide +kernel
theorem d1_11 : decode jdk_29_method_66_code 11 = .ok (.lreturn, 1) := by decide +kernel
abbrev b1 : oBd := (⟨"java/lang/Math", "max", "(JJ)J"⟩, jdk_29_method_66_code, 4, (some .long), { frames := 0, cells := 0, slots := 0, locals := 0 })
theorem pd1 : parseMethodDescriptor "(JJ)J" = some ⟨[.long, .long], some .long⟩ := by decide +kernel
theorem pn1 : plainFor b1.y = true := Jvm.Free.JP.mathPlain rfl (by decide +kernel)
theorem d2_0 : decode prog_3_method_1_code 0 = .ok (.aload_n 0, 1) := by decide +kernel
theorem d2_1 : decode prog_3_method_1_code 1 = .ok (.invokespecial 1, 3) := by decide +kernel
theorem d2_4 : decode prog_3_method_1_code 4 = .ok (.aload_n 0, 1) := by decide +kernel
theorem d2_5 : decode prog_3_method_1_code 5 = .ok (.lload_n 1, 1) := by decide +kernel
theorem d2_6 : decode prog_3_method_1_code 6 = .ok (.putfield 7, 3) := by decide +kernel
theorem d2_9 : decode prog_3_method_1_code 9 = .ok (.aload_n 0, 1) := by decide +kernel
theorem d2_10 : decode prog_3_method_1_code 10 = .ok (.lload_n 3, 1) := by decide +kernel
theorem d2_11 : decode prog_3_method_1_code 11 = .ok (.putfield 13, 3) := by decide +kernel
theorem d2_14 : decode prog_3_method_1_code 14 = .ok (.aload_n 0, 1) := by decide +kernel
theorem d2_15 : decode prog_3_method_1_code 15 = .ok (.lload 5, 2) := by decide +kernel
theorem d2_17 : decode prog_3_method_1_code 17 = .ok (.putfield 16, 3) := by decide +kernel
theorem d2_20 : decode prog_3_method_1_code 20 = .ok (.return_, 1) := by decide +kernel
abbrev b2 : oBd := (⟨"com/example/kennung/kennung/Block", "<init>", "(JJJ)V"⟩, prog_3_method_1_code, 7, none, { frames := 1, cells := 0, slots := 0, locals := 12 })
theorem pd2 : parseMethodDescriptor "(JJJ)V" = some ⟨[.long, .long, .long], none⟩ := by decide +kernel
theorem pn2 : plainFor b2.y = true := plainFor_of_name (by first | (simp [plainName, overriddenIn]; done) | decide +kernel)
theorem d4_0 : decode prog_3_method_3_code 0 = .ok (.aload_n 0, 1) := by decide +kernel
theorem d4_1 : decode prog_3_method_3_code 1 = .ok (.getfield 7, 3) := by decide +kernel
theorem d4_4 : decode prog_3_method_3_code 4 = .ok (.lload_n 1, 1) := by decide +kernel
theorem d4_5 : decode prog_3_method_3_code 5 = .ok (.aload_n 0, 1) := by decide +kernel
theorem d4_6 : decode prog_3_method_3_code 6 = .ok (.getfield 16, 3) := by decide +kernel
theorem d4_9 : decode prog_3_method_3_code 9 = .ok (.lmul, 1) := by decide +kernel
theorem d4_10 : decode prog_3_method_3_code 10 = .ok (.ladd, 1) := by decide +kernel
theorem d4_11 : decode prog_3_method_3_code 11 = .ok (.lreturn, 1) := by decide +kernel
abbrev b4 : oBd := (⟨"com/example/kennung/kennung/Block", "value", "(J)J"⟩, prog_3_method_3_code, 3, (some .long), { frames := 0, cells := 0, slots := 0, locals := 0 })
theorem pd4 : parseMethodDescriptor "(J)J" = some ⟨[.long], some .long⟩ := by decide +kernel
theorem pn4 : plainFor b4.y = true := plainFor_of_name (by first | (simp [plainName, overriddenIn]; done) | decide +kernel)
abbrev b0 : oBd := (x, code, maxLocals, ret, room_1)
theorem pd0 : parseMethodDescriptor "(JJJJJ)Z" = some ⟨[.long, .long, .long, .long, .long], some .boolean⟩ := by decide +kernel
theorem pn0 : plainFor b0.y = true := plainFor_of_name (by first | (simp [plainName, overriddenIn]; done) | decide +kernel)
set_option maxRecDepth 65536 in
set_option maxHeartbeats 40000000 in
theorem rm1 (l : Launch) (Z : State) (a0 : Array Value) (hw : ∀ d ∈ tables_1, d.before a0 Z = true) (x y : Int64) (h0 : Heap) (n0 : Nat) :
    oMet l b1 [] Z n0 #[.long x, .long y] h0 (fun v h' => v = some (.long (if x < y then y else x)) ∧ h' = h0) := by
  refine o_enter pn1 (Ls := #[.val (.long x), .second, .val (.long y), .second]) (fun m => by first | (simp [entryFrame, mkF, argsToLocals, Value.category, oBd.maxL, b1]; done) | rfl) ?_
  intro w T0 A0
  refine o_lloadN (q := 1) A0 d1_0 rfl rfl ?_
  refine o_lloadN (q := 2) A0 d1_1 rfl rfl ?_
  refine o_lcmp (q := 3) A0 d1_2 rfl ?_
  refine o_if (q := 10) (q' := 6) A0 d1_3 (by decide) (by decide) rfl (fun hc => ?_) (fun hc => ?_)
  · replace hc : (lcmpW x y) < (0 : Int32) := hc
    refine o_lloadN (q := 11) A0 d1_10 rfl rfl ?_
    exact o_retJ A0 rfl d1_11 (by decide) (by decide) ⟨by rw [if_pos ((own_lclt _ _).mp hc)], rfl⟩
  · replace hc : ¬ ((lcmpW x y) < (0 : Int32)) := hc
    refine o_lloadN (q := 7) A0 d1_6 rfl rfl ?_
    refine o_goto (q := 11) A0 d1_7 (by decide) (by decide) ?_
    exact o_retJ A0 rfl d1_11 (by decide) (by decide) ⟨by rw [if_neg (fun q => hc ((own_lclt _ _).mpr q))], rfl⟩
set_option maxRecDepth 65536 in
set_option maxHeartbeats 40000000 in
theorem rm2 (l : Launch) (Z : State) (a0 : Array Value) (hw : ∀ d ∈ tables_1, d.before a0 Z = true) (a : Addr) (f s t : Int64) (h0 : Heap) (n0 : Nat) (E : Exa Z h0 a "com/example/kennung/kennung/Block") (F1 : Fld Z h0 a "com/example/kennung/kennung/Block" "first" "J" (.long 0)) (F2 : Fld Z h0 a "com/example/kennung/kennung/Block" "size" "J" (.long 0)) (F3 : Fld Z h0 a "com/example/kennung/kennung/Block" "step" "J" (.long 0)) (ga : n0 ≤ a) :
    oMet l b2 [] Z n0 #[.ref a, .long f, .long s, .long t] h0 (fun v h' => v = none ∧ Keep h0 h' [a] ∧ Exa Z h' a "com/example/kennung/kennung/Block" ∧ Fld Z h' a "com/example/kennung/kennung/Block" "first" "J" (.long f) ∧ Fld Z h' a "com/example/kennung/kennung/Block" "step" "J" (.long t)) := by
  refine o_enter pn2 (Ls := #[.val (.ref a), .val (.long f), .second, .val (.long s), .second, .val (.long t), .second]) (fun m => by first | (simp [entryFrame, mkF, argsToLocals, Value.category, oBd.maxL, b2]; done) | rfl) ?_
  intro w T0 A0
  refine o_aloadN (q := 1) A0 d2_0 rfl rfl rfl ?_
  refine o_initO (q := 4) (W := 0) A0 d2_1 (hw _ (List.mem_of_getElem? (i := 11) rfl)) (hw _ (List.mem_of_getElem? (i := 12) rfl)) (hw _ (List.mem_of_getElem? (i := 13) rfl)) rfl (by decide) rfl (by decide) rfl (fun T1 A1 => ?_)
  refine o_aloadN (q := 5) A1 d2_4 rfl rfl rfl ?_
  refine o_lloadN (q := 6) A1 d2_5 rfl rfl ?_
  refine o_putF (q := 9) A1 d2_6 (hw _ (List.mem_of_getElem? (i := 14) rfl)) F1 E (Or.inr ⟨(hw _ (List.mem_of_getElem? (i := 15) rfl)), rfl, rfl⟩) (hw _ (List.mem_of_getElem? (i := 6) rfl)) (ty := .long) (by decide) rfl rfl ga rfl (fun T2 h2 A2 W2 => ?_)
  refine o_aloadN (q := 10) A2 d2_9 rfl rfl rfl ?_
  refine o_lloadN (q := 11) A2 d2_10 rfl rfl ?_
  refine o_putF (q := 14) A2 d2_11 (hw _ (List.mem_of_getElem? (i := 16) rfl)) (F2.other W2 (Or.inr (slot_ne (Or.inr (hw _ (List.mem_of_getElem? (i := 17) rfl))) (Or.inr (hw _ (List.mem_of_getElem? (i := 15) rfl))) (by decide) (t := .long) (t' := .long) (by decide) (by decide)))) (E.wr W2) (Or.inr ⟨(hw _ (List.mem_of_getElem? (i := 17) rfl)), rfl, rfl⟩) (hw _ (List.mem_of_getElem? (i := 6) rfl)) (ty := .long) (by decide) rfl rfl ga rfl (fun T3 h3 A3 W3 => ?_)
  refine o_aloadN (q := 15) A3 d2_14 rfl rfl rfl ?_
  refine o_lload (q := 17) A3 d2_15 rfl rfl ?_
  refine o_putF (q := 20) A3 d2_17 (hw _ (List.mem_of_getElem? (i := 18) rfl)) ((F3.other W2 (Or.inr (slot_ne (Or.inr (hw _ (List.mem_of_getElem? (i := 19) rfl))) (Or.inr (hw _ (List.mem_of_getElem? (i := 15) rfl))) (by decide) (t := .long) (t' := .long) (by decide) (by decide)))).other W3 (Or.inr (slot_ne (Or.inr (hw _ (List.mem_of_getElem? (i := 19) rfl))) (Or.inr (hw _ (List.mem_of_getElem? (i := 17) rfl))) (by decide) (t := .long) (t' := .long) (by decide) (by decide)))) ((E.wr W2).wr W3) (Or.inr ⟨(hw _ (List.mem_of_getElem? (i := 19) rfl)), rfl, rfl⟩) (hw _ (List.mem_of_getElem? (i := 6) rfl)) (ty := .long) (by decide) rfl rfl ga rfl (fun T4 h4 A4 W4 => ?_)
  exact o_retV A4 rfl d2_20 (by decide) (by decide) ⟨rfl, (((Keep.refl h0 [a]).wr W2 (Or.inl (List.mem_of_getElem? (i := 0) rfl))).wr W3 (Or.inl (List.mem_of_getElem? (i := 0) rfl))).wr W4 (Or.inl (List.mem_of_getElem? (i := 0) rfl)), ((E.wr W2).wr W3).wr W4, ((F1.same W2).other W3 (Or.inr (slot_ne (Or.inr (hw _ (List.mem_of_getElem? (i := 15) rfl))) (Or.inr (hw _ (List.mem_of_getElem? (i := 17) rfl))) (by decide) (t := .long) (t' := .long) (by decide) (by decide)))).other W4 (Or.inr (slot_ne (Or.inr (hw _ (List.mem_of_getElem? (i := 15) rfl))) (Or.inr (hw _ (List.mem_of_getElem? (i := 19) rfl))) (by decide) (t := .long) (t' := .long) (by decide) (by decide))), ((F3.other W2 (Or.inr (slot_ne (Or.inr (hw _ (List.mem_of_getElem? (i := 19) rfl))) (Or.inr (hw _ (List.mem_of_getElem? (i := 15) rfl))) (by decide) (t := .long) (t' := .long) (by decide) (by decide)))).other W3 (Or.inr (slot_ne (Or.inr (hw _ (List.mem_of_getElem? (i := 19) rfl))) (Or.inr (hw _ (List.mem_of_getElem? (i := 17) rfl))) (by decide) (t := .long) (t' := .long) (by decide) (by decide)))).same W4⟩
set_option maxRecDepth 65536 in
set_option maxHeartbeats 40000000 in
theorem rm4 (l : Launch) (Z : State) (a0 : Array Value) (hw : ∀ d ∈ tables_1, d.before a0 Z = true) (a : Addr) (f t i : Int64) (h0 : Heap) (n0 : Nat) (F1 : Fld Z h0 a "com/example/kennung/kennung/Block" "first" "J" (.long f)) (F3 : Fld Z h0 a "com/example/kennung/kennung/Block" "step" "J" (.long t)) :
    oMet l b4 [] Z n0 #[.ref a, .long i] h0 (fun v h' => v = some (.long (f + i * t)) ∧ h' = h0) := by
  refine o_enter pn4 (Ls := #[.val (.ref a), .val (.long i), .second]) (fun m => by first | (simp [entryFrame, mkF, argsToLocals, Value.category, oBd.maxL, b4]; done) | rfl) ?_
  intro w T0 A0
  refine o_aloadN (q := 1) A0 d4_0 rfl rfl rfl ?_
  refine o_getF (q := 4) A0 d4_1 (hw _ (List.mem_of_getElem? (i := 14) rfl)) F1 rfl (fun T1 A1 => ?_)
  refine o_lloadN (q := 5) A1 d4_4 rfl rfl ?_
  refine o_aloadN (q := 6) A1 d4_5 rfl rfl rfl ?_
  refine o_getF (q := 9) A1 d4_6 (hw _ (List.mem_of_getElem? (i := 18) rfl)) F3 rfl (fun T2 A2 => ?_)
  refine o_lmul (q := 10) A2 d4_9 rfl ?_
  refine o_ladd (q := 11) A2 d4_10 rfl ?_
  exact o_retJ A2 rfl d4_11 (by decide) (by decide) ⟨rfl, rfl⟩
set_option maxRecDepth 65536 in
set_option maxHeartbeats 40000000 in
theorem rm0 (l : Launch) (Z : State) (a0 : Array Value) (hw : ∀ d ∈ tables_1, d.before a0 Z = true) (ws : List Jvm.Cond) (q1 q2 q3 q4 q5 : Int64) (h0 : Heap) (n0 : Nat) (Z0 : n0 ≤ h0.size) :
    oMet l b0 ws Z n0 #[.long q1, .long q2, .long q3, .long q4, .long q5] h0 (fun v h' => v = some (.int 1)) := by
  refine o_enter pn0 (Ls := #[.val (.long q1), .second, .val (.long q2), .second, .val (.long q3), .second, .val (.long q4), .second, .val (.long q5), .second, .unset, .unset, .unset, .unset, .unset, .unset, .unset, .unset, .unset, .unset, .unset, .unset, .unset]) (fun m => by first | (simp [entryFrame, mkF, argsToLocals, Value.category, oBd.maxL, b0, maxLocals]; done) | rfl) ?_
  intro w T0 A0
  refine o_lconst (q := 1) (z := 1) A0 at_0 rfl rfl ?_
  refine o_lloadN (q := 2) A0 at_1 rfl rfl ?_
  refine o_ldc2 (q := 5) A0 at_2 (hw _ (List.mem_of_getElem? (i := 0) rfl)) rfl ?_
  refine o_land (q := 6) A0 at_5 rfl ?_
  refine o_callS (q := 9) (W := 0) (k' := 0) (n' := 0) (st := []) (argsL := [.long (1 : Int64), .long (q2 &&& (9223372036854775807 : Int64))]) (b' := b1) A0 (rm1 l Z a0 hw 1 (q2 &&& 9223372036854775807) h0 n0) at_6 (hw _ (List.mem_of_getElem? (i := 1) rfl)) (hw _ (List.mem_of_getElem? (i := 2) rfl)) (hw _ (List.mem_of_getElem? (i := 3) rfl)) (hw _ (List.mem_of_getElem? (i := 4) rfl)) (by decide) pd1 rfl rfl rfl rfl rfl (by decide) (by decide) rfl rfl (by decide) (by decide) rfl (fun v1 T1 h1 A1 hQ1 => ?_)
  obtain ⟨rfl, rfl⟩ := hQ1
  show oFin _ _ _ _ T1 9 #[.val (.long q1), .second, .val (.long q2), .second, .val (.long q3), .second, .val (.long q4), .second, .val (.long q5), .second, .unset, .unset, .unset, .unset, .unset, .unset, .unset, .unset, .unset, .unset, .unset, .unset, .unset] [.long (if (1 : Int64) < (q2 &&& (9223372036854775807 : Int64)) then (q2 &&& (9223372036854775807 : Int64)) else (1 : Int64))]
  have hz : (if (1 : Int64) < (q2 &&& (9223372036854775807 : Int64)) then (q2 &&& (9223372036854775807 : Int64)) else (1 : Int64)) ≠ 0 := own_max _
  generalize (if (1 : Int64) < (q2 &&& (9223372036854775807 : Int64)) then (q2 &&& (9223372036854775807 : Int64)) else (1 : Int64)) = sz at hz ⊢
  show oFin _ _ _ _ T1 9 #[.val (.long q1), .second, .val (.long q2), .second, .val (.long q3), .second, .val (.long q4), .second, .val (.long q5), .second, .unset, .unset, .unset, .unset, .unset, .unset, .unset, .unset, .unset, .unset, .unset, .unset, .unset] [.long sz]
  refine o_lstore (q := 11) (Ls' := #[.val (.long q1), .second, .val (.long q2), .second, .val (.long q3), .second, .val (.long q4), .second, .val (.long q5), .second, .val (.long sz), .second, .unset, .unset, .unset, .unset, .unset, .unset, .unset, .unset, .unset, .unset, .unset]) A1 at_9 rfl rfl ?_
  refine o_newO (q := 14) (k' := 1) (n' := 3) A1 at_11 (hw _ (List.mem_of_getElem? (i := 5) rfl)) (hw _ (List.mem_of_getElem? (i := 6) rfl)) (hw _ (List.mem_of_getElem? (i := 7) rfl)) rfl rfl (by decide) (by decide) rfl (fun T2 h2 a ga A2 X2 Ea Da => ?_)
  have F1 : Fld Z h2 a "com/example/kennung/kennung/Block" "first" "J" (.long 0) := Da (Or.inr (hw _ (List.mem_of_getElem? (i := 15) rfl))) (ty := .long) (by decide)
  have F2 : Fld Z h2 a "com/example/kennung/kennung/Block" "size" "J" (.long 0) := Da (Or.inr (hw _ (List.mem_of_getElem? (i := 17) rfl))) (ty := .long) (by decide)
  have F3 : Fld Z h2 a "com/example/kennung/kennung/Block" "step" "J" (.long 0) := Da (Or.inr (hw _ (List.mem_of_getElem? (i := 19) rfl))) (ty := .long) (by decide)
  have ha : n0 ≤ a := by rw [ga]; exact Z0
  refine o_dup (q := 15) A2 at_14 rfl rfl ?_
  refine o_lloadN (q := 16) A2 at_15 rfl rfl ?_
  refine o_lload (q := 18) A2 at_16 rfl rfl ?_
  refine o_lload (q := 20) A2 at_18 rfl rfl ?_
  refine o_callC (q := 23) (W := 1) (k' := 1) (n' := 3) (st := [.ref a]) (argsL := [.long q1, .long sz, .long q3]) (b' := b2) (a := a) A2 (rm2 l Z a0 hw a q1 sz q3 h2 n0 Ea F1 F2 F3 ha) at_20 rfl (hw _ (List.mem_of_getElem? (i := 8) rfl)) (hw _ (List.mem_of_getElem? (i := 9) rfl)) (hw _ (List.mem_of_getElem? (i := 7) rfl)) (hw _ (List.mem_of_getElem? (i := 10) rfl)) rfl (by decide) pd2 rfl rfl rfl rfl rfl (by decide) (by decide) rfl rfl (by decide) (by decide) rfl (fun v3 T3 h3 A3 hQ3 => ?_)
  obtain ⟨rfl, -, Eb, G1, G3⟩ := hQ3
  show oFin _ _ _ _ T3 23 #[.val (.long q1), .second, .val (.long q2), .second, .val (.long q3), .second, .val (.long q4), .second, .val (.long q5), .second, .val (.long sz), .second, .unset, .unset, .unset, .unset, .unset, .unset, .unset, .unset, .unset, .unset, .unset] [.ref a]
  refine o_astore (q := 25) (Ls' := #[.val (.long q1), .second, .val (.long q2), .second, .val (.long q3), .second, .val (.long q4), .second, .val (.long q5), .second, .val (.long sz), .second, .val (.ref a), .unset, .unset, .unset, .unset, .unset, .unset, .unset, .unset, .unset, .unset]) A3 at_23 rfl rfl rfl ?_
  refine o_lload (q := 27) A3 at_25 rfl rfl ?_
  refine o_ldc2 (q := 30) A3 at_27 (hw _ (List.mem_of_getElem? (i := 0) rfl)) rfl ?_
  refine o_land (q := 31) A3 at_30 rfl ?_
  refine o_lload (q := 33) A3 at_31 rfl rfl ?_
  refine o_lrem (q := 34) A3 at_33 hz rfl ?_
  refine o_lstore (q := 36) (Ls' := #[.val (.long q1), .second, .val (.long q2), .second, .val (.long q3), .second, .val (.long q4), .second, .val (.long q5), .second, .val (.long sz), .second, .val (.ref a), .val (.long ((q4 &&& (9223372036854775807 : Int64)) - ((q4 &&& (9223372036854775807 : Int64)) / sz) * sz)), .second, .unset, .unset, .unset, .unset, .unset, .unset, .unset, .unset]) A3 at_34 rfl rfl ?_
  refine o_lload (q := 38) A3 at_36 rfl rfl ?_
  refine o_ldc2 (q := 41) A3 at_38 (hw _ (List.mem_of_getElem? (i := 0) rfl)) rfl ?_
  refine o_land (q := 42) A3 at_41 rfl ?_
  refine o_lload (q := 44) A3 at_42 rfl rfl ?_
  generalize ((q4 &&& (9223372036854775807 : Int64)) - ((q4 &&& (9223372036854775807 : Int64)) / sz) * sz) = i
  show oFin _ _ _ _ T3 44 #[.val (.long q1), .second, .val (.long q2), .second, .val (.long q3), .second, .val (.long q4), .second, .val (.long q5), .second, .val (.long sz), .second, .val (.ref a), .val (.long i), .second, .unset, .unset, .unset, .unset, .unset, .unset, .unset, .unset] [.long sz, .long (q5 &&& (9223372036854775807 : Int64))]
  refine o_lrem (q := 45) A3 at_44 hz rfl ?_
  refine o_lstore (q := 47) (Ls' := #[.val (.long q1), .second, .val (.long q2), .second, .val (.long q3), .second, .val (.long q4), .second, .val (.long q5), .second, .val (.long sz), .second, .val (.ref a), .val (.long i), .second, .val (.long ((q5 &&& (9223372036854775807 : Int64)) - ((q5 &&& (9223372036854775807 : Int64)) / sz) * sz)), .second, .unset, .unset, .unset, .unset, .unset, .unset]) A3 at_45 rfl rfl ?_
  generalize ((q5 &&& (9223372036854775807 : Int64)) - ((q5 &&& (9223372036854775807 : Int64)) / sz) * sz) = j
  show oFin _ _ _ _ T3 47 #[.val (.long q1), .second, .val (.long q2), .second, .val (.long q3), .second, .val (.long q4), .second, .val (.long q5), .second, .val (.long sz), .second, .val (.ref a), .val (.long i), .second, .val (.long j), .second, .unset, .unset, .unset, .unset, .unset, .unset] []
  refine o_aload (q := 49) A3 at_47 rfl rfl rfl ?_
  refine o_lconst (q := 50) (z := 0) A3 at_49 rfl rfl ?_
  refine o_callV (q := 53) (W := 0) (k' := 1) (n' := 3) (st := []) (argsL := [.long (0 : Int64)]) (b' := b4) A3 (rm4 l Z a0 hw a q1 q3 (0 : Int64) h3 n0 G1 G3) at_50 Eb (hw _ (List.mem_of_getElem? (i := 20) rfl)) (hw _ (List.mem_of_getElem? (i := 21) rfl)) (hw _ (List.mem_of_getElem? (i := 23) rfl)) (hw _ (List.mem_of_getElem? (i := 22) rfl)) (hw _ (List.mem_of_getElem? (i := 7) rfl)) (hw _ (List.mem_of_getElem? (i := 24) rfl)) (by decide) pd4 rfl rfl rfl rfl rfl (by decide) (by decide) rfl rfl (by decide) (by decide) rfl (fun v4 T4 h4 A4 hQ4 => ?_)
  obtain ⟨rfl, rfl⟩ := hQ4
  show oFin _ _ _ _ T4 53 #[.val (.long q1), .second, .val (.long q2), .second, .val (.long q3), .second, .val (.long q4), .second, .val (.long q5), .second, .val (.long sz), .second, .val (.ref a), .val (.long i), .second, .val (.long j), .second, .unset, .unset, .unset, .unset, .unset, .unset] [.long (q1 + (0 : Int64) * q3)]
  refine o_lloadN (q := 54) A4 at_53 rfl rfl ?_
  refine o_lcmp (q := 55) A4 at_54 rfl ?_
  refine o_if (q := 60) (q' := 58) A4 at_55 (by decide) (by decide) rfl (fun hc => ?_) (fun hc => ?_)
  · replace hc : (lcmpW (q1 + (0 : Int64) * q3) q1) = (0 : Int32) := hc
    refine o_aload (q := 62) A4 at_60 rfl rfl rfl ?_
    refine o_lload (q := 64) A4 at_62 rfl rfl ?_
    refine o_callV (q := 67) (W := 0) (k' := 1) (n' := 3) (st := []) (argsL := [.long i]) (b' := b4) A4 (rm4 l Z a0 hw a q1 q3 i h4 n0 G1 G3) at_64 Eb (hw _ (List.mem_of_getElem? (i := 20) rfl)) (hw _ (List.mem_of_getElem? (i := 21) rfl)) (hw _ (List.mem_of_getElem? (i := 23) rfl)) (hw _ (List.mem_of_getElem? (i := 22) rfl)) (hw _ (List.mem_of_getElem? (i := 7) rfl)) (hw _ (List.mem_of_getElem? (i := 24) rfl)) (by decide) pd4 rfl rfl rfl rfl rfl (by decide) (by decide) rfl rfl (by decide) (by decide) rfl (fun v5 T5 h5 A5 hQ5 => ?_)
    obtain ⟨rfl, rfl⟩ := hQ5
    show oFin _ _ _ _ T5 67 #[.val (.long q1), .second, .val (.long q2), .second, .val (.long q3), .second, .val (.long q4), .second, .val (.long q5), .second, .val (.long sz), .second, .val (.ref a), .val (.long i), .second, .val (.long j), .second, .unset, .unset, .unset, .unset, .unset, .unset] [.long (q1 + i * q3)]
    refine o_lstore (q := 69) (Ls' := #[.val (.long q1), .second, .val (.long q2), .second, .val (.long q3), .second, .val (.long q4), .second, .val (.long q5), .second, .val (.long sz), .second, .val (.ref a), .val (.long i), .second, .val (.long j), .second, .val (.long (q1 + i * q3)), .second, .unset, .unset, .unset, .unset]) A5 at_67 rfl rfl ?_
    refine o_lload (q := 71) A5 at_69 rfl rfl ?_
    refine o_lload (q := 73) A5 at_71 rfl rfl ?_
    refine o_lconst (q := 74) (z := 1) A5 at_73 rfl rfl ?_
    refine o_lsub (q := 75) A5 at_74 rfl ?_
    refine o_lcmp (q := 76) A5 at_75 rfl ?_
    refine o_if (q := 99) (q' := 79) A5 at_76 (by decide) (by decide) rfl (fun hd => ?_) (fun hd => ?_)
    · replace hd : (0 : Int32) ≤ (lcmpW i (sz - (1 : Int64))) := hd
      refine o_lload (q := 101) A5 at_99 rfl rfl ?_
      refine o_lload (q := 103) A5 at_101 rfl rfl ?_
      refine o_lconst (q := 104) (z := 1) A5 at_103 rfl rfl ?_
      refine o_lsub (q := 105) A5 at_104 rfl ?_
      refine o_lload (q := 107) A5 at_105 rfl rfl ?_
      refine o_lsub (q := 108) A5 at_107 rfl ?_
      refine o_lcmp (q := 109) A5 at_108 rfl ?_
      refine o_if (q := 152) (q' := 112) A5 at_109 (by decide) (by decide) rfl (fun he => ?_) (fun he => ?_)
      · replace he : (0 : Int32) < (lcmpW i ((sz - (1 : Int64)) - j)) := he
        refine o_iconst (q := 153) (z := 1) A5 at_152 rfl rfl ?_
        exact o_retN A5 rfl (by simp) at_153 (by decide) (by decide) rfl
      · replace he : ¬ ((0 : Int32) < (lcmpW i ((sz - (1 : Int64)) - j))) := he
        refine o_aload (q := 114) A5 at_112 rfl rfl rfl ?_
        refine o_lload (q := 116) A5 at_114 rfl rfl ?_
        refine o_callV (q := 119) (W := 0) (k' := 1) (n' := 3) (st := []) (argsL := [.long j]) (b' := b4) A5 (rm4 l Z a0 hw a q1 q3 j h5 n0 G1 G3) at_116 Eb (hw _ (List.mem_of_getElem? (i := 20) rfl)) (hw _ (List.mem_of_getElem? (i := 21) rfl)) (hw _ (List.mem_of_getElem? (i := 23) rfl)) (hw _ (List.mem_of_getElem? (i := 22) rfl)) (hw _ (List.mem_of_getElem? (i := 7) rfl)) (hw _ (List.mem_of_getElem? (i := 24) rfl)) (by decide) pd4 rfl rfl rfl rfl rfl (by decide) (by decide) rfl rfl (by decide) (by decide) rfl (fun v6 T6 h6 A6 hQ6 => ?_)
        obtain ⟨rfl, rfl⟩ := hQ6
        show oFin _ _ _ _ T6 119 #[.val (.long q1), .second, .val (.long q2), .second, .val (.long q3), .second, .val (.long q4), .second, .val (.long q5), .second, .val (.long sz), .second, .val (.ref a), .val (.long i), .second, .val (.long j), .second, .val (.long (q1 + i * q3)), .second, .unset, .unset, .unset, .unset] [.long (q1 + j * q3)]
        refine o_lstore (q := 121) (Ls' := #[.val (.long q1), .second, .val (.long q2), .second, .val (.long q3), .second, .val (.long q4), .second, .val (.long q5), .second, .val (.long sz), .second, .val (.ref a), .val (.long i), .second, .val (.long j), .second, .val (.long (q1 + i * q3)), .second, .val (.long (q1 + j * q3)), .second, .unset, .unset]) A6 at_119 rfl rfl ?_
        refine o_aload (q := 123) A6 at_121 rfl rfl rfl ?_
        refine o_lload (q := 125) A6 at_123 rfl rfl ?_
        refine o_lload (q := 127) A6 at_125 rfl rfl ?_
        refine o_ladd (q := 128) A6 at_127 rfl ?_
        refine o_callV (q := 131) (W := 0) (k' := 1) (n' := 3) (st := []) (argsL := [.long (i + j)]) (b' := b4) A6 (rm4 l Z a0 hw a q1 q3 (i + j) h6 n0 G1 G3) at_128 Eb (hw _ (List.mem_of_getElem? (i := 20) rfl)) (hw _ (List.mem_of_getElem? (i := 21) rfl)) (hw _ (List.mem_of_getElem? (i := 23) rfl)) (hw _ (List.mem_of_getElem? (i := 22) rfl)) (hw _ (List.mem_of_getElem? (i := 7) rfl)) (hw _ (List.mem_of_getElem? (i := 24) rfl)) (by decide) pd4 rfl rfl rfl rfl rfl (by decide) (by decide) rfl rfl (by decide) (by decide) rfl (fun v7 T7 h7 A7 hQ7 => ?_)
        obtain ⟨rfl, rfl⟩ := hQ7
        show oFin _ _ _ _ T7 131 #[.val (.long q1), .second, .val (.long q2), .second, .val (.long q3), .second, .val (.long q4), .second, .val (.long q5), .second, .val (.long sz), .second, .val (.ref a), .val (.long i), .second, .val (.long j), .second, .val (.long (q1 + i * q3)), .second, .val (.long (q1 + j * q3)), .second, .unset, .unset] [.long (q1 + (i + j) * q3)]
        refine o_lstore (q := 133) (Ls' := #[.val (.long q1), .second, .val (.long q2), .second, .val (.long q3), .second, .val (.long q4), .second, .val (.long q5), .second, .val (.long sz), .second, .val (.ref a), .val (.long i), .second, .val (.long j), .second, .val (.long (q1 + i * q3)), .second, .val (.long (q1 + j * q3)), .second, .val (.long (q1 + (i + j) * q3)), .second]) A7 at_131 rfl rfl ?_
        refine o_lload (q := 135) A7 at_133 rfl rfl ?_
        refine o_lloadN (q := 136) A7 at_135 rfl rfl ?_
        refine o_lsub (q := 137) A7 at_136 rfl ?_
        refine o_lload (q := 139) A7 at_137 rfl rfl ?_
        refine o_lloadN (q := 140) A7 at_139 rfl rfl ?_
        refine o_lsub (q := 141) A7 at_140 rfl ?_
        refine o_lload (q := 143) A7 at_141 rfl rfl ?_
        refine o_lloadN (q := 144) A7 at_143 rfl rfl ?_
        refine o_lsub (q := 145) A7 at_144 rfl ?_
        refine o_ladd (q := 146) A7 at_145 rfl ?_
        refine o_lcmp (q := 147) A7 at_146 rfl ?_
        refine o_if (q := 152) (q' := 150) A7 at_147 (by decide) (by decide) rfl (fun hf => ?_) (fun hf => ?_)
        · replace hf : (lcmpW ((q1 + (i + j) * q3) - q1) (((q1 + i * q3) - q1) + ((q1 + j * q3) - q1))) = (0 : Int32) := hf
          refine o_iconst (q := 153) (z := 1) A7 at_152 rfl rfl ?_
          exact o_retN A7 rfl (by simp) at_153 (by decide) (by decide) rfl
        · replace hf : ¬ ((lcmpW ((q1 + (i + j) * q3) - q1) (((q1 + i * q3) - q1) + ((q1 + j * q3) - q1))) = (0 : Int32)) := hf
          exact absurd ((own_lceq _ _).mpr (own_r2 q1 i j q3)) hf
    · replace hd : ¬ ((0 : Int32) ≤ (lcmpW i (sz - (1 : Int64)))) := hd
      refine o_aload (q := 81) A5 at_79 rfl rfl rfl ?_
      refine o_lload (q := 83) A5 at_81 rfl rfl ?_
      refine o_lconst (q := 84) (z := 1) A5 at_83 rfl rfl ?_
      refine o_ladd (q := 85) A5 at_84 rfl ?_
      refine o_callV (q := 88) (W := 0) (k' := 1) (n' := 3) (st := []) (argsL := [.long (i + (1 : Int64))]) (b' := b4) A5 (rm4 l Z a0 hw a q1 q3 (i + (1 : Int64)) h5 n0 G1 G3) at_85 Eb (hw _ (List.mem_of_getElem? (i := 20) rfl)) (hw _ (List.mem_of_getElem? (i := 21) rfl)) (hw _ (List.mem_of_getElem? (i := 23) rfl)) (hw _ (List.mem_of_getElem? (i := 22) rfl)) (hw _ (List.mem_of_getElem? (i := 7) rfl)) (hw _ (List.mem_of_getElem? (i := 24) rfl)) (by decide) pd4 rfl rfl rfl rfl rfl (by decide) (by decide) rfl rfl (by decide) (by decide) rfl (fun v8 T8 h8 A8 hQ8 => ?_)
      obtain ⟨rfl, rfl⟩ := hQ8
      show oFin _ _ _ _ T8 88 #[.val (.long q1), .second, .val (.long q2), .second, .val (.long q3), .second, .val (.long q4), .second, .val (.long q5), .second, .val (.long sz), .second, .val (.ref a), .val (.long i), .second, .val (.long j), .second, .val (.long (q1 + i * q3)), .second, .unset, .unset, .unset, .unset] [.long (q1 + (i + (1 : Int64)) * q3)]
      refine o_lload (q := 90) A8 at_88 rfl rfl ?_
      refine o_lsub (q := 91) A8 at_90 rfl ?_
      refine o_lload (q := 93) A8 at_91 rfl rfl ?_
      refine o_lcmp (q := 94) A8 at_93 rfl ?_
      refine o_if (q := 99) (q' := 97) A8 at_94 (by decide) (by decide) rfl (fun hg => ?_) (fun hg => ?_)
      · replace hg : (lcmpW ((q1 + (i + (1 : Int64)) * q3) - (q1 + i * q3)) q3) = (0 : Int32) := hg
        refine o_lload (q := 101) A8 at_99 rfl rfl ?_
        refine o_lload (q := 103) A8 at_101 rfl rfl ?_
        refine o_lconst (q := 104) (z := 1) A8 at_103 rfl rfl ?_
        refine o_lsub (q := 105) A8 at_104 rfl ?_
        refine o_lload (q := 107) A8 at_105 rfl rfl ?_
        refine o_lsub (q := 108) A8 at_107 rfl ?_
        refine o_lcmp (q := 109) A8 at_108 rfl ?_
        refine o_if (q := 152) (q' := 112) A8 at_109 (by decide) (by decide) rfl (fun he => ?_) (fun he => ?_)
        · replace he : (0 : Int32) < (lcmpW i ((sz - (1 : Int64)) - j)) := he
          refine o_iconst (q := 153) (z := 1) A8 at_152 rfl rfl ?_
          exact o_retN A8 rfl (by simp) at_153 (by decide) (by decide) rfl
        · replace he : ¬ ((0 : Int32) < (lcmpW i ((sz - (1 : Int64)) - j))) := he
          refine o_aload (q := 114) A8 at_112 rfl rfl rfl ?_
          refine o_lload (q := 116) A8 at_114 rfl rfl ?_
          refine o_callV (q := 119) (W := 0) (k' := 1) (n' := 3) (st := []) (argsL := [.long j]) (b' := b4) A8 (rm4 l Z a0 hw a q1 q3 j h8 n0 G1 G3) at_116 Eb (hw _ (List.mem_of_getElem? (i := 20) rfl)) (hw _ (List.mem_of_getElem? (i := 21) rfl)) (hw _ (List.mem_of_getElem? (i := 23) rfl)) (hw _ (List.mem_of_getElem? (i := 22) rfl)) (hw _ (List.mem_of_getElem? (i := 7) rfl)) (hw _ (List.mem_of_getElem? (i := 24) rfl)) (by decide) pd4 rfl rfl rfl rfl rfl (by decide) (by decide) rfl rfl (by decide) (by decide) rfl (fun v9 T9 h9 A9 hQ9 => ?_)
          obtain ⟨rfl, rfl⟩ := hQ9
          show oFin _ _ _ _ T9 119 #[.val (.long q1), .second, .val (.long q2), .second, .val (.long q3), .second, .val (.long q4), .second, .val (.long q5), .second, .val (.long sz), .second, .val (.ref a), .val (.long i), .second, .val (.long j), .second, .val (.long (q1 + i * q3)), .second, .unset, .unset, .unset, .unset] [.long (q1 + j * q3)]
          refine o_lstore (q := 121) (Ls' := #[.val (.long q1), .second, .val (.long q2), .second, .val (.long q3), .second, .val (.long q4), .second, .val (.long q5), .second, .val (.long sz), .second, .val (.ref a), .val (.long i), .second, .val (.long j), .second, .val (.long (q1 + i * q3)), .second, .val (.long (q1 + j * q3)), .second, .unset, .unset]) A9 at_119 rfl rfl ?_
          refine o_aload (q := 123) A9 at_121 rfl rfl rfl ?_
          refine o_lload (q := 125) A9 at_123 rfl rfl ?_
          refine o_lload (q := 127) A9 at_125 rfl rfl ?_
          refine o_ladd (q := 128) A9 at_127 rfl ?_
          refine o_callV (q := 131) (W := 0) (k' := 1) (n' := 3) (st := []) (argsL := [.long (i + j)]) (b' := b4) A9 (rm4 l Z a0 hw a q1 q3 (i + j) h9 n0 G1 G3) at_128 Eb (hw _ (List.mem_of_getElem? (i := 20) rfl)) (hw _ (List.mem_of_getElem? (i := 21) rfl)) (hw _ (List.mem_of_getElem? (i := 23) rfl)) (hw _ (List.mem_of_getElem? (i := 22) rfl)) (hw _ (List.mem_of_getElem? (i := 7) rfl)) (hw _ (List.mem_of_getElem? (i := 24) rfl)) (by decide) pd4 rfl rfl rfl rfl rfl (by decide) (by decide) rfl rfl (by decide) (by decide) rfl (fun v10 T10 h10 A10 hQ10 => ?_)
          obtain ⟨rfl, rfl⟩ := hQ10
          show oFin _ _ _ _ T10 131 #[.val (.long q1), .second, .val (.long q2), .second, .val (.long q3), .second, .val (.long q4), .second, .val (.long q5), .second, .val (.long sz), .second, .val (.ref a), .val (.long i), .second, .val (.long j), .second, .val (.long (q1 + i * q3)), .second, .val (.long (q1 + j * q3)), .second, .unset, .unset] [.long (q1 + (i + j) * q3)]
          refine o_lstore (q := 133) (Ls' := #[.val (.long q1), .second, .val (.long q2), .second, .val (.long q3), .second, .val (.long q4), .second, .val (.long q5), .second, .val (.long sz), .second, .val (.ref a), .val (.long i), .second, .val (.long j), .second, .val (.long (q1 + i * q3)), .second, .val (.long (q1 + j * q3)), .second, .val (.long (q1 + (i + j) * q3)), .second]) A10 at_131 rfl rfl ?_
          refine o_lload (q := 135) A10 at_133 rfl rfl ?_
          refine o_lloadN (q := 136) A10 at_135 rfl rfl ?_
          refine o_lsub (q := 137) A10 at_136 rfl ?_
          refine o_lload (q := 139) A10 at_137 rfl rfl ?_
          refine o_lloadN (q := 140) A10 at_139 rfl rfl ?_
          refine o_lsub (q := 141) A10 at_140 rfl ?_
          refine o_lload (q := 143) A10 at_141 rfl rfl ?_
          refine o_lloadN (q := 144) A10 at_143 rfl rfl ?_
          refine o_lsub (q := 145) A10 at_144 rfl ?_
          refine o_ladd (q := 146) A10 at_145 rfl ?_
          refine o_lcmp (q := 147) A10 at_146 rfl ?_
          refine o_if (q := 152) (q' := 150) A10 at_147 (by decide) (by decide) rfl (fun hf => ?_) (fun hf => ?_)
          · replace hf : (lcmpW ((q1 + (i + j) * q3) - q1) (((q1 + i * q3) - q1) + ((q1 + j * q3) - q1))) = (0 : Int32) := hf
            refine o_iconst (q := 153) (z := 1) A10 at_152 rfl rfl ?_
            exact o_retN A10 rfl (by simp) at_153 (by decide) (by decide) rfl
          · replace hf : ¬ ((lcmpW ((q1 + (i + j) * q3) - q1) (((q1 + i * q3) - q1) + ((q1 + j * q3) - q1))) = (0 : Int32)) := hf
            exact absurd ((own_lceq _ _).mpr (own_r2 q1 i j q3)) hf
      · replace hg : ¬ ((lcmpW ((q1 + (i + (1 : Int64)) * q3) - (q1 + i * q3)) q3) = (0 : Int32)) := hg
        exact absurd ((own_lceq _ _).mpr (own_r1 q1 i q3)) hg
  · replace hc : ¬ ((lcmpW (q1 + (0 : Int64) * q3) q1) = (0 : Int32)) := hc
    exact absurd ((own_lceq _ _).mpr (own_r0 q1 q3)) hc
set_option maxRecDepth 65536 in
set_option maxHeartbeats 40000000 in
theorem comes_1 {Post : Tables → Env → Array Value → State → Outcome → State → Prop} (hpost : ∀ tb e args s v u, (limb_1_1.after args s (.returned v) u = true ∧ limb_1_2.after args s (.returned v) u = true ∧ True) → FrameEnd s (.returned v) u (Jvm.fieldLocs frame_1_writes args s ++ Jvm.arrayLocs frame_1_arrays args s ++ Jvm.staticLocs frame_1_statics s) 16 128 → Post tb e args s (.returned v) u) :
    ArmFor flags0 classFile x code maxLocals ret World_1 tables_1 room_1 Calls_1 rest_1 Pre_1 Post := by
  intro l hfl _ _ p e ha hc hk s m args below hf hA hF happ hP
  obtain ⟨hcalls, hrest, hpre⟩ := hP
  obtain ⟨-, -, -, hnamed, -, -, -, hat⟩ := (Spec.applies_iff hf).mp happ
  obtain ⟨hg, hn⟩ := and_e (Cond.before_iff.mp (show (Jvm.Cond.and given_1 narrow_1).before args s = true from hpre))
  obtain ⟨hcnt, g0⟩ := and_e hg
  obtain ⟨a0, g1⟩ := and_e g0
  obtain ⟨a1, g2⟩ := and_e g1
  obtain ⟨a2, g3⟩ := and_e g2
  obtain ⟨a3, g4⟩ := and_e g3
  obtain ⟨w0, w1, w2, w3, w4, rfl⟩ : ∃ w0 w1 w2 w3 w4 : Value, args = #[w0, w1, w2, w3, w4] := by
    have hs : args.size = 5 := by simpa [Cond.value, given_1] using hcnt
    obtain ⟨L⟩ := args
    match L, hs with
    | [w0, w1, w2, w3, w4], _ => exact ⟨w0, w1, w2, w3, w4, rfl⟩
  have hw := fun d (hd : d ∈ tables_1) => atoms_spec (ws := Jvm.Cond.code x code maxLocals ret :: tables_1) hat d (List.mem_cons_of_mem _ hd)
  obtain ⟨i0, ei0⟩ := isL_v a0
  obtain rfl : w0 = (.long i0) := Option.some.inj ei0
  obtain ⟨i1, ei1⟩ := isL_v a1
  obtain rfl : w1 = (.long i1) := Option.some.inj ei1
  obtain ⟨i2, ei2⟩ := isL_v a2
  obtain rfl : w2 = (.long i2) := Option.some.inj ei2
  obtain ⟨i3, ei3⟩ := isL_v a3
  obtain rfl : w3 = (.long i3) := Option.some.inj ei3
  obtain ⟨i4, ei4⟩ := isL_v g4
  obtain rfl : w4 = (.long i4) := Option.some.inj ei4
  obtain ⟨n, o, h1, h2, h3, _, L, rfl, ⟨rfl, N⟩, hq⟩ := rm0 l s _ hw tables_1 i0 i1 i2 i3 i4 s.heap s.heap.size (Nat.le_refl _) p e ha hc hk s m _ below hf ((Spec.applies_iff_loose hf).mp happ).1 ⟨rfl, State.Warmed39.refl s, rfl⟩ trivial
  refine ⟨n, _, h1, h2, h3, hpost _ _ _ _ _ _ ⟨Cond.after_iff.mpr rfl, Cond.after_iff.mpr (eq_i res_at (Term.int_eval (1)) rfl), trivial⟩ ⟨hq.1, hq.2.1, (hq.2.2.sift fun y hy => Or.inr (N y hy)).mono (by decide) (by decide)⟩⟩
theorem main_1_1 : Claimed_1_1 := comes_1 fun _ _ _ _ _ _ h hF => ⟨h.1, hF⟩
theorem main_1_2 : Claimed_1_2 := comes_1 fun _ _ _ _ _ _ h hF => ⟨h.2.1, hF⟩
end Jvm.Pilot.@@N@@
namespace Jvm.Pilot.@@N@@
open Jvm Jvm.ClassFile Sem Op Lib Jvm.Free Jvm.Stand Jvm.Pilot.@@N@@.Jvm.D
/-! MADE BY PROGRAM (witnessworld.py) out of the Statement's table words and the real class files: 10 classes; the members and pool entries that the words name. The judged class is class 1, her method 1. -/
namespace start1
open Jvm.ClassFile
def u (s : String) : CpInfo := .utf8 (stringToUtf16 s)
/-- a pool by its gaps: so many unusable entries, then the entry; so many at the end -/
def gap : Nat → List CpInfo → List CpInfo
  | 0, r => r
  | n + 1, r => .unusable :: gap n r
def poolList (es : List (Nat × CpInfo)) (last : Nat) : List CpInfo := es.foldr (fun e r => gap e.1 (e.2 :: r)) (gap last [])
def pool (es : List (Nat × CpInfo)) (last : Nat) : Array CpInfo := ⟨poolList es last⟩
def fileOf (pool : Array CpInfo) (this : Nat) (attrs : Array Attribute := #[]) (ms : Array MethodInfo := #[]) (fl : Nat := 33) (sup : Nat := 0) (ifs : Array Nat := #[]) (fds : Array FieldInfo := #[]) : ClassFile where
  minorVersion := 0
  majorVersion := 65
  constantPool := pool
  accessFlags := fl
  thisClass := this
  superClass := sup
  interfaces := ifs
  fields := fds
  methods := ms
  attributes := attrs
def plain (name : String) (sup : Option ClassId) : Class where
  name := name
  kind := .ordinary
  loader := none
  accessFlags := 33
  super := sup
  interfaces := #[]
  cf := none
  fields := #[]
  methods := #[]
  instanceTypes := #[]
  staticTypes := #[]
  resolved := #[]
  callSites := []
  init := .initialized
  statics := none
  mirror := none

def pool0 : Array CpInfo := pool [(5, u "<init>"), (0, u "()V"), (1, .class_ 10), (1, u "java/lang/Object")] 113

def k0c0 : Code := { maxStack := 0, maxLocals := 1, code := object_method_1_code, exceptionTable := #[], attributes := #[] }
def k0m0 : Method := { name := "<init>", desc := "()V", sig := { parameters := [], returnType := none }, accessFlags := 1, code := some k0c0 }
/-- java/lang/Object -/
def k0 : Class := { plain "java/lang/Object" none with
  accessFlags := 33
  interfaces := #[]
  cf := some (fileOf pool0 8 #[] #[{ accessFlags := 1, nameIndex := 5, descriptorIndex := 6, attributes := #[] }] 33 0 #[] #[])
  fields := #[]
  methods := #[k0m0]
  instanceTypes := #[]
  staticTypes := #[]
  resolved := Array.replicate 124 none
  statics := none }

def pool1 : Array CpInfo := pool [(2, .class_ 4), (1, u "java/lang/Object"), (0, u "<init>"), (0, u "()V"), (2, .long 9223372036854775807), (1, .methodref 12 13), (0, .class_ 14), (0, .nameAndType 15 16), (0, u "java/lang/Math"), (0, u "max"), (0, u "(JJ)J"), (0, .class_ 18), (0, u "com/example/kennung/kennung/Block"), (0, .methodref 17 20), (0, .nameAndType 5 21), (0, u "(JJJ)V"), (0, .methodref 17 23), (0, .nameAndType 24 25), (0, u "value"), (0, u "(J)J"), (0, .class_ 27), (0, u "com/example/kennung/kennung/BlockValuePinLaw"), (2, u "law"), (0, u "(JJJJJ)Z")] 3

def k1m0 : Method := { name := "<init>", desc := "()V", sig := { parameters := [], returnType := none }, accessFlags := 1, code := none }
def k1c1 : Code := { maxStack := 8, maxLocals := 23, code := code, exceptionTable := #[], attributes := #[] }
def k1m1 : Method := { name := "law", desc := "(JJJJJ)Z", sig := { parameters := [.long, .long, .long, .long, .long], returnType := some .boolean }, accessFlags := 9, code := some k1c1 }
/-- com/example/kennung/kennung/BlockValuePinLaw -/
def k1 : Class := { plain "com/example/kennung/kennung/BlockValuePinLaw" (some 0) with
  accessFlags := 49
  interfaces := #[]
  cf := some (fileOf pool1 26 #[] #[{ accessFlags := 1, nameIndex := 5, descriptorIndex := 6, attributes := #[] }, { accessFlags := 9, nameIndex := 30, descriptorIndex := 31, attributes := #[] }] 49 2 #[] #[])
  fields := #[]
  methods := #[k1m0, k1m1]
  instanceTypes := #[]
  staticTypes := #[]
  resolved := Array.replicate 35 none
  statics := none }

def pool2 : Array CpInfo := pool [(1, .class_ 2), (0, u "java/lang/Math"), (1, .class_ 6), (1, u "java/lang/Object"), (0, u "<init>"), (0, u "()V"), (89, .class_ 100), (1, u "java/lang/Math$RandomNumberGeneratorHolder"), (20, u "(JJ)J"), (50, u "negativeZeroFloatBits"), (0, u "J"), (2, u "negativeZeroDoubleBits"), (21, u "max"), (46, u "$assertionsDisabled"), (0, u "Z"), (91, u "twoToTheDoubleScaleDown"), (0, u "D"), (4, u "twoToTheDoubleScaleUp"), (9, u "E"), (3, u "PI"), (2, u "TAU"), (2, u "DEGREES_TO_RADIANS"), (0, u "RADIANS_TO_DEGREES")] 94

def k2m0 : Method := { name := "<init>", desc := "()V", sig := { parameters := [], returnType := none }, accessFlags := 2, code := none }
def k2c1 : Code := { maxStack := 4, maxLocals := 4, code := jdk_29_method_66_code, exceptionTable := #[], attributes := #[] }
def k2m1 : Method := { name := "max", desc := "(JJ)J", sig := { parameters := [.long, .long], returnType := some .long }, accessFlags := 9, code := some k2c1 }
/-- java/lang/Math -/
def k2 : Class := { plain "java/lang/Math" (some 0) with
  accessFlags := 49
  interfaces := #[]
  cf := some (fileOf pool2 1 #[.nestMembers #[98]] #[{ accessFlags := 2, nameIndex := 7, descriptorIndex := 8, attributes := #[] }, { accessFlags := 9, nameIndex := 198, descriptorIndex := 121, attributes := #[] }] 49 4 #[] #[{ accessFlags := 25, nameIndex := 354, descriptorIndex := 339, attributes := #[] }, { accessFlags := 25, nameIndex := 358, descriptorIndex := 339, attributes := #[] }, { accessFlags := 25, nameIndex := 361, descriptorIndex := 339, attributes := #[] }, { accessFlags := 26, nameIndex := 364, descriptorIndex := 339, attributes := #[] }, { accessFlags := 26, nameIndex := 365, descriptorIndex := 339, attributes := #[] }, { accessFlags := 26, nameIndex := 172, descriptorIndex := 173, attributes := #[] }, { accessFlags := 26, nameIndex := 176, descriptorIndex := 173, attributes := #[] }, { accessFlags := 8, nameIndex := 344, descriptorIndex := 339, attributes := #[] }, { accessFlags := 8, nameIndex := 338, descriptorIndex := 339, attributes := #[] }, { accessFlags := 4120, nameIndex := 245, descriptorIndex := 246, attributes := #[] }])
  fields := #[{ name := "E", type := .double, accessFlags := 25, slot := 0, constantValue := 0 }, { name := "PI", type := .double, accessFlags := 25, slot := 1, constantValue := 0 }, { name := "TAU", type := .double, accessFlags := 25, slot := 2, constantValue := 0 }, { name := "DEGREES_TO_RADIANS", type := .double, accessFlags := 26, slot := 3, constantValue := 0 }, { name := "RADIANS_TO_DEGREES", type := .double, accessFlags := 26, slot := 4, constantValue := 0 }, { name := "negativeZeroFloatBits", type := .long, accessFlags := 26, slot := 5, constantValue := 0 }, { name := "negativeZeroDoubleBits", type := .long, accessFlags := 26, slot := 6, constantValue := 0 }, { name := "twoToTheDoubleScaleUp", type := .double, accessFlags := 8, slot := 7, constantValue := 0 }, { name := "twoToTheDoubleScaleDown", type := .double, accessFlags := 8, slot := 8, constantValue := 0 }, { name := "$assertionsDisabled", type := .boolean, accessFlags := 4120, slot := 9, constantValue := 0 }]
  methods := #[k2m0, k2m1]
  instanceTypes := #[]
  staticTypes := #[.double, .double, .double, .double, .double, .long, .long, .double, .double, .boolean]
  resolved := Array.replicate 460 none
  statics := none }

def pool3 : Array CpInfo := pool [(1, .methodref 2 3), (0, .class_ 4), (0, .nameAndType 5 6), (0, u "java/lang/Object"), (0, u "<init>"), (0, u "()V"), (0, .fieldref 8 9), (0, .class_ 10), (0, .nameAndType 11 12), (0, u "com/example/kennung/kennung/Block"), (0, u "first"), (0, u "J"), (0, .fieldref 8 14), (0, .nameAndType 15 12), (0, u "size"), (0, .fieldref 8 17), (0, .nameAndType 18 12), (0, u "step"), (0, u "(JJJ)V"), (3, u "value"), (0, u "(J)J")] 2

def k3c0 : Code := { maxStack := 3, maxLocals := 7, code := prog_3_method_1_code, exceptionTable := #[], attributes := #[] }
def k3m0 : Method := { name := "<init>", desc := "(JJJ)V", sig := { parameters := [.long, .long, .long], returnType := none }, accessFlags := 0, code := some k3c0 }
def k3c1 : Code := { maxStack := 6, maxLocals := 3, code := prog_3_method_3_code, exceptionTable := #[], attributes := #[] }
def k3m1 : Method := { name := "value", desc := "(J)J", sig := { parameters := [.long], returnType := some .long }, accessFlags := 0, code := some k3c1 }
/-- com/example/kennung/kennung/Block -/
def k3 : Class := { plain "com/example/kennung/kennung/Block" (some 0) with
  accessFlags := 48
  interfaces := #[]
  cf := some (fileOf pool3 8 #[] #[{ accessFlags := 0, nameIndex := 5, descriptorIndex := 19, attributes := #[] }, { accessFlags := 0, nameIndex := 23, descriptorIndex := 24, attributes := #[] }] 48 2 #[] #[{ accessFlags := 18, nameIndex := 11, descriptorIndex := 12, attributes := #[] }, { accessFlags := 18, nameIndex := 15, descriptorIndex := 12, attributes := #[] }, { accessFlags := 18, nameIndex := 18, descriptorIndex := 12, attributes := #[] }])
  fields := #[{ name := "first", type := .long, accessFlags := 18, slot := 0, constantValue := 0 }, { name := "size", type := .long, accessFlags := 18, slot := 1, constantValue := 0 }, { name := "step", type := .long, accessFlags := 18, slot := 2, constantValue := 0 }]
  methods := #[k3m0, k3m1]
  instanceTypes := #[.long, .long, .long]
  staticTypes := #[]
  resolved := Array.replicate 27 none
  statics := none }

def pool4 : Array CpInfo := pool [(1, u "java/lang/Cloneable"), (0, .class_ 1), (0, u "java/lang/Object"), (0, .class_ 3)] 3

/-- java/lang/Cloneable -/
def k4 : Class := { plain "java/lang/Cloneable" (some 0) with
  accessFlags := 1537
  interfaces := #[]
  cf := some (fileOf pool4 2 #[] #[] 1537 4 #[] #[])
  fields := #[]
  methods := #[]
  instanceTypes := #[]
  staticTypes := #[]
  resolved := Array.replicate 8 none
  statics := none }

def pool5 : Array CpInfo := pool [(1, u "java/io/Serializable"), (0, .class_ 1), (0, u "java/lang/Object"), (0, .class_ 3)] 3

/-- java/io/Serializable -/
def k5 : Class := { plain "java/io/Serializable" (some 0) with
  accessFlags := 1537
  interfaces := #[]
  cf := some (fileOf pool5 2 #[] #[] 1537 4 #[] #[])
  fields := #[]
  methods := #[]
  instanceTypes := #[]
  staticTypes := #[]
  resolved := Array.replicate 8 none
  statics := none }

/-- the primitive byte -/
def k6 : Class := { plain "byte" none with kind := .primitive 'B', accessFlags := 0x411 }
/-- [B -/
def k7 : Class := { plain "[B" (some 0) with kind := .array 6 .byte, interfaces := #[4, 5], accessFlags := 1041 }

/-- the primitive int -/
def k8 : Class := { plain "int" none with kind := .primitive 'I', accessFlags := 0x411 }
/-- [I -/
def k9 : Class := { plain "[I" (some 0) with kind := .array 8 .int, interfaces := #[4, 5], accessFlags := 1041 }

def heap : Heap := #[]
def classes : Array Class := #[k0, k1, k2, k3, k4, k5, k6, k7, k8, k9]
def interned : List (Array UInt16 × Addr) := []
def slotsUsed : Nat := 0
def theMethod : MethodId := ⟨1, 1⟩
def args0 : Array Value := #[.long 5, .long 6, .long 7, .long 8, .long 9]
def aboutOver (below : List Frame) : State where
  vm := { classes := classes, interned := interned.toArray }
  heap := heap
  slotsUsed := slotsUsed
  threads := #[{ frames := .invoking theMethod args0 :: below }]
def below0 : List Frame := [.native { method := ⟨0, 0⟩, args := #[] }]
def about1 : State := aboutOver below0
def p0 : Program := .bare "" "" ""
def e0 : Env := launch0.env 0 0 0
theorem w_frames : about1.frames = Frame.invoking theMethod args0 :: below0 := rfl
set_option maxRecDepth 65536 in
theorem w_args : argsFit about1.vm theMethod args0 = true := by decide +kernel
set_option maxRecDepth 65536 in
theorem w_heap : heapFits about1 = true := by decide +kernel
set_option maxRecDepth 65536 in
theorem w_runnable : about1.curStatus? = some .runnable := by decide +kernel
set_option maxRecDepth 65536 in
theorem w_alone : about1.alone = true := by decide +kernel
set_option maxRecDepth 65536 in
theorem w_named : about1.methodNamed? x = some theMethod := by decide +kernel
set_option maxRecDepth 65536 in
theorem w_hears : about1.hears theMethod below0 = true := by decide +kernel
set_option maxRecDepth 65536 in
theorem w_ripe : about1.ripe theMethod args0 below0 = true := by decide +kernel
theorem w_running : about1.status = .running := rfl
set_option maxRecDepth 65536 in
theorem w_room : about1.hasRoom e0.platform room_1 = true :=
  launch0.hasRoom_least _ room_1 (by decide +kernel) (by decide +kernel) (by decide +kernel) (by decide +kernel) (by decide +kernel) (by decide +kernel)
theorem allAtoms_all (ts : List Jvm.Cond) (a : Array Jvm.Value) (st : Jvm.State) : (allAtoms ts).before a st = ts.all (fun c => c.before a st) := by
  induction ts with
  | nil => rfl
  | cons c t ih =>
    show (Jvm.Cond.and c (allAtoms t)).before a st = _
    rw [Jvm.Cond.before_and, ih, List.all_cons]
def words1 : List Jvm.Cond := Jvm.Cond.code x code maxLocals ret :: tables_1
/-- a 'code' word, met by the world's own term for the bytes: nothing is compared byte by byte -/
theorem code_word {y : MethodName} {bytes : ByteArray} {mx : Nat} {rt : Option FieldType} {a : Array Value} {s : State} {m : MethodId} {meth : Method} {c : Code} (h1 : s.methodNamed? y = some m) (h2 : s.vm.method? m = some meth) (h3 : meth.code = some c) (h4 : c.code = bytes)
    (h5 : (c.maxLocals == mx && c.exceptionTable.isEmpty && decide (c.maxStack ≤ mostOperands) && decide (meth.sig.returnType = rt) && !meth.locks && decide (parseMethodDescriptor y.desc = some meth.sig)) = true) : (Jvm.Cond.code y bytes mx rt).before a s = true := by
  simp only [Bool.and_eq_true, beq_iff_eq, Bool.not_eq_true', decide_eq_true_eq] at h5
  obtain ⟨⟨⟨⟨⟨g1, g2⟩, g3⟩, g4⟩, g5⟩, g6⟩ := h5
  simp [Cond.before, Cond.holds, Cond.value, h1, h2, h3, h4, g1, g2, g3, g4, g5, g6]
def isCode : Jvm.Cond → Bool
  | .code _ _ _ _ => true
  | _ => false
theorem all_split {L : List Jvm.Cond} {P : Jvm.Cond → Bool} (h1 : L.all (fun c => isCode c || P c) = true) (h2 : ∀ c ∈ L.filter isCode, P c = true) : L.all P = true := by
  refine List.all_eq_true.mpr fun c hc => ?_
  have h := List.all_eq_true.mp h1 c hc
  rcases Bool.eq_false_or_eq_true (isCode c) with hi | hi
  · exact h2 c (List.mem_filter.mpr ⟨hc, hi⟩)
  · simpa [hi] using h
set_option maxRecDepth 65536 in
theorem w_c0 : (Jvm.Cond.code x code maxLocals ret).before args0 about1 = true := code_word (m := ⟨1, 1⟩) (meth := k1m1) (c := k1c1) (by decide +kernel) rfl rfl rfl (by decide +kernel)
set_option maxRecDepth 65536 in
theorem w_c1 : (Jvm.Cond.code ({ cls := "java/lang/Math", name := "max", desc := "(JJ)J" } : Jvm.MethodName) jdk_29_method_66_code (4 : Nat) (Option.some Jvm.ClassFile.FieldType.long)).before args0 about1 = true := code_word (m := ⟨2, 1⟩) (meth := k2m1) (c := k2c1) (by decide +kernel) rfl rfl rfl (by decide +kernel)
set_option maxRecDepth 65536 in
theorem w_c2 : (Jvm.Cond.code ({ cls := "com/example/kennung/kennung/Block", name := "<init>", desc := "(JJJ)V" } : Jvm.MethodName) prog_3_method_1_code (7 : Nat) (Option.none : Option Jvm.ClassFile.FieldType)).before args0 about1 = true := code_word (m := ⟨3, 0⟩) (meth := k3m0) (c := k3c0) (by decide +kernel) rfl rfl rfl (by decide +kernel)
set_option maxRecDepth 65536 in
theorem w_c3 : (Jvm.Cond.code ({ cls := "java/lang/Object", name := "<init>", desc := "()V" } : Jvm.MethodName) object_method_1_code (1 : Nat) (Option.none : Option Jvm.ClassFile.FieldType)).before args0 about1 = true := code_word (m := ⟨0, 0⟩) (meth := k0m0) (c := k0c0) (by decide +kernel) rfl rfl rfl (by decide +kernel)
set_option maxRecDepth 65536 in
theorem w_c4 : (Jvm.Cond.code ({ cls := "com/example/kennung/kennung/Block", name := "value", desc := "(J)J" } : Jvm.MethodName) prog_3_method_3_code (3 : Nat) (Option.some Jvm.ClassFile.FieldType.long)).before args0 about1 = true := code_word (m := ⟨3, 1⟩) (meth := k3m1) (c := k3c1) (by decide +kernel) rfl rfl rfl (by decide +kernel)
def codes1 : List Jvm.Cond := [Jvm.Cond.code x code maxLocals ret, Jvm.Cond.code ({ cls := "java/lang/Math", name := "max", desc := "(JJ)J" } : Jvm.MethodName) jdk_29_method_66_code (4 : Nat) (Option.some Jvm.ClassFile.FieldType.long), Jvm.Cond.code ({ cls := "com/example/kennung/kennung/Block", name := "<init>", desc := "(JJJ)V" } : Jvm.MethodName) prog_3_method_1_code (7 : Nat) (Option.none : Option Jvm.ClassFile.FieldType), Jvm.Cond.code ({ cls := "java/lang/Object", name := "<init>", desc := "()V" } : Jvm.MethodName) object_method_1_code (1 : Nat) (Option.none : Option Jvm.ClassFile.FieldType), Jvm.Cond.code ({ cls := "com/example/kennung/kennung/Block", name := "value", desc := "(J)J" } : Jvm.MethodName) prog_3_method_3_code (3 : Nat) (Option.some Jvm.ClassFile.FieldType.long)]
set_option maxRecDepth 65536 in
theorem codes_eq : words1.filter isCode = codes1 := rfl
theorem w_codes : ∀ c ∈ words1.filter isCode, c.before args0 about1 = true := by
  rw [codes_eq]
  intro c hc
  simp only [codes1, List.mem_cons, List.not_mem_nil, or_false] at hc
  rcases hc with rfl | rfl | rfl | rfl | rfl
  · exact w_c0
  · exact w_c1
  · exact w_c2
  · exact w_c3
  · exact w_c4
set_option maxRecDepth 65536 in
theorem w_t1 : (words1.take 24).all (fun c => isCode c || c.before args0 about1) = true := by decide +kernel
set_option maxRecDepth 65536 in
theorem w_t2 : (words1.drop 24).all (fun c => isCode c || c.before args0 about1) = true := by decide +kernel
theorem w_tables : (allAtoms (Jvm.Cond.code x code maxLocals ret :: tables_1)).before args0 about1 = true := by
  rw [allAtoms_all]
  show words1.all (fun c => c.before args0 about1) = true
  refine all_split ?_ w_codes
  rw [← List.take_append_drop 24 words1, List.all_append, w_t1, w_t2]
  rfl
set_option maxRecDepth 65536 in
theorem w_case : (Jvm.Cond.and given_1 narrow_1).before args0 about1 = true := by decide +kernel
theorem w_applies : (headSpec (Jvm.Cond.code x code maxLocals ret :: tables_1) room_1).applies x e0.platform about1 = true :=
  (Spec.applies_iff w_frames).mpr ⟨w_running, w_runnable, w_alone, w_named, w_hears, w_ripe, w_room, w_tables⟩
theorem atStart : AtStart classFile x code maxLocals ret World_1 tables_1 room_1 Calls_1 rest_1 Pre_1 launch0 p0 e0 about1 theMethod args0 below0 :=
  ⟨lists_1, trivial, launch0.admits_env _ _ _, launch0.least_env, fairChoices_fair.cas, fairChoices_fair.clock, w_frames, w_args, w_heap, w_applies, trivial, trivial, w_case⟩
end start1
theorem witness_1 : WitnessClaimed_1 := ⟨start1.p0, start1.e0, start1.about1, start1.theMethod, start1.args0, start1.below0, start1.atStart⟩
end Jvm.Pilot.@@N@@
