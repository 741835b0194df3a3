import JvmDerived
import JvmDerived.Pilot.@@N@@Statement
import JvmDerived.Pilot.@@N@@Code
set_option linter.unusedVariables false
set_option linter.unusedSimpArgs false
namespace Jvm.Pilot.@@N@@
open Jvm Jvm.ClassFile Sem Op Lib Jvm.Free Jvm.Stand Jvm.LawKit Jvm.RoadKit Bundle Jvm.Pilot.@@N@@.Jvm.D
section OwnKit
variable {p : Program} {l : Launch} {e : Env} {R : Room} {s : State} {m : MethodId} {args : Array Value} {below : List Frame} {meth : Method} {c : Code} {T : State} {locs : List Loc} {cells slots : Nat} {Z : State} {a0 : Array Value} {h : Heap} {K N : Nat} {Q : Option Value → Heap → List Loc → Prop} {pc nx tg : Nat} {Ls : Array Slot} {st : List Value} {bs : ByteArray} {o : Int}
/-- from the frame g at T the run ends, returning, as Q says -/
def Wp (p : Program) (e : Env) (below : List Frame) (s : State) (K N : Nat) (Q : Option Value → Heap → List Loc → Prop) (T : State) (g : JFrame) : Prop :=
  ∃ s₂ o, Steps p.tables e below (T.setTop g) s₂ ∧ s₂.status = .running ∧ Ended s₂ below o ∧ ∃ v L, o = .returned v ∧ Q v s₂.heap L ∧ FrameEnd s o s₂ L K N
theorem Wp.go {T' : State} {g g' : JFrame} (st : ∀ target, Steps p.tables e below (T'.setTop g') target → Steps p.tables e below (T.setTop g) target) (k : Wp p e below s K N Q T' g') : Wp p e below s K N Q T g := by
  obtain ⟨s₂, o, h1, h2⟩ := k; exact ⟨s₂, o, st _ h1, h2⟩
theorem Wp.tr {T' : State} {g g' : JFrame} (st : Steps p.tables e below (T.setTop g) (T'.setTop g')) (k : Wp p e below s K N Q T' g') : Wp p e below s K N Q T g := by
  obtain ⟨s₂, o, h1, h2⟩ := k; exact ⟨s₂, o, st.trans h1, h2⟩
theorem Wp.mono {Q' : Option Value → Heap → List Loc → Prop} {g : JFrame} (hq : ∀ v h L, Q v h L → Q' v h L) (k : Wp p e below s K N Q T g) : Wp p e below s K N Q' T g := by
  obtain ⟨s₂, o, h1, h2, h3, v, L, h4, h5, h6⟩ := k; exact ⟨s₂, o, h1, h2, h3, v, L, h4, hq _ _ _ h5, h6⟩
/-- the instruction i, len bytes long, stands at pc; the next one at nx -/
def In (bs : ByteArray) (pc : Nat) (i : Instr) (len nx : Nat) : Prop := decode bs pc = .ok (i, len) ∧ pc + len = nx
/-- a jump by o: the next one at nx, the target at tg -/
def Jm (bs : ByteArray) (pc : Nat) (i : Instr) (o : Int) (nx tg : Nat) : Prop := decode bs pc = .ok (i, 3) ∧ pc + 3 = nx ∧ 0 ≤ (pc : Int) + o ∧ ((pc : Int) + o).toNat = tg

theorem w_iadd (X : Stand p l e R s m args below meth c T locs cells slots) (hx : p.tables.exec = Jvm.exec) (hby : c.code = bs) {x y : Int32} (hd : In bs pc (.iadd) 1 nx) (k : Wp p e below s K N Q T (mkF m nx Ls (.int (x + y) :: st))) : Wp p e below s K N Q T (mkF m pc Ls (.int y :: .int x :: st)) := by
  obtain ⟨d, rfl⟩ := hd; exact Wp.go (fun t kk => XS.iadd X.here hx rfl (hb hby d) rfl kk) k
theorem w_isub (X : Stand p l e R s m args below meth c T locs cells slots) (hx : p.tables.exec = Jvm.exec) (hby : c.code = bs) {x y : Int32} (hd : In bs pc (.isub) 1 nx) (k : Wp p e below s K N Q T (mkF m nx Ls (.int (x - y) :: st))) : Wp p e below s K N Q T (mkF m pc Ls (.int y :: .int x :: st)) := by
  obtain ⟨d, rfl⟩ := hd; exact Wp.go (fun t kk => XS.isub X.here hx rfl (hb hby d) rfl kk) k
theorem w_iand (X : Stand p l e R s m args below meth c T locs cells slots) (hx : p.tables.exec = Jvm.exec) (hby : c.code = bs) {x y : Int32} (hd : In bs pc (.iand) 1 nx) (k : Wp p e below s K N Q T (mkF m nx Ls (.int (x &&& y) :: st))) : Wp p e below s K N Q T (mkF m pc Ls (.int y :: .int x :: st)) := by
  obtain ⟨d, rfl⟩ := hd; exact Wp.go (fun t kk => XS.iand X.here hx rfl (hb hby d) rfl kk) k
theorem w_imul (X : Stand p l e R s m args below meth c T locs cells slots) (hx : p.tables.exec = Jvm.exec) (hby : c.code = bs) {x y : Int32} (hd : In bs pc (.imul) 1 nx) (k : Wp p e below s K N Q T (mkF m nx Ls (.int (x * y) :: st))) : Wp p e below s K N Q T (mkF m pc Ls (.int y :: .int x :: st)) := by
  obtain ⟨d, rfl⟩ := hd; exact Wp.go (fun t kk => XS.imul X.here hx rfl (hb hby d) rfl kk) k
theorem w_ior (X : Stand p l e R s m args below meth c T locs cells slots) (hx : p.tables.exec = Jvm.exec) (hby : c.code = bs) {x y : Int32} (hd : In bs pc (.ior) 1 nx) (k : Wp p e below s K N Q T (mkF m nx Ls (.int (x ||| y) :: st))) : Wp p e below s K N Q T (mkF m pc Ls (.int y :: .int x :: st)) := by
  obtain ⟨d, rfl⟩ := hd; exact Wp.go (fun t kk => XS.ior X.here hx rfl (hb hby d) rfl kk) k
theorem w_ixor (X : Stand p l e R s m args below meth c T locs cells slots) (hx : p.tables.exec = Jvm.exec) (hby : c.code = bs) {x y : Int32} (hd : In bs pc (.ixor) 1 nx) (k : Wp p e below s K N Q T (mkF m nx Ls (.int (x ^^^ y) :: st))) : Wp p e below s K N Q T (mkF m pc Ls (.int y :: .int x :: st)) := by
  obtain ⟨d, rfl⟩ := hd; exact Wp.go (fun t kk => XS.ixor X.here hx rfl (hb hby d) rfl kk) k
theorem w_ishl (X : Stand p l e R s m args below meth c T locs cells slots) (hx : p.tables.exec = Jvm.exec) (hby : c.code = bs) {x y : Int32} (hd : In bs pc (.ishl) 1 nx) (k : Wp p e below s K N Q T (mkF m nx Ls (.int (x <<< (y &&& 31)) :: st))) : Wp p e below s K N Q T (mkF m pc Ls (.int y :: .int x :: st)) := by
  obtain ⟨d, rfl⟩ := hd; exact Wp.go (fun t kk => XS.ishl X.here hx rfl (hb hby d) rfl kk) k
theorem w_ishr (X : Stand p l e R s m args below meth c T locs cells slots) (hx : p.tables.exec = Jvm.exec) (hby : c.code = bs) {x y : Int32} (hd : In bs pc (.ishr) 1 nx) (k : Wp p e below s K N Q T (mkF m nx Ls (.int (x >>> (y &&& 31)) :: st))) : Wp p e below s K N Q T (mkF m pc Ls (.int y :: .int x :: st)) := by
  obtain ⟨d, rfl⟩ := hd; exact Wp.go (fun t kk => XS.ishr X.here hx rfl (hb hby d) rfl kk) k
theorem w_iushr (X : Stand p l e R s m args below meth c T locs cells slots) (hx : p.tables.exec = Jvm.exec) (hby : c.code = bs) {x y : Int32} (hd : In bs pc (.iushr) 1 nx) (k : Wp p e below s K N Q T (mkF m nx Ls (.int ((x.toUInt32 >>> (y &&& 31).toUInt32).toInt32) :: st))) : Wp p e below s K N Q T (mkF m pc Ls (.int y :: .int x :: st)) := by
  obtain ⟨d, rfl⟩ := hd; exact Wp.go (fun t kk => XS.iushr X.here hx rfl (hb hby d) rfl kk) k
theorem w_ladd (X : Stand p l e R s m args below meth c T locs cells slots) (hx : p.tables.exec = Jvm.exec) (hby : c.code = bs) {x y : Int64} (hd : In bs pc (.ladd) 1 nx) (k : Wp p e below s K N Q T (mkF m nx Ls (.long (x + y) :: st))) : Wp p e below s K N Q T (mkF m pc Ls (.long y :: .long x :: st)) := by
  obtain ⟨d, rfl⟩ := hd; exact Wp.go (fun t kk => XS.ladd X.here hx rfl (hb hby d) rfl kk) k
theorem w_lsub (X : Stand p l e R s m args below meth c T locs cells slots) (hx : p.tables.exec = Jvm.exec) (hby : c.code = bs) {x y : Int64} (hd : In bs pc (.lsub) 1 nx) (k : Wp p e below s K N Q T (mkF m nx Ls (.long (x - y) :: st))) : Wp p e below s K N Q T (mkF m pc Ls (.long y :: .long x :: st)) := by
  obtain ⟨d, rfl⟩ := hd; exact Wp.go (fun t kk => XS.lsub X.here hx rfl (hb hby d) rfl kk) k
theorem w_land (X : Stand p l e R s m args below meth c T locs cells slots) (hx : p.tables.exec = Jvm.exec) (hby : c.code = bs) {x y : Int64} (hd : In bs pc (.land) 1 nx) (k : Wp p e below s K N Q T (mkF m nx Ls (.long (x &&& y) :: st))) : Wp p e below s K N Q T (mkF m pc Ls (.long y :: .long x :: st)) := by
  obtain ⟨d, rfl⟩ := hd; exact Wp.go (fun t kk => XS.land X.here hx rfl (hb hby d) rfl kk) k
theorem w_lmul (X : Stand p l e R s m args below meth c T locs cells slots) (hx : p.tables.exec = Jvm.exec) (hby : c.code = bs) {x y : Int64} (hd : In bs pc (.lmul) 1 nx) (k : Wp p e below s K N Q T (mkF m nx Ls (.long (x * y) :: st))) : Wp p e below s K N Q T (mkF m pc Ls (.long y :: .long x :: st)) := by
  obtain ⟨d, rfl⟩ := hd; exact Wp.go (fun t kk => XS.lmul X.here hx rfl (hb hby d) rfl kk) k
theorem w_lor (X : Stand p l e R s m args below meth c T locs cells slots) (hx : p.tables.exec = Jvm.exec) (hby : c.code = bs) {x y : Int64} (hd : In bs pc (.lor) 1 nx) (k : Wp p e below s K N Q T (mkF m nx Ls (.long (x ||| y) :: st))) : Wp p e below s K N Q T (mkF m pc Ls (.long y :: .long x :: st)) := by
  obtain ⟨d, rfl⟩ := hd; exact Wp.go (fun t kk => XS.lor X.here hx rfl (hb hby d) rfl kk) k
theorem w_lxor (X : Stand p l e R s m args below meth c T locs cells slots) (hx : p.tables.exec = Jvm.exec) (hby : c.code = bs) {x y : Int64} (hd : In bs pc (.lxor) 1 nx) (k : Wp p e below s K N Q T (mkF m nx Ls (.long (x ^^^ y) :: st))) : Wp p e below s K N Q T (mkF m pc Ls (.long y :: .long x :: st)) := by
  obtain ⟨d, rfl⟩ := hd; exact Wp.go (fun t kk => XS.lxor X.here hx rfl (hb hby d) rfl kk) k
theorem w_lshl (X : Stand p l e R s m args below meth c T locs cells slots) (hx : p.tables.exec = Jvm.exec) (hby : c.code = bs) {x : Int64} {y : Int32} (hd : In bs pc (.lshl) 1 nx) (k : Wp p e below s K N Q T (mkF m nx Ls (.long (x <<< (y &&& 0x3f).toInt64) :: st))) : Wp p e below s K N Q T (mkF m pc Ls (.int y :: .long x :: st)) := by
  obtain ⟨d, rfl⟩ := hd; exact Wp.go (fun t kk => XS.lshl X.here hx rfl (hb hby d) rfl kk) k
theorem w_lshr (X : Stand p l e R s m args below meth c T locs cells slots) (hx : p.tables.exec = Jvm.exec) (hby : c.code = bs) {x : Int64} {y : Int32} (hd : In bs pc (.lshr) 1 nx) (k : Wp p e below s K N Q T (mkF m nx Ls (.long (x >>> (y &&& 0x3f).toInt64) :: st))) : Wp p e below s K N Q T (mkF m pc Ls (.int y :: .long x :: st)) := by
  obtain ⟨d, rfl⟩ := hd; exact Wp.go (fun t kk => XS.lshr X.here hx rfl (hb hby d) rfl kk) k
theorem w_lushr (X : Stand p l e R s m args below meth c T locs cells slots) (hx : p.tables.exec = Jvm.exec) (hby : c.code = bs) {x : Int64} {y : Int32} (hd : In bs pc (.lushr) 1 nx) (k : Wp p e below s K N Q T (mkF m nx Ls (.long ((x.toUInt64 >>> (y &&& 0x3f).toInt64.toUInt64).toInt64) :: st))) : Wp p e below s K N Q T (mkF m pc Ls (.int y :: .long x :: st)) := by
  obtain ⟨d, rfl⟩ := hd; exact Wp.go (fun t kk => XS.lushr X.here hx rfl (hb hby d) rfl kk) k
theorem w_i2b (X : Stand p l e R s m args below meth c T locs cells slots) (hx : p.tables.exec = Jvm.exec) (hby : c.code = bs) {x : Int32} (hd : In bs pc (.i2b) 1 nx) (k : Wp p e below s K N Q T (mkF m nx Ls (.int (x.toInt8.toInt32) :: st))) : Wp p e below s K N Q T (mkF m pc Ls (.int x :: st)) := by
  obtain ⟨d, rfl⟩ := hd; exact Wp.go (fun t kk => XS.i2b X.here hx rfl (hb hby d) rfl kk) k
theorem w_i2c (X : Stand p l e R s m args below meth c T locs cells slots) (hx : p.tables.exec = Jvm.exec) (hby : c.code = bs) {x : Int32} (hd : In bs pc (.i2c) 1 nx) (k : Wp p e below s K N Q T (mkF m nx Ls (.int (x.toUInt32.toUInt16.toUInt32.toInt32) :: st))) : Wp p e below s K N Q T (mkF m pc Ls (.int x :: st)) := by
  obtain ⟨d, rfl⟩ := hd; exact Wp.go (fun t kk => XS.i2c X.here hx rfl (hb hby d) rfl kk) k
theorem w_i2s (X : Stand p l e R s m args below meth c T locs cells slots) (hx : p.tables.exec = Jvm.exec) (hby : c.code = bs) {x : Int32} (hd : In bs pc (.i2s) 1 nx) (k : Wp p e below s K N Q T (mkF m nx Ls (.int (x.toInt16.toInt32) :: st))) : Wp p e below s K N Q T (mkF m pc Ls (.int x :: st)) := by
  obtain ⟨d, rfl⟩ := hd; exact Wp.go (fun t kk => XS.i2s X.here hx rfl (hb hby d) rfl kk) k
theorem w_ineg (X : Stand p l e R s m args below meth c T locs cells slots) (hx : p.tables.exec = Jvm.exec) (hby : c.code = bs) {x : Int32} (hd : In bs pc (.ineg) 1 nx) (k : Wp p e below s K N Q T (mkF m nx Ls (.int (-x) :: st))) : Wp p e below s K N Q T (mkF m pc Ls (.int x :: st)) := by
  obtain ⟨d, rfl⟩ := hd; exact Wp.go (fun t kk => XS.ineg X.here hx rfl (hb hby d) rfl kk) k
theorem w_i2l (X : Stand p l e R s m args below meth c T locs cells slots) (hx : p.tables.exec = Jvm.exec) (hby : c.code = bs) {x : Int32} (hd : In bs pc (.i2l) 1 nx) (k : Wp p e below s K N Q T (mkF m nx Ls (.long x.toInt64 :: st))) : Wp p e below s K N Q T (mkF m pc Ls (.int x :: st)) := by
  obtain ⟨d, rfl⟩ := hd; exact Wp.go (fun t kk => XS.i2l X.here hx rfl (hb hby d) rfl kk) k
theorem w_l2i (X : Stand p l e R s m args below meth c T locs cells slots) (hx : p.tables.exec = Jvm.exec) (hby : c.code = bs) {x : Int64} (hd : In bs pc (.l2i) 1 nx) (k : Wp p e below s K N Q T (mkF m nx Ls (.int x.toInt32 :: st))) : Wp p e below s K N Q T (mkF m pc Ls (.long x :: st)) := by
  obtain ⟨d, rfl⟩ := hd; exact Wp.go (fun t kk => XS.l2i X.here hx rfl (hb hby d) rfl kk) k
theorem w_lneg (X : Stand p l e R s m args below meth c T locs cells slots) (hx : p.tables.exec = Jvm.exec) (hby : c.code = bs) {x : Int64} (hd : In bs pc (.lneg) 1 nx) (k : Wp p e below s K N Q T (mkF m nx Ls (.long (-x) :: st))) : Wp p e below s K N Q T (mkF m pc Ls (.long x :: st)) := by
  obtain ⟨d, rfl⟩ := hd; exact Wp.go (fun t kk => XS.lneg X.here hx rfl (hb hby d) rfl kk) k
theorem w_idiv (X : Stand p l e R s m args below meth c T locs cells slots) (hx : p.tables.exec = Jvm.exec) (hby : c.code = bs) {x y : Int32} (hd : In bs pc (.idiv) 1 nx) (hy : y ≠ 0) (k : Wp p e below s K N Q T (mkF m nx Ls (.int (x / y) :: st))) : Wp p e below s K N Q T (mkF m pc Ls (.int y :: .int x :: st)) := by
  obtain ⟨d, rfl⟩ := hd; exact Wp.go (fun t kk => XS.idiv X.here hx rfl (hb hby d) rfl hy kk) k
theorem w_irem (X : Stand p l e R s m args below meth c T locs cells slots) (hx : p.tables.exec = Jvm.exec) (hby : c.code = bs) {x y : Int32} (hd : In bs pc .irem 1 nx) (hy : y ≠ 0) (k : Wp p e below s K N Q T (mkF m nx Ls (.int (x % y) :: st))) : Wp p e below s K N Q T (mkF m pc Ls (.int y :: .int x :: st)) := by
  obtain ⟨d, rfl⟩ := hd; exact Wp.go (fun t kk => iremM X hx rfl (hb hby d) rfl hy kk) k
theorem w_ldiv (X : Stand p l e R s m args below meth c T locs cells slots) (hx : p.tables.exec = Jvm.exec) (hby : c.code = bs) {x y : Int64} (hd : In bs pc (.ldiv) 1 nx) (hy : y ≠ 0) (k : Wp p e below s K N Q T (mkF m nx Ls (.long (x / y) :: st))) : Wp p e below s K N Q T (mkF m pc Ls (.long y :: .long x :: st)) := by
  obtain ⟨d, rfl⟩ := hd; exact Wp.go (fun t kk => XS.ldiv X.here hx rfl (hb hby d) rfl hy kk) k
theorem w_lrem (X : Stand p l e R s m args below meth c T locs cells slots) (hx : p.tables.exec = Jvm.exec) (hby : c.code = bs) {x y : Int64} (hd : In bs pc .lrem 1 nx) (hy : y ≠ 0) (k : Wp p e below s K N Q T (mkF m nx Ls (.long (x % y) :: st))) : Wp p e below s K N Q T (mkF m pc Ls (.long y :: .long x :: st)) := by
  obtain ⟨d, rfl⟩ := hd; refine Wp.go (fun t kk => XS.lrem X.here hx rfl (hb hby d) rfl hy kk) ?_; rw [lrem_mod]; exact k
theorem w_aconst_null (X : Stand p l e R s m args below meth c T locs cells slots) (hx : p.tables.exec = Jvm.exec) (hby : c.code = bs)  (hd : In bs pc (.aconst_null) 1 nx) (k : Wp p e below s K N Q T (mkF m nx Ls (.null :: st))) : Wp p e below s K N Q T (mkF m pc Ls (st)) := by
  obtain ⟨d, rfl⟩ := hd; exact Wp.go (fun t kk => XS.aconstNull X.here hx rfl (hb hby d) kk) k
theorem w_dup (X : Stand p l e R s m args below meth c T locs cells slots) (hx : p.tables.exec = Jvm.exec) (hby : c.code = bs) {x : Value} (hd : In bs pc (.dup) 1 nx) (hc : x.category = 1) (k : Wp p e below s K N Q T (mkF m nx Ls (x :: x :: st))) : Wp p e below s K N Q T (mkF m pc Ls (x :: st)) := by
  obtain ⟨d, rfl⟩ := hd; exact Wp.go (fun t kk => XS.dup X.here hx rfl (hb hby d) rfl hc kk) k
theorem w_dup_x1 (X : Stand p l e R s m args below meth c T locs cells slots) (hx : p.tables.exec = Jvm.exec) (hby : c.code = bs) {x y : Value} (hd : In bs pc (.dup_x1) 1 nx) (hc : x.category = 1) (hc2 : y.category = 1) (k : Wp p e below s K N Q T (mkF m nx Ls (x :: y :: x :: st))) : Wp p e below s K N Q T (mkF m pc Ls (x :: y :: st)) := by
  obtain ⟨d, rfl⟩ := hd; exact Wp.go (fun t kk => XS.dupX1 X.here hx rfl (hb hby d) rfl hc hc2 kk) k
theorem w_dup2 (X : Stand p l e R s m args below meth c T locs cells slots) (hx : p.tables.exec = Jvm.exec) (hby : c.code = bs) {x y : Value} (hd : In bs pc (.dup2) 1 nx) (hc : x.category = 1) (hc2 : y.category = 1) (k : Wp p e below s K N Q T (mkF m nx Ls (x :: y :: x :: y :: st))) : Wp p e below s K N Q T (mkF m pc Ls (x :: y :: st)) := by
  obtain ⟨d, rfl⟩ := hd; exact Wp.go (fun t kk => XT.dup2 X.here hx rfl (hb hby d) rfl hc hc2 kk) k
theorem w_dup2L (X : Stand p l e R s m args below meth c T locs cells slots) (hx : p.tables.exec = Jvm.exec) (hby : c.code = bs) {x : Int64} (hd : In bs pc (.dup2) 1 nx) (k : Wp p e below s K N Q T (mkF m nx Ls (.long x :: .long x :: st))) : Wp p e below s K N Q T (mkF m pc Ls (.long x :: st)) := by
  obtain ⟨d, rfl⟩ := hd; exact Wp.go (fun t kk => XT.dup2L X.here hx rfl (hb hby d) rfl kk) k
theorem w_pop (X : Stand p l e R s m args below meth c T locs cells slots) (hx : p.tables.exec = Jvm.exec) (hby : c.code = bs) {x : Value} (hd : In bs pc (.pop) 1 nx) (hc : x.category = 1) (k : Wp p e below s K N Q T (mkF m nx Ls (st))) : Wp p e below s K N Q T (mkF m pc Ls (x :: st)) := by
  obtain ⟨d, rfl⟩ := hd; exact Wp.go (fun t kk => XS.pop X.here hx rfl (hb hby d) rfl hc kk) k
theorem w_iconst (X : Stand p l e R s m args below meth c T locs cells slots) (hx : p.tables.exec = Jvm.exec) (hby : c.code = bs) {i : Int} (v : Int32) (hd : In bs pc (.iconst i) 1 nx) (hv : Int32.ofInt i = v) (k : Wp p e below s K N Q T (mkF m nx Ls (.int v :: st))) : Wp p e below s K N Q T (mkF m pc Ls (st)) := by
  obtain ⟨d, rfl⟩ := hd; exact Wp.go (fun t kk => XT.iconstV X.here hx rfl v (hb hby d) hv kk) k
theorem w_bipush (X : Stand p l e R s m args below meth c T locs cells slots) (hx : p.tables.exec = Jvm.exec) (hby : c.code = bs) {i : Int} (v : Int32) (hd : In bs pc (.bipush i) 2 nx) (hv : (Int8.ofInt i).toInt32 = v) (k : Wp p e below s K N Q T (mkF m nx Ls (.int v :: st))) : Wp p e below s K N Q T (mkF m pc Ls (st)) := by
  obtain ⟨d, rfl⟩ := hd; exact Wp.go (fun t kk => XT.bipushV X.here hx rfl v (hb hby d) hv kk) k
theorem w_sipush (X : Stand p l e R s m args below meth c T locs cells slots) (hx : p.tables.exec = Jvm.exec) (hby : c.code = bs) {i : Int} (v : Int32) (hd : In bs pc (.sipush i) 3 nx) (hv : (Int16.ofInt i).toInt32 = v) (k : Wp p e below s K N Q T (mkF m nx Ls (.int v :: st))) : Wp p e below s K N Q T (mkF m pc Ls (st)) := by
  obtain ⟨d, rfl⟩ := hd; exact Wp.go (fun t kk => XT.sipushV X.here hx rfl v (hb hby d) hv kk) k
theorem w_lconst (X : Stand p l e R s m args below meth c T locs cells slots) (hx : p.tables.exec = Jvm.exec) (hby : c.code = bs) {i : Fin 2} (v : Int64) (hd : In bs pc (.lconst i) 1 nx) (hv : Int64.ofNat i = v) (k : Wp p e below s K N Q T (mkF m nx Ls (.long v :: st))) : Wp p e below s K N Q T (mkF m pc Ls (st)) := by
  obtain ⟨d, rfl⟩ := hd; exact Wp.go (fun t kk => XT.lconstV X.here hx rfl v (hb hby d) hv kk) k
theorem w_iloadN (X : Stand p l e R s m args below meth c T locs cells slots) (hx : p.tables.exec = Jvm.exec) (hby : c.code = bs) {i : Fin 4} {v : Int32} (hd : In bs pc (.iload_n i) 1 nx) (hl : Ls[i.val]? = some (.val (.int v))) (k : Wp p e below s K N Q T (mkF m nx Ls (.int v :: st))) : Wp p e below s K N Q T (mkF m pc Ls (st)) := by
  obtain ⟨d, rfl⟩ := hd; exact Wp.go (fun t kk => XS.iloadN X.here hx rfl (hb hby d) hl kk) k
theorem w_lloadN (X : Stand p l e R s m args below meth c T locs cells slots) (hx : p.tables.exec = Jvm.exec) (hby : c.code = bs) {i : Fin 4} {v : Int64} (hd : In bs pc (.lload_n i) 1 nx) (hl : Ls[i.val]? = some (.val (.long v))) (k : Wp p e below s K N Q T (mkF m nx Ls (.long v :: st))) : Wp p e below s K N Q T (mkF m pc Ls (st)) := by
  obtain ⟨d, rfl⟩ := hd; exact Wp.go (fun t kk => XS.lloadN X.here hx rfl (hb hby d) hl kk) k
theorem w_aloadN (X : Stand p l e R s m args below meth c T locs cells slots) (hx : p.tables.exec = Jvm.exec) (hby : c.code = bs) {i : Fin 4} {v : Value} (hd : In bs pc (.aload_n i) 1 nx) (hl : Ls[i.val]? = some (.val v)) (hv : v.isRef = true) (k : Wp p e below s K N Q T (mkF m nx Ls (v :: st))) : Wp p e below s K N Q T (mkF m pc Ls (st)) := by
  obtain ⟨d, rfl⟩ := hd; exact Wp.go (fun t kk => XS.aloadN X.here hx rfl (hb hby d) hl hv kk) k
theorem w_istoreN (X : Stand p l e R s m args below meth c T locs cells slots) (hx : p.tables.exec = Jvm.exec) (hby : c.code = bs) {i : Fin 4} {v : Int32} (l' : Array Slot) (hd : In bs pc (.istore_n i) 1 nx) (hl : storeLocals Ls i.val (.int v) = some l') (k : Wp p e below s K N Q T (mkF m nx l' (st))) : Wp p e below s K N Q T (mkF m pc Ls (.int v :: st)) := by
  obtain ⟨d, rfl⟩ := hd; exact Wp.go (fun t kk => XS.istoreN X.here hx rfl (hb hby d) rfl hl kk) k
theorem w_lstoreN (X : Stand p l e R s m args below meth c T locs cells slots) (hx : p.tables.exec = Jvm.exec) (hby : c.code = bs) {i : Fin 4} {v : Int64} (l' : Array Slot) (hd : In bs pc (.lstore_n i) 1 nx) (hl : storeLocals Ls i.val (.long v) = some l') (k : Wp p e below s K N Q T (mkF m nx l' (st))) : Wp p e below s K N Q T (mkF m pc Ls (.long v :: st)) := by
  obtain ⟨d, rfl⟩ := hd; exact Wp.go (fun t kk => XS.lstoreN X.here hx rfl (hb hby d) rfl hl kk) k
theorem w_astoreN (X : Stand p l e R s m args below meth c T locs cells slots) (hx : p.tables.exec = Jvm.exec) (hby : c.code = bs) {i : Fin 4} {v : Value} (l' : Array Slot) (hd : In bs pc (.astore_n i) 1 nx) (hv : v.isRef = true) (hl : storeLocals Ls i.val v = some l') (k : Wp p e below s K N Q T (mkF m nx l' (st))) : Wp p e below s K N Q T (mkF m pc Ls (v :: st)) := by
  obtain ⟨d, rfl⟩ := hd; exact Wp.go (fun t kk => XS.astoreN X.here hx rfl (hb hby d) rfl hv hl kk) k
theorem w_iload (X : Stand p l e R s m args below meth c T locs cells slots) (hx : p.tables.exec = Jvm.exec) (hby : c.code = bs) {i : Nat} {v : Int32} (hd : In bs pc (.iload i) 2 nx) (hl : Ls[i]? = some (.val (.int v))) (k : Wp p e below s K N Q T (mkF m nx Ls (.int v :: st))) : Wp p e below s K N Q T (mkF m pc Ls (st)) := by
  obtain ⟨d, rfl⟩ := hd; exact Wp.go (fun t kk => XS.iload X.here hx rfl (hb hby d) hl kk) k
theorem w_lload (X : Stand p l e R s m args below meth c T locs cells slots) (hx : p.tables.exec = Jvm.exec) (hby : c.code = bs) {i : Nat} {v : Int64} (hd : In bs pc (.lload i) 2 nx) (hl : Ls[i]? = some (.val (.long v))) (k : Wp p e below s K N Q T (mkF m nx Ls (.long v :: st))) : Wp p e below s K N Q T (mkF m pc Ls (st)) := by
  obtain ⟨d, rfl⟩ := hd; exact Wp.go (fun t kk => XS.lload X.here hx rfl (hb hby d) hl kk) k
theorem w_aload (X : Stand p l e R s m args below meth c T locs cells slots) (hx : p.tables.exec = Jvm.exec) (hby : c.code = bs) {i : Nat} {v : Value} (hd : In bs pc (.aload i) 2 nx) (hl : Ls[i]? = some (.val v)) (hv : v.isRef = true) (k : Wp p e below s K N Q T (mkF m nx Ls (v :: st))) : Wp p e below s K N Q T (mkF m pc Ls (st)) := by
  obtain ⟨d, rfl⟩ := hd; exact Wp.go (fun t kk => XS.aload X.here hx rfl (hb hby d) hl hv kk) k
theorem w_istore (X : Stand p l e R s m args below meth c T locs cells slots) (hx : p.tables.exec = Jvm.exec) (hby : c.code = bs) {i : Nat} {v : Int32} (l' : Array Slot) (hd : In bs pc (.istore i) 2 nx) (hl : storeLocals Ls i (.int v) = some l') (k : Wp p e below s K N Q T (mkF m nx l' (st))) : Wp p e below s K N Q T (mkF m pc Ls (.int v :: st)) := by
  obtain ⟨d, rfl⟩ := hd; exact Wp.go (fun t kk => XS.istore X.here hx rfl (hb hby d) rfl hl kk) k
theorem w_lstore (X : Stand p l e R s m args below meth c T locs cells slots) (hx : p.tables.exec = Jvm.exec) (hby : c.code = bs) {i : Nat} {v : Int64} (l' : Array Slot) (hd : In bs pc (.lstore i) 2 nx) (hl : storeLocals Ls i (.long v) = some l') (k : Wp p e below s K N Q T (mkF m nx l' (st))) : Wp p e below s K N Q T (mkF m pc Ls (.long v :: st)) := by
  obtain ⟨d, rfl⟩ := hd; exact Wp.go (fun t kk => XS.lstore X.here hx rfl (hb hby d) rfl hl kk) k
theorem w_astore (X : Stand p l e R s m args below meth c T locs cells slots) (hx : p.tables.exec = Jvm.exec) (hby : c.code = bs) {i : Nat} {v : Value} (l' : Array Slot) (hd : In bs pc (.astore i) 2 nx) (hv : v.isRef = true) (hl : storeLocals Ls i v = some l') (k : Wp p e below s K N Q T (mkF m nx l' (st))) : Wp p e below s K N Q T (mkF m pc Ls (v :: st)) := by
  obtain ⟨d, rfl⟩ := hd; exact Wp.go (fun t kk => XS.astore X.here hx rfl (hb hby d) rfl hv hl kk) k
theorem w_iinc (X : Stand p l e R s m args below meth c T locs cells slots) (hx : p.tables.exec = Jvm.exec) (hby : c.code = bs) {i : Nat} {cst : Int} {x : Int32} (v : Int32) (l' : Array Slot) (hd : In bs pc (.iinc i cst) 3 nx) (hv : Int32.ofInt cst = v) (hl : Ls[i]? = some (.val (.int x))) (hl' : storeLocals Ls i (.int (x + v)) = some l') (k : Wp p e below s K N Q T (mkF m nx l' st)) : Wp p e below s K N Q T (mkF m pc Ls st) := by
  obtain ⟨d, rfl⟩ := hd; exact Wp.go (fun t kk => XT.iincV X.here hx rfl v (hb hby d) hv hl hl' kk) k
theorem w_goto (X : Stand p l e R s m args below meth c T locs cells slots) (hx : p.tables.exec = Jvm.exec) (hby : c.code = bs) (hd : Jm bs pc (.goto o) o nx tg) (k : Wp p e below s K N Q T (mkF m tg Ls st)) : Wp p e below s K N Q T (mkF m pc Ls st) := by
  obtain ⟨d, -, q1, q2⟩ := hd; exact Wp.go (fun t kk => XS.goto X.here hx rfl rfl (hb hby d) q1 q2 kk) k
theorem f_icmp_eq (X : Stand p l e R s m args below meth c T locs cells slots) (hx : p.tables.exec = Jvm.exec) (hby : c.code = bs) {x y : Int32} (hd : Jm bs pc (.if_icmp .eq o) o nx tg) (kt : x = y → Wp p e below s K N Q T (mkF m tg Ls st)) (kf : ¬ x = y → Wp p e below s K N Q T (mkF m nx Ls st)) : Wp p e below s K N Q T (mkF m pc Ls (.int y :: .int x :: st)) := by
  obtain ⟨d, rfl, q1, q2⟩ := hd
  by_cases q : x = y
  · exact Wp.go (fun t kk => XS.icmpYes X.here hx rfl rfl (hb hby d) rfl (XT.ii_eq_t q) q1 q2 kk) (kt q)
  · exact Wp.go (fun t kk => XS.icmpNo X.here hx rfl (hb hby d) rfl (XT.ii_eq_f q) kk) (kf q)
theorem f_if_eq (X : Stand p l e R s m args below meth c T locs cells slots) (hx : p.tables.exec = Jvm.exec) (hby : c.code = bs) {x : Int32} (hd : Jm bs pc (.ifCond .eq o) o nx tg) (kt : x = 0 → Wp p e below s K N Q T (mkF m tg Ls st)) (kf : ¬ x = 0 → Wp p e below s K N Q T (mkF m nx Ls st)) : Wp p e below s K N Q T (mkF m pc Ls (.int x :: st)) := by
  obtain ⟨d, rfl, q1, q2⟩ := hd
  by_cases q : x = 0
  · exact Wp.go (fun t kk => XS.ifYes X.here hx rfl rfl (hb hby d) rfl (XT.i0_eq_t q) q1 q2 kk) (kt q)
  · exact Wp.go (fun t kk => XS.ifNo X.here hx rfl (hb hby d) rfl (XT.i0_eq_f q) kk) (kf q)
theorem f_lcmp_eq (X : Stand p l e R s m args below meth c T locs cells slots) (hx : p.tables.exec = Jvm.exec) (hby : c.code = bs) {x y : Int64} {n1 : Nat} (hc : In bs pc .lcmp 1 n1) (hd : Jm bs n1 (.ifCond .eq o) o nx tg) (kt : x = y → Wp p e below s K N Q T (mkF m tg Ls st)) (kf : ¬ x = y → Wp p e below s K N Q T (mkF m nx Ls st)) : Wp p e below s K N Q T (mkF m pc Ls (.long y :: .long x :: st)) := by
  obtain ⟨d1, rfl⟩ := hc; obtain ⟨d, rfl, q1, q2⟩ := hd
  refine Wp.go (fun t kk => XT.lcmp X.here hx rfl (hb hby d1) rfl kk) ?_
  by_cases q : x = y
  · exact Wp.go (fun t kk => XS.ifYes X.here hx rfl rfl (hb hby d) rfl (XT.ll_eq_t q) q1 q2 kk) (kt q)
  · exact Wp.go (fun t kk => XS.ifNo X.here hx rfl (hb hby d) rfl (XT.ll_eq_f q) kk) (kf q)
theorem f_icmp_ne (X : Stand p l e R s m args below meth c T locs cells slots) (hx : p.tables.exec = Jvm.exec) (hby : c.code = bs) {x y : Int32} (hd : Jm bs pc (.if_icmp .ne o) o nx tg) (kt : ¬ x = y → Wp p e below s K N Q T (mkF m tg Ls st)) (kf : x = y → Wp p e below s K N Q T (mkF m nx Ls st)) : Wp p e below s K N Q T (mkF m pc Ls (.int y :: .int x :: st)) := by
  obtain ⟨d, rfl, q1, q2⟩ := hd
  by_cases q : x = y
  · exact Wp.go (fun t kk => XS.icmpNo X.here hx rfl (hb hby d) rfl (XT.ii_ne_f q) kk) (kf q)
  · exact Wp.go (fun t kk => XS.icmpYes X.here hx rfl rfl (hb hby d) rfl (XT.ii_ne_t q) q1 q2 kk) (kt q)
theorem f_if_ne (X : Stand p l e R s m args below meth c T locs cells slots) (hx : p.tables.exec = Jvm.exec) (hby : c.code = bs) {x : Int32} (hd : Jm bs pc (.ifCond .ne o) o nx tg) (kt : ¬ x = 0 → Wp p e below s K N Q T (mkF m tg Ls st)) (kf : x = 0 → Wp p e below s K N Q T (mkF m nx Ls st)) : Wp p e below s K N Q T (mkF m pc Ls (.int x :: st)) := by
  obtain ⟨d, rfl, q1, q2⟩ := hd
  by_cases q : x = 0
  · exact Wp.go (fun t kk => XS.ifNo X.here hx rfl (hb hby d) rfl (XT.i0_ne_f q) kk) (kf q)
  · exact Wp.go (fun t kk => XS.ifYes X.here hx rfl rfl (hb hby d) rfl (XT.i0_ne_t q) q1 q2 kk) (kt q)
theorem f_lcmp_ne (X : Stand p l e R s m args below meth c T locs cells slots) (hx : p.tables.exec = Jvm.exec) (hby : c.code = bs) {x y : Int64} {n1 : Nat} (hc : In bs pc .lcmp 1 n1) (hd : Jm bs n1 (.ifCond .ne o) o nx tg) (kt : ¬ x = y → Wp p e below s K N Q T (mkF m tg Ls st)) (kf : x = y → Wp p e below s K N Q T (mkF m nx Ls st)) : Wp p e below s K N Q T (mkF m pc Ls (.long y :: .long x :: st)) := by
  obtain ⟨d1, rfl⟩ := hc; obtain ⟨d, rfl, q1, q2⟩ := hd
  refine Wp.go (fun t kk => XT.lcmp X.here hx rfl (hb hby d1) rfl kk) ?_
  by_cases q : x = y
  · exact Wp.go (fun t kk => XS.ifNo X.here hx rfl (hb hby d) rfl (XT.ll_ne_f q) kk) (kf q)
  · exact Wp.go (fun t kk => XS.ifYes X.here hx rfl rfl (hb hby d) rfl (XT.ll_ne_t q) q1 q2 kk) (kt q)
theorem f_icmp_lt (X : Stand p l e R s m args below meth c T locs cells slots) (hx : p.tables.exec = Jvm.exec) (hby : c.code = bs) {x y : Int32} (hd : Jm bs pc (.if_icmp .lt o) o nx tg) (kt : x < y → Wp p e below s K N Q T (mkF m tg Ls st)) (kf : ¬ x < y → Wp p e below s K N Q T (mkF m nx Ls st)) : Wp p e below s K N Q T (mkF m pc Ls (.int y :: .int x :: st)) := by
  obtain ⟨d, rfl, q1, q2⟩ := hd
  by_cases q : x < y
  · exact Wp.go (fun t kk => XS.icmpYes X.here hx rfl rfl (hb hby d) rfl (XT.ii_lt_t q) q1 q2 kk) (kt q)
  · exact Wp.go (fun t kk => XS.icmpNo X.here hx rfl (hb hby d) rfl (XT.ii_lt_f q) kk) (kf q)
theorem f_if_lt (X : Stand p l e R s m args below meth c T locs cells slots) (hx : p.tables.exec = Jvm.exec) (hby : c.code = bs) {x : Int32} (hd : Jm bs pc (.ifCond .lt o) o nx tg) (kt : x < 0 → Wp p e below s K N Q T (mkF m tg Ls st)) (kf : ¬ x < 0 → Wp p e below s K N Q T (mkF m nx Ls st)) : Wp p e below s K N Q T (mkF m pc Ls (.int x :: st)) := by
  obtain ⟨d, rfl, q1, q2⟩ := hd
  by_cases q : x < 0
  · exact Wp.go (fun t kk => XS.ifYes X.here hx rfl rfl (hb hby d) rfl (XT.i0_lt_t q) q1 q2 kk) (kt q)
  · exact Wp.go (fun t kk => XS.ifNo X.here hx rfl (hb hby d) rfl (XT.i0_lt_f q) kk) (kf q)
theorem f_lcmp_lt (X : Stand p l e R s m args below meth c T locs cells slots) (hx : p.tables.exec = Jvm.exec) (hby : c.code = bs) {x y : Int64} {n1 : Nat} (hc : In bs pc .lcmp 1 n1) (hd : Jm bs n1 (.ifCond .lt o) o nx tg) (kt : x < y → Wp p e below s K N Q T (mkF m tg Ls st)) (kf : ¬ x < y → Wp p e below s K N Q T (mkF m nx Ls st)) : Wp p e below s K N Q T (mkF m pc Ls (.long y :: .long x :: st)) := by
  obtain ⟨d1, rfl⟩ := hc; obtain ⟨d, rfl, q1, q2⟩ := hd
  refine Wp.go (fun t kk => XT.lcmp X.here hx rfl (hb hby d1) rfl kk) ?_
  by_cases q : x < y
  · exact Wp.go (fun t kk => XS.ifYes X.here hx rfl rfl (hb hby d) rfl (XT.ll_lt_t q) q1 q2 kk) (kt q)
  · exact Wp.go (fun t kk => XS.ifNo X.here hx rfl (hb hby d) rfl (XT.ll_lt_f q) kk) (kf q)
theorem f_icmp_ge (X : Stand p l e R s m args below meth c T locs cells slots) (hx : p.tables.exec = Jvm.exec) (hby : c.code = bs) {x y : Int32} (hd : Jm bs pc (.if_icmp .ge o) o nx tg) (kt : ¬ x < y → Wp p e below s K N Q T (mkF m tg Ls st)) (kf : x < y → Wp p e below s K N Q T (mkF m nx Ls st)) : Wp p e below s K N Q T (mkF m pc Ls (.int y :: .int x :: st)) := by
  obtain ⟨d, rfl, q1, q2⟩ := hd
  by_cases q : x < y
  · exact Wp.go (fun t kk => XS.icmpNo X.here hx rfl (hb hby d) rfl (XT.ii_ge_f q) kk) (kf q)
  · exact Wp.go (fun t kk => XS.icmpYes X.here hx rfl rfl (hb hby d) rfl (XT.ii_ge_t q) q1 q2 kk) (kt q)
theorem f_if_ge (X : Stand p l e R s m args below meth c T locs cells slots) (hx : p.tables.exec = Jvm.exec) (hby : c.code = bs) {x : Int32} (hd : Jm bs pc (.ifCond .ge o) o nx tg) (kt : ¬ x < 0 → Wp p e below s K N Q T (mkF m tg Ls st)) (kf : x < 0 → Wp p e below s K N Q T (mkF m nx Ls st)) : Wp p e below s K N Q T (mkF m pc Ls (.int x :: st)) := by
  obtain ⟨d, rfl, q1, q2⟩ := hd
  by_cases q : x < 0
  · exact Wp.go (fun t kk => XS.ifNo X.here hx rfl (hb hby d) rfl (XT.i0_ge_f q) kk) (kf q)
  · exact Wp.go (fun t kk => XS.ifYes X.here hx rfl rfl (hb hby d) rfl (XT.i0_ge_t q) q1 q2 kk) (kt q)
theorem f_lcmp_ge (X : Stand p l e R s m args below meth c T locs cells slots) (hx : p.tables.exec = Jvm.exec) (hby : c.code = bs) {x y : Int64} {n1 : Nat} (hc : In bs pc .lcmp 1 n1) (hd : Jm bs n1 (.ifCond .ge o) o nx tg) (kt : ¬ x < y → Wp p e below s K N Q T (mkF m tg Ls st)) (kf : x < y → Wp p e below s K N Q T (mkF m nx Ls st)) : Wp p e below s K N Q T (mkF m pc Ls (.long y :: .long x :: st)) := by
  obtain ⟨d1, rfl⟩ := hc; obtain ⟨d, rfl, q1, q2⟩ := hd
  refine Wp.go (fun t kk => XT.lcmp X.here hx rfl (hb hby d1) rfl kk) ?_
  by_cases q : x < y
  · exact Wp.go (fun t kk => XS.ifNo X.here hx rfl (hb hby d) rfl (XT.ll_ge_f q) kk) (kf q)
  · exact Wp.go (fun t kk => XS.ifYes X.here hx rfl rfl (hb hby d) rfl (XT.ll_ge_t q) q1 q2 kk) (kt q)
theorem f_icmp_gt (X : Stand p l e R s m args below meth c T locs cells slots) (hx : p.tables.exec = Jvm.exec) (hby : c.code = bs) {x y : Int32} (hd : Jm bs pc (.if_icmp .gt o) o nx tg) (kt : y < x → Wp p e below s K N Q T (mkF m tg Ls st)) (kf : ¬ y < x → Wp p e below s K N Q T (mkF m nx Ls st)) : Wp p e below s K N Q T (mkF m pc Ls (.int y :: .int x :: st)) := by
  obtain ⟨d, rfl, q1, q2⟩ := hd
  by_cases q : y < x
  · exact Wp.go (fun t kk => XS.icmpYes X.here hx rfl rfl (hb hby d) rfl (XT.ii_gt_t q) q1 q2 kk) (kt q)
  · exact Wp.go (fun t kk => XS.icmpNo X.here hx rfl (hb hby d) rfl (XT.ii_gt_f q) kk) (kf q)
theorem f_if_gt (X : Stand p l e R s m args below meth c T locs cells slots) (hx : p.tables.exec = Jvm.exec) (hby : c.code = bs) {x : Int32} (hd : Jm bs pc (.ifCond .gt o) o nx tg) (kt : 0 < x → Wp p e below s K N Q T (mkF m tg Ls st)) (kf : ¬ 0 < x → Wp p e below s K N Q T (mkF m nx Ls st)) : Wp p e below s K N Q T (mkF m pc Ls (.int x :: st)) := by
  obtain ⟨d, rfl, q1, q2⟩ := hd
  by_cases q : 0 < x
  · exact Wp.go (fun t kk => XS.ifYes X.here hx rfl rfl (hb hby d) rfl (XT.i0_gt_t q) q1 q2 kk) (kt q)
  · exact Wp.go (fun t kk => XS.ifNo X.here hx rfl (hb hby d) rfl (XT.i0_gt_f q) kk) (kf q)
theorem f_lcmp_gt (X : Stand p l e R s m args below meth c T locs cells slots) (hx : p.tables.exec = Jvm.exec) (hby : c.code = bs) {x y : Int64} {n1 : Nat} (hc : In bs pc .lcmp 1 n1) (hd : Jm bs n1 (.ifCond .gt o) o nx tg) (kt : y < x → Wp p e below s K N Q T (mkF m tg Ls st)) (kf : ¬ y < x → Wp p e below s K N Q T (mkF m nx Ls st)) : Wp p e below s K N Q T (mkF m pc Ls (.long y :: .long x :: st)) := by
  obtain ⟨d1, rfl⟩ := hc; obtain ⟨d, rfl, q1, q2⟩ := hd
  refine Wp.go (fun t kk => XT.lcmp X.here hx rfl (hb hby d1) rfl kk) ?_
  by_cases q : y < x
  · exact Wp.go (fun t kk => XS.ifYes X.here hx rfl rfl (hb hby d) rfl (XT.ll_gt_t q) q1 q2 kk) (kt q)
  · exact Wp.go (fun t kk => XS.ifNo X.here hx rfl (hb hby d) rfl (XT.ll_gt_f q) kk) (kf q)
theorem f_icmp_le (X : Stand p l e R s m args below meth c T locs cells slots) (hx : p.tables.exec = Jvm.exec) (hby : c.code = bs) {x y : Int32} (hd : Jm bs pc (.if_icmp .le o) o nx tg) (kt : ¬ y < x → Wp p e below s K N Q T (mkF m tg Ls st)) (kf : y < x → Wp p e below s K N Q T (mkF m nx Ls st)) : Wp p e below s K N Q T (mkF m pc Ls (.int y :: .int x :: st)) := by
  obtain ⟨d, rfl, q1, q2⟩ := hd
  by_cases q : y < x
  · exact Wp.go (fun t kk => XS.icmpNo X.here hx rfl (hb hby d) rfl (XT.ii_le_f q) kk) (kf q)
  · exact Wp.go (fun t kk => XS.icmpYes X.here hx rfl rfl (hb hby d) rfl (XT.ii_le_t q) q1 q2 kk) (kt q)
theorem f_if_le (X : Stand p l e R s m args below meth c T locs cells slots) (hx : p.tables.exec = Jvm.exec) (hby : c.code = bs) {x : Int32} (hd : Jm bs pc (.ifCond .le o) o nx tg) (kt : ¬ 0 < x → Wp p e below s K N Q T (mkF m tg Ls st)) (kf : 0 < x → Wp p e below s K N Q T (mkF m nx Ls st)) : Wp p e below s K N Q T (mkF m pc Ls (.int x :: st)) := by
  obtain ⟨d, rfl, q1, q2⟩ := hd
  by_cases q : 0 < x
  · exact Wp.go (fun t kk => XS.ifNo X.here hx rfl (hb hby d) rfl (XT.i0_le_f q) kk) (kf q)
  · exact Wp.go (fun t kk => XS.ifYes X.here hx rfl rfl (hb hby d) rfl (XT.i0_le_t q) q1 q2 kk) (kt q)
theorem f_lcmp_le (X : Stand p l e R s m args below meth c T locs cells slots) (hx : p.tables.exec = Jvm.exec) (hby : c.code = bs) {x y : Int64} {n1 : Nat} (hc : In bs pc .lcmp 1 n1) (hd : Jm bs n1 (.ifCond .le o) o nx tg) (kt : ¬ y < x → Wp p e below s K N Q T (mkF m tg Ls st)) (kf : y < x → Wp p e below s K N Q T (mkF m nx Ls st)) : Wp p e below s K N Q T (mkF m pc Ls (.long y :: .long x :: st)) := by
  obtain ⟨d1, rfl⟩ := hc; obtain ⟨d, rfl, q1, q2⟩ := hd
  refine Wp.go (fun t kk => XT.lcmp X.here hx rfl (hb hby d1) rfl kk) ?_
  by_cases q : y < x
  · exact Wp.go (fun t kk => XS.ifNo X.here hx rfl (hb hby d) rfl (XT.ll_le_f q) kk) (kf q)
  · exact Wp.go (fun t kk => XS.ifYes X.here hx rfl rfl (hb hby d) rfl (XT.ll_le_t q) q1 q2 kk) (kt q)
theorem f_acmp_eq (X : Stand p l e R s m args below meth c T locs cells slots) (hx : p.tables.exec = Jvm.exec) (hby : c.code = bs) {x y : Addr} (hd : Jm bs pc (.if_acmp .eq o) o nx tg) (kt : x = y → Wp p e below s K N Q T (mkF m tg Ls st)) (kf : ¬ x = y → Wp p e below s K N Q T (mkF m nx Ls st)) : Wp p e below s K N Q T (mkF m pc Ls (.ref y :: .ref x :: st)) := by
  obtain ⟨d, rfl, q1, q2⟩ := hd
  by_cases q : x = y
  · exact Wp.go (fun t kk => XT.acmpYes X.here hx rfl rfl (hb hby d) rfl rfl rfl (XT.aa_eq_t (congrArg Value.ref q)) q1 q2 kk) (kt q)
  · exact Wp.go (fun t kk => XT.acmpNo X.here hx rfl (hb hby d) rfl rfl rfl (XT.aa_eq_f (fun r => q (Value.ref.inj r))) kk) (kf q)
theorem f_acmpV_eq (X : Stand p l e R s m args below meth c T locs cells slots) (hx : p.tables.exec = Jvm.exec) (hby : c.code = bs) {x y : Value} (hx' : x.isRef = true) (hy' : y.isRef = true) (hd : Jm bs pc (.if_acmp .eq o) o nx tg) (kt : x = y → Wp p e below s K N Q T (mkF m tg Ls st)) (kf : ¬ x = y → Wp p e below s K N Q T (mkF m nx Ls st)) : Wp p e below s K N Q T (mkF m pc Ls (y :: x :: st)) := by
  obtain ⟨d, rfl, q1, q2⟩ := hd
  by_cases q : x = y
  · exact Wp.go (fun t kk => XT.acmpYes X.here hx rfl rfl (hb hby d) rfl hx' hy' (XT.aa_eq_t q) q1 q2 kk) (kt q)
  · exact Wp.go (fun t kk => XT.acmpNo X.here hx rfl (hb hby d) rfl hx' hy' (XT.aa_eq_f q) kk) (kf q)
theorem f_acmp_ne (X : Stand p l e R s m args below meth c T locs cells slots) (hx : p.tables.exec = Jvm.exec) (hby : c.code = bs) {x y : Addr} (hd : Jm bs pc (.if_acmp .ne o) o nx tg) (kt : ¬ x = y → Wp p e below s K N Q T (mkF m tg Ls st)) (kf : x = y → Wp p e below s K N Q T (mkF m nx Ls st)) : Wp p e below s K N Q T (mkF m pc Ls (.ref y :: .ref x :: st)) := by
  obtain ⟨d, rfl, q1, q2⟩ := hd
  by_cases q : x = y
  · exact Wp.go (fun t kk => XT.acmpNo X.here hx rfl (hb hby d) rfl rfl rfl (XT.aa_ne_f (congrArg Value.ref q)) kk) (kf q)
  · exact Wp.go (fun t kk => XT.acmpYes X.here hx rfl rfl (hb hby d) rfl rfl rfl (XT.aa_ne_t (fun r => q (Value.ref.inj r))) q1 q2 kk) (kt q)
theorem f_acmpV_ne (X : Stand p l e R s m args below meth c T locs cells slots) (hx : p.tables.exec = Jvm.exec) (hby : c.code = bs) {x y : Value} (hx' : x.isRef = true) (hy' : y.isRef = true) (hd : Jm bs pc (.if_acmp .ne o) o nx tg) (kt : ¬ x = y → Wp p e below s K N Q T (mkF m tg Ls st)) (kf : x = y → Wp p e below s K N Q T (mkF m nx Ls st)) : Wp p e below s K N Q T (mkF m pc Ls (y :: x :: st)) := by
  obtain ⟨d, rfl, q1, q2⟩ := hd
  by_cases q : x = y
  · exact Wp.go (fun t kk => XT.acmpNo X.here hx rfl (hb hby d) rfl hx' hy' (XT.aa_ne_f q) kk) (kf q)
  · exact Wp.go (fun t kk => XT.acmpYes X.here hx rfl rfl (hb hby d) rfl hx' hy' (XT.aa_ne_t q) q1 q2 kk) (kt q)
theorem w_lswHit (X : Stand p l e R s m args below meth c T locs cells slots) (hx : p.tables.exec = Jvm.exec) (hby : c.code = bs) {x : Int32} {df : Int} {ps : Array (Int × Int)} {len : Nat} {a off : Int} (hd : In bs pc (.lookupswitch df ps) len nx) (hs : (ps.toList.zip (ps.toList.drop 1)).all (fun (a, next) => a.1 < next.1) = true) (hf : ps.find? (·.1 == x.toInt) = some (a, off)) (ho : 0 ≤ (pc : Int) + off) (ht : ((pc : Int) + off).toNat = tg) (k : Wp p e below s K N Q T (mkF m tg Ls st)) : Wp p e below s K N Q T (mkF m pc Ls (.int x :: st)) := by
  obtain ⟨d, -⟩ := hd; subst ht; exact Wp.go (fun t kk => X.lookupswitchHit hx (g := mkF m pc Ls (.int x :: st)) rfl rfl (hb hby d) hs hf ho t kk) k
theorem w_lswMiss (X : Stand p l e R s m args below meth c T locs cells slots) (hx : p.tables.exec = Jvm.exec) (hby : c.code = bs) {x : Int32} {df : Int} {ps : Array (Int × Int)} {len : Nat} (hd : In bs pc (.lookupswitch df ps) len nx) (hs : (ps.toList.zip (ps.toList.drop 1)).all (fun (a, next) => a.1 < next.1) = true) (hf : ps.find? (·.1 == x.toInt) = none) (ho : 0 ≤ (pc : Int) + df) (ht : ((pc : Int) + df).toNat = tg) (k : Wp p e below s K N Q T (mkF m tg Ls st)) : Wp p e below s K N Q T (mkF m pc Ls (.int x :: st)) := by
  obtain ⟨d, -⟩ := hd; subst ht; exact Wp.go (fun t kk => X.lookupswitchMiss hx (g := mkF m pc Ls (.int x :: st)) rfl rfl (hb hby d) hs hf ho t kk) k
theorem w_tswIn (X : Stand p l e R s m args below meth c T locs cells slots) (hx : p.tables.exec = Jvm.exec) (hby : c.code = bs) {x : Int32} {df lo hi : Int} {os : Array Int} {len : Nat} {off : Int} (hd : In bs pc (.tableswitch df lo hi os) len nx) (hin : ¬ (x.toInt < lo ∨ x.toInt > hi)) (hoff : os[(x.toInt - lo).toNat]? = some off) (ho : 0 ≤ (pc : Int) + off) (ht : ((pc : Int) + off).toNat = tg) (k : Wp p e below s K N Q T (mkF m tg Ls st)) : Wp p e below s K N Q T (mkF m pc Ls (.int x :: st)) := by
  obtain ⟨d, -⟩ := hd; exact Wp.go (fun t kk => XS.tswIn X.here hx rfl rfl (hb hby d) rfl hin hoff ho ht kk) k
theorem w_tswOut (X : Stand p l e R s m args below meth c T locs cells slots) (hx : p.tables.exec = Jvm.exec) (hby : c.code = bs) {x : Int32} {df lo hi : Int} {os : Array Int} {len : Nat} (hd : In bs pc (.tableswitch df lo hi os) len nx) (hout : x.toInt < lo ∨ x.toInt > hi) (ho : 0 ≤ (pc : Int) + df) (ht : ((pc : Int) + df).toNat = tg) (k : Wp p e below s K N Q T (mkF m tg Ls st)) : Wp p e below s K N Q T (mkF m pc Ls (.int x :: st)) := by
  obtain ⟨d, -⟩ := hd; exact Wp.go (fun t kk => XS.tswOut X.here hx rfl rfl (hb hby d) rfl hout ho ht kk) k
theorem own_ne32 {x z : Int32} {i : Int} (h : ¬ x = z) (hz : z.toInt = i) : i ≠ x.toInt := fun q => h (Int32.toInt_inj.mp (by rw [hz, q]))
theorem w_ifnonnullRef (X : Stand p l e R s m args below meth c T locs cells slots) (hx : p.tables.exec = Jvm.exec) (hby : c.code = bs) {a : Addr} (hd : Jm bs pc (.ifnonnull o) o nx tg) (k : Wp p e below s K N Q T (mkF m tg Ls st)) : Wp p e below s K N Q T (mkF m pc Ls (.ref a :: st)) := by
  obtain ⟨d, -, q1, q2⟩ := hd; exact Wp.go (fun t kk => XS.ifnonnullYes X.here hx rfl rfl (hb hby d) rfl q1 q2 kk) k
theorem w_ifnonnullNull (X : Stand p l e R s m args below meth c T locs cells slots) (hx : p.tables.exec = Jvm.exec) (hby : c.code = bs) (hd : Jm bs pc (.ifnonnull o) o nx tg) (k : Wp p e below s K N Q T (mkF m nx Ls st)) : Wp p e below s K N Q T (mkF m pc Ls (.null :: st)) := by
  obtain ⟨d, rfl, q1, q2⟩ := hd; exact Wp.go (fun t kk => XS.ifnonnullNo X.here hx rfl (hb hby d) rfl kk) k
theorem w_ifnullRef (X : Stand p l e R s m args below meth c T locs cells slots) (hx : p.tables.exec = Jvm.exec) (hby : c.code = bs) {a : Addr} (hd : Jm bs pc (.ifnull o) o nx tg) (k : Wp p e below s K N Q T (mkF m nx Ls st)) : Wp p e below s K N Q T (mkF m pc Ls (.ref a :: st)) := by
  obtain ⟨d, rfl, q1, q2⟩ := hd; exact Wp.go (fun t kk => XS.ifnullNo X.here hx rfl (hb hby d) rfl kk) k
theorem w_ifnullNull (X : Stand p l e R s m args below meth c T locs cells slots) (hx : p.tables.exec = Jvm.exec) (hby : c.code = bs) (hd : Jm bs pc (.ifnull o) o nx tg) (k : Wp p e below s K N Q T (mkF m tg Ls st)) : Wp p e below s K N Q T (mkF m pc Ls (.null :: st)) := by
  obtain ⟨d, -, q1, q2⟩ := hd; exact Wp.go (fun t kk => XS.ifnullYes X.here hx rfl rfl (hb hby d) rfl q1 q2 kk) k
theorem w_ldcI (X : Stand p l e R s m args below meth c T locs cells slots) (hx : p.tables.exec = Jvm.exec) (hby : c.code = bs) (hZ : Z.Warmed39 s.vm) {own : String} (hown : s.vm.findClass own = some m.cls) {index : Nat} {v : Int32} (w : (Cond.constant own index v).before a0 Z = true) (hd : In bs pc (.ldc index) 2 nx) (k : Wp p e below s K N Q T (mkF m nx Ls (.int v :: st))) : Wp p e below s K N Q T (mkF m pc Ls st) := by
  obtain ⟨d, rfl⟩ := hd; exact Wp.go (fun t kk => X.ldcInt hx hown (mvT hZ w) (g := mkF m pc Ls st) rfl (hb hby d) t kk) k
theorem w_ldcwI (X : Stand p l e R s m args below meth c T locs cells slots) (hx : p.tables.exec = Jvm.exec) (hby : c.code = bs) (hZ : Z.Warmed39 s.vm) {own : String} (hown : s.vm.findClass own = some m.cls) {index : Nat} {v : Int32} (w : (Cond.constant own index v).before a0 Z = true) (hd : In bs pc (.ldc_w index) 3 nx) (k : Wp p e below s K N Q T (mkF m nx Ls (.int v :: st))) : Wp p e below s K N Q T (mkF m pc Ls st) := by
  obtain ⟨d, rfl⟩ := hd; exact Wp.go (fun t kk => X.ldcWI hx hown (mvT hZ w) (g := mkF m pc Ls st) rfl (hb hby d) kk) k
theorem w_ldc2J (X : Stand p l e R s m args below meth c T locs cells slots) (hx : p.tables.exec = Jvm.exec) (hby : c.code = bs) (hZ : Z.Warmed39 s.vm) {own : String} (hown : s.vm.findClass own = some m.cls) {index : Nat} {v : Int64} (w : (Cond.constantLong own index v).before a0 Z = true) (hd : In bs pc (.ldc2_w index) 3 nx) (k : Wp p e below s K N Q T (mkF m nx Ls (.long v :: st))) : Wp p e below s K N Q T (mkF m pc Ls st) := by
  obtain ⟨d, rfl⟩ := hd; exact Wp.go (fun t kk => X.ldc2Long hx hown (mvT hZ w) (g := mkF m pc Ls st) rfl (hb hby d) t kk) k
theorem w_getS (X : Stand p l e R s m args below meth c T locs cells slots) (hx : p.tables.exec = Jvm.exec) (hby : c.code = bs) (hZ : Z.Warmed39 s.vm) {own : String} (hown : s.vm.findClass own = some m.cls) {R0 C n d host : String} {index : Nat} (w : (Cond.fieldLink own index R0 n d).before a0 Z = true ∨ (Cond.fieldLinkNest own index R0 n d host).before a0 Z = true) (via : Via Z R0 C n d) (eT : T.heap = h) {v : Value} (F : Sta Z h C n d v) (hd : In bs pc (.getstatic index) 3 nx) (k : ∀ T', Stand p l e R s m args below meth c T' locs cells slots → T'.heap = h → Wp p e below s K N Q T' (mkF m nx Ls (v :: st))) : Wp p e below s K N Q T (mkF m pc Ls st) := by
  obtain ⟨d, rfl⟩ := hd; obtain ⟨T', X', e', st'⟩ := getS2 X hx hZ hown w via eT F (g := mkF m pc Ls st) rfl (hb hby d); exact Wp.go st' (k T' X' e')
theorem w_getF (X : Stand p l e R s m args below meth c T locs cells slots) (hx : p.tables.exec = Jvm.exec) (hby : c.code = bs) (hZ : Z.Warmed39 s.vm) {own : String} (hown : s.vm.findClass own = some m.cls) {R0 C n d host : String} {index : Nat} (w : (Cond.fieldLink own index R0 n d).before a0 Z = true ∨ (Cond.fieldLinkNest own index R0 n d host).before a0 Z = true) (via : Via Z R0 C n d) (eT : T.heap = h) {a : Addr} {v : Value} (F : Fld Z h a C n d v) (hd : In bs pc (.getfield index) 3 nx) (k : ∀ T', Stand p l e R s m args below meth c T' locs cells slots → T'.heap = h → Wp p e below s K N Q T' (mkF m nx Ls (v :: st))) : Wp p e below s K N Q T (mkF m pc Ls (.ref a :: st)) := by
  obtain ⟨d, rfl⟩ := hd; obtain ⟨T', X', e', st'⟩ := getF X hx hZ hown w via eT F (g := mkF m pc Ls (.ref a :: st)) rfl rfl (hb hby d); exact Wp.go st' (k T' X' e')
theorem w_putF (X : Stand p l e R s m args below meth c T locs cells slots) (hx : p.tables.exec = Jvm.exec) (hby : c.code = bs) (hZ : Z.Warmed39 s.vm) {own : String} (hown : s.vm.findClass own = some m.cls) {R0 C n d host D : String} {index kk : Nat} {ty : FieldType} (w : (Cond.fieldLink own index R0 n d).before a0 Z = true ∨ (Cond.fieldLinkNest own index R0 n d host).before a0 Z = true) (via : Via Z R0 C n d) (eT : T.heap = h) {a : Addr} {v old : Value} (F : Fld Z h a C n d old) (E : Exa Z h a D) (Lw : (Cond.lays D C n d).before a0 Z = true ∨ ((Cond.laysFinal D C n d).before a0 Z = true ∧ own = C ∧ meth.name = "<init>")) (wi : (Cond.instantiable D kk).before a0 Z = true) (hty : parseFieldDescriptor d = some ty) (hn : narrow ty v = v) (hf : fits ty v = true) (hd : In bs pc (.putfield index) 3 nx) (k : ∀ T' h', Stand p l e R s m args below meth c T' (locs ++ [⟨a, Jvm.RoadKit.slotOf Z C n d⟩]) cells slots → T'.heap = h' → Wr h h' a (Jvm.RoadKit.slotOf Z C n d) v → Wp p e below s K N Q T' (mkF m nx Ls st)) : Wp p e below s K N Q T (mkF m pc Ls (v :: .ref a :: st)) := by
  obtain ⟨d, rfl⟩ := hd; obtain ⟨T', h', X', e', W', st'⟩ := putF X hx hZ hown w via eT F E Lw wi hty hn hf (g := mkF m pc Ls (v :: .ref a :: st)) rfl rfl (hb hby d); exact Wp.go st' (k T' h' X' e' W')
theorem w_putFN (X : Stand p l e R s m args below meth c T locs cells slots) (hx : p.tables.exec = Jvm.exec) (hby : c.code = bs) (hZ : Z.Warmed39 s.vm) {own : String} (hown : s.vm.findClass own = some m.cls) {R0 C n d D : String} {index kk : Nat} {ty : FieldType} (w : (Cond.fieldLink own index R0 n d).before a0 Z = true) (via : Via Z R0 C n d) (eT : T.heap = h) {a : Addr} {v v' old : Value} (F : Fld Z h a C n d old) (E : Exa Z h a D) (Lw : (Cond.lays D C n d).before a0 Z = true ∨ ((Cond.laysFinal D C n d).before a0 Z = true ∧ own = C ∧ meth.name = "<init>")) (wi : (Cond.instantiable D kk).before a0 Z = true) (hty : parseFieldDescriptor d = some ty) (hn : narrow ty v = v') (hf : fits ty v' = true) (hd : In bs pc (.putfield index) 3 nx) (k : ∀ T' h', Stand p l e R s m args below meth c T' (locs ++ [⟨a, Jvm.RoadKit.slotOf Z C n d⟩]) cells slots → T'.heap = h' → Wr h h' a (Jvm.RoadKit.slotOf Z C n d) v' → Wp p e below s K N Q T' (mkF m nx Ls st)) : Wp p e below s K N Q T (mkF m pc Ls (v :: .ref a :: st)) := by
  obtain ⟨d, rfl⟩ := hd; obtain ⟨T', h', X', e', W', st'⟩ := putFN X hx hZ hown w via eT F E Lw wi hty hn hf (g := mkF m pc Ls (v :: .ref a :: st)) rfl rfl (hb hby d); exact Wp.go st' (k T' h' X' e' W')
theorem w_newO (X : Stand p l e R s m args below meth c T locs cells slots) (hx : p.tables.exec = Jvm.exec) (hby : c.code = bs) (hZ : Z.Warmed39 s.vm) {own : String} (hown : s.vm.findClass own = some m.cls) {C : String} {index n : Nat} (w : (Cond.classLink own index C).before a0 Z = true) (wi : (Cond.instantiable C n).before a0 Z = true) (wz : (Cond.initialized C).before a0 Z = true) (eT : T.heap = h) (hd : In bs pc (.new index) 3 nx) (hc : cells + 1 ≤ R.cells) (hl : slots + n ≤ R.slots) (k : ∀ T' h' a, a = h.size → Stand p l e R s m args below meth c T' locs (cells + 1) (slots + n) → T'.heap = h' → Ext h h' → Exa Z h' a C → (∀ {D nm d : String} {ty : FieldType}, Laid Z a0 C D nm d → parseFieldDescriptor d = some ty → Fld Z h' a D nm d (defaultValue ty)) → Wp p e below s K N Q T' (mkF m nx Ls (.ref a :: st))) : Wp p e below s K N Q T (mkF m pc Ls st) := by
  obtain ⟨d, rfl⟩ := hd; obtain ⟨T', h', X', e', E', A', D', -, st'⟩ := newO X hx hZ hown w wi wz eT (g := mkF m pc Ls st) rfl (hb hby d) hc hl; exact Wp.go st' (k T' h' _ rfl X' e' E' A' D')
theorem w_newP (X : Stand p l e R s m args below meth c T locs cells slots) (hx : p.tables.exec = Jvm.exec) (hby : c.code = bs) (hZ : Z.Warmed39 s.vm) {aty : ArrayType} (w : (Cond.arrayClass (newarray.typeOf aty)).before a0 Z = true) (eT : T.heap = h) {n : Int32} (hd : In bs pc (.newarray aty) 2 nx) (hn : ¬ n < 0) (cap : Nat) (hcap : n.toNatClampNeg ≤ cap) (hbig : cap * 8 ≤ 536870912) (hc : cells + 1 ≤ R.cells) (hl : slots + cap ≤ R.slots) (k : ∀ T' h' a kA, a = h.size → Stand p l e R s m args below meth c T' locs (cells + 1) (slots + cap) → T'.heap = h' → Ext h h' → Arr Z h' a (newA kA (newarray.typeOf aty) n) (newarray.typeOf aty) → Wp p e below s K N Q T' (mkF m nx Ls (.ref a :: st))) : Wp p e below s K N Q T (mkF m pc Ls (.int n :: st)) := by
  obtain ⟨d, rfl⟩ := hd; obtain ⟨T', h', kA, X', e', E', A', st'⟩ := newP X hx hZ w eT (g := mkF m pc Ls (.int n :: st)) rfl (hb hby d) rfl hn hcap hbig hc hl; exact Wp.go st' (k T' h' _ kA rfl X' e' E' A')
theorem w_newPE (X : Stand p l e R s m args below meth c T locs cells slots) (hx : p.tables.exec = Jvm.exec) (hby : c.code = bs) (hZ : Z.Warmed39 s.vm) {aty : ArrayType} (w : (Cond.arrayClass (newarray.typeOf aty)).before a0 Z = true) (eT : T.heap = h) {n : Int32} (hd : In bs pc (.newarray aty) 2 nx) (hn : ¬ n < 0) (cap : Nat) (hcap : n.toNatClampNeg ≤ cap) (hbig : cap * 8 ≤ 536870912) (hc : cells + 1 ≤ R.cells) (hl : slots + cap ≤ R.slots) (ad : String) (had : "[" ++ (newarray.typeOf aty).toString = ad) (k : ∀ T' h' a kA, a = h.size → Stand p l e R s m args below meth c T' locs (cells + 1) (slots + cap) → T'.heap = h' → Ext h h' → Arr Z h' a (newA kA (newarray.typeOf aty) n) (newarray.typeOf aty) → Exa Z h' a ad → Wp p e below s K N Q T' (mkF m nx Ls (.ref a :: st))) : Wp p e below s K N Q T (mkF m pc Ls (.int n :: st)) := by
  obtain ⟨d, rfl⟩ := hd; obtain ⟨T', h', kA, X', e', E', A', I', st'⟩ := newPE X hx hZ w eT (g := mkF m pc Ls (.int n :: st)) rfl (hb hby d) rfl hn hcap hbig hc hl had; exact Wp.go st' (k T' h' _ kA rfl X' e' E' A' I')
theorem w_newRA (X : Stand p l e R s m args below meth c T locs cells slots) (hx : p.tables.exec = Jvm.exec) (hby : c.code = bs) (hZ : Z.Warmed39 s.vm) {own : String} (hown : s.vm.findClass own = some m.cls) {C : String} {ty : FieldType} {index : Nat} (hC : (FieldType.array ty).toString = C) (w1 : (Cond.classLink own index C).before a0 Z = true) (w2 : (Cond.arrayOver (.array ty)).before a0 Z = true) (eT : T.heap = h) {n : Int32} (hd : In bs pc (.anewarray index) 3 nx) (hn : ¬ n < 0) (cap : Nat) (hcap : n.toNatClampNeg ≤ cap) (hbig : cap * 8 ≤ 536870912) (hc : cells + 1 ≤ R.cells) (hl : slots + cap ≤ R.slots) (k : ∀ T' h' a kA, a = h.size → Stand p l e R s m args below meth c T' locs (cells + 1) (slots + cap) → T'.heap = h' → Ext h h' → Arr Z h' a (newA kA (.array ty) n) (.array ty) → OvrA Z kA ty C → Wp p e below s K N Q T' (mkF m nx Ls (.ref a :: st))) : Wp p e below s K N Q T (mkF m pc Ls (.int n :: st)) := by
  obtain ⟨d, rfl⟩ := hd; obtain ⟨T', h', kA, X', e', E', A', -, O', st'⟩ := newRA X hx hZ hown hC w1 w2 eT (g := mkF m pc Ls (.int n :: st)) rfl (hb hby d) rfl hn hcap hbig hc hl rfl; exact Wp.go st' (k T' h' _ kA rfl X' e' E' A' O')
theorem w_newR (X : Stand p l e R s m args below meth c T locs cells slots) (hx : p.tables.exec = Jvm.exec) (hby : c.code = bs) (hZ : Z.Warmed39 s.vm) {own : String} (hown : s.vm.findClass own = some m.cls) {C : String} {index : Nat} (w1 : (Cond.classLink own index C).before a0 Z = true) (w2 : (Cond.arrayOver (.object C)).before a0 Z = true) (eT : T.heap = h) {n : Int32} (hd : In bs pc (.anewarray index) 3 nx) (hn : ¬ n < 0) (cap : Nat) (hcap : n.toNatClampNeg ≤ cap) (hbig : cap * 8 ≤ 536870912) (hc : cells + 1 ≤ R.cells) (hl : slots + cap ≤ R.slots) (k : ∀ T' h' a kA, a = h.size → Stand p l e R s m args below meth c T' locs (cells + 1) (slots + cap) → T'.heap = h' → Ext h h' → Arr Z h' a (newA kA (.object C) n) (.object C) → Ovr Z kA C → Wp p e below s K N Q T' (mkF m nx Ls (.ref a :: st))) : Wp p e below s K N Q T (mkF m pc Ls (.int n :: st)) := by
  obtain ⟨d, rfl⟩ := hd; obtain ⟨T', h', kA, X', e', E', A', O', st'⟩ := newR X hx hZ hown w1 w2 eT (g := mkF m pc Ls (.int n :: st)) rfl (hb hby d) rfl hn hcap hbig hc hl; exact Wp.go st' (k T' h' _ kA rfl X' e' E' A' O')
theorem w_stI (X : Stand p l e R s m args below meth c T locs cells slots) (hx : p.tables.exec = Jvm.exec) (hby : c.code = bs) (hZ : Z.Warmed39 s.vm) (eT : T.heap = h) {a : Addr} {cl : Cell} (A : Arr Z h a cl .int) {j : Int32} {x : Int32} (hj : ¬ (j < 0 ∨ cl.slots.size ≤ j.toNatClampNeg)) (hd : In bs pc .iastore 1 nx) (k : ∀ T' h', Stand p l e R s m args below meth c T' (locs ++ [⟨a, j.toNatClampNeg⟩]) cells slots → T'.heap = h' → Wr h h' a j.toNatClampNeg (.int x) → Wp p e below s K N Q T' (mkF m nx Ls st)) : Wp p e below s K N Q T (mkF m pc Ls (.int x :: .int j :: .ref a :: st)) := by
  obtain ⟨d, rfl⟩ := hd; obtain ⟨T', h', X', e', W', st'⟩ := stI X hx hZ eT A hj (g := mkF m pc Ls (.int x :: .int j :: .ref a :: st)) rfl rfl (hb hby d); exact Wp.go st' (k T' h' X' e' W')
theorem w_stJ (X : Stand p l e R s m args below meth c T locs cells slots) (hx : p.tables.exec = Jvm.exec) (hby : c.code = bs) (hZ : Z.Warmed39 s.vm) (eT : T.heap = h) {a : Addr} {cl : Cell} (A : Arr Z h a cl .long) {j : Int32} {x : Int64} (hj : ¬ (j < 0 ∨ cl.slots.size ≤ j.toNatClampNeg)) (hd : In bs pc .lastore 1 nx) (k : ∀ T' h', Stand p l e R s m args below meth c T' (locs ++ [⟨a, j.toNatClampNeg⟩]) cells slots → T'.heap = h' → Wr h h' a j.toNatClampNeg (.long x) → Wp p e below s K N Q T' (mkF m nx Ls st)) : Wp p e below s K N Q T (mkF m pc Ls (.long x :: .int j :: .ref a :: st)) := by
  obtain ⟨d, rfl⟩ := hd; obtain ⟨T', h', X', e', W', st'⟩ := stJ X hx hZ eT A hj (g := mkF m pc Ls (.long x :: .int j :: .ref a :: st)) rfl rfl (hb hby d); exact Wp.go st' (k T' h' X' e' W')
theorem w_stC (X : Stand p l e R s m args below meth c T locs cells slots) (hx : p.tables.exec = Jvm.exec) (hby : c.code = bs) (hZ : Z.Warmed39 s.vm) (eT : T.heap = h) {a : Addr} {cl : Cell} (A : Arr Z h a cl .char) {j : Int32} {x : Int32} (hj : ¬ (j < 0 ∨ cl.slots.size ≤ j.toNatClampNeg)) (hd : In bs pc .castore 1 nx) (k : ∀ T' h', Stand p l e R s m args below meth c T' (locs ++ [⟨a, j.toNatClampNeg⟩]) cells slots → T'.heap = h' → Wr h h' a j.toNatClampNeg (.int (nar .char x)) → Wp p e below s K N Q T' (mkF m nx Ls st)) : Wp p e below s K N Q T (mkF m pc Ls (.int x :: .int j :: .ref a :: st)) := by
  obtain ⟨d, rfl⟩ := hd; obtain ⟨T', h', X', e', W', st'⟩ := stC X hx hZ eT A hj (g := mkF m pc Ls (.int x :: .int j :: .ref a :: st)) rfl rfl (hb hby d); exact Wp.go st' (k T' h' X' e' W')
theorem w_stB (X : Stand p l e R s m args below meth c T locs cells slots) (hx : p.tables.exec = Jvm.exec) (hby : c.code = bs) (hZ : Z.Warmed39 s.vm) (eT : T.heap = h) {a : Addr} {cl : Cell} (A : Arr Z h a cl .byte) {j : Int32} {x : Int32} (hj : ¬ (j < 0 ∨ cl.slots.size ≤ j.toNatClampNeg)) (hd : In bs pc .bastore 1 nx) (k : ∀ T' h', Stand p l e R s m args below meth c T' (locs ++ [⟨a, j.toNatClampNeg⟩]) cells slots → T'.heap = h' → Wr h h' a j.toNatClampNeg (.int (nar .byte x)) → Wp p e below s K N Q T' (mkF m nx Ls st)) : Wp p e below s K N Q T (mkF m pc Ls (.int x :: .int j :: .ref a :: st)) := by
  obtain ⟨d, rfl⟩ := hd; obtain ⟨T', h', X', e', W', st'⟩ := stB X hx hZ eT A hj (g := mkF m pc Ls (.int x :: .int j :: .ref a :: st)) rfl rfl (hb hby d); exact Wp.go st' (k T' h' X' e' W')
theorem w_stZ (X : Stand p l e R s m args below meth c T locs cells slots) (hx : p.tables.exec = Jvm.exec) (hby : c.code = bs) (hZ : Z.Warmed39 s.vm) (eT : T.heap = h) {a : Addr} {cl : Cell} (A : Arr Z h a cl .boolean) {j : Int32} {x : Int32} (hj : ¬ (j < 0 ∨ cl.slots.size ≤ j.toNatClampNeg)) (hd : In bs pc .bastore 1 nx) (k : ∀ T' h', Stand p l e R s m args below meth c T' (locs ++ [⟨a, j.toNatClampNeg⟩]) cells slots → T'.heap = h' → Wr h h' a j.toNatClampNeg (.int (nar .boolean x)) → Wp p e below s K N Q T' (mkF m nx Ls st)) : Wp p e below s K N Q T (mkF m pc Ls (.int x :: .int j :: .ref a :: st)) := by
  obtain ⟨d, rfl⟩ := hd; obtain ⟨T', h', X', e', W', st'⟩ := stZ X hx hZ eT A hj (g := mkF m pc Ls (.int x :: .int j :: .ref a :: st)) rfl rfl (hb hby d); exact Wp.go st' (k T' h' X' e' W')
theorem w_stR (X : Stand p l e R s m args below meth c T locs cells slots) (hx : p.tables.exec = Jvm.exec) (hby : c.code = bs) (hZ : Z.Warmed39 s.vm) (eT : T.heap = h) {a : Addr} {cl : Cell} {ty : FieldType} (A : Arr Z h a cl ty) {j : Int32} {v : Value} (hj : ¬ (j < 0 ∨ cl.slots.size ≤ j.toNatClampNeg)) (hty : ty.isReference = true) (F : Sto Z h a v) (hd : In bs pc .aastore 1 nx) (k : ∀ T' h', Stand p l e R s m args below meth c T' (locs ++ [⟨a, j.toNatClampNeg⟩]) cells slots → T'.heap = h' → Wr h h' a j.toNatClampNeg v → Wp p e below s K N Q T' (mkF m nx Ls st)) : Wp p e below s K N Q T (mkF m pc Ls (v :: .int j :: .ref a :: st)) := by
  obtain ⟨d, rfl⟩ := hd; obtain ⟨T', h', X', e', W', st'⟩ := stR X hx hZ eT A hj hty F (g := mkF m pc Ls (v :: .int j :: .ref a :: st)) rfl rfl (hb hby d); exact Wp.go st' (k T' h' X' e' W')
theorem w_iaload (X : Stand p l e R s m args below meth c T locs cells slots) (hx : p.tables.exec = Jvm.exec) (hby : c.code = bs) (hZ : Z.Warmed39 s.vm) (eT : T.heap = h) {a : Addr} {cl : Cell} (A : Arr Z h a cl .int) {j : Int32} {v : Value} (hj : ¬ (j < 0 ∨ cl.slots.size ≤ j.toNatClampNeg)) (hv : cl.slots[j.toNatClampNeg]? = some v) (hd : In bs pc .iaload 1 nx) (k : Wp p e below s K N Q T (mkF m nx Ls (v :: st))) : Wp p e below s K N Q T (mkF m pc Ls (.int j :: .ref a :: st)) := by
  obtain ⟨d, rfl⟩ := hd; exact Wp.go (fun t kk => X.iaload hx (by rw [eT]; exact A.1) (State.isArrayOf_alike hZ.alike A.2.1) A.2.2 hj hv (g := mkF m pc Ls (.int j :: .ref a :: st)) rfl rfl (hb hby d) t kk) k
theorem w_laload (X : Stand p l e R s m args below meth c T locs cells slots) (hx : p.tables.exec = Jvm.exec) (hby : c.code = bs) (hZ : Z.Warmed39 s.vm) (eT : T.heap = h) {a : Addr} {cl : Cell} (A : Arr Z h a cl .long) {j : Int32} {v : Value} (hj : ¬ (j < 0 ∨ cl.slots.size ≤ j.toNatClampNeg)) (hv : cl.slots[j.toNatClampNeg]? = some v) (hd : In bs pc .laload 1 nx) (k : Wp p e below s K N Q T (mkF m nx Ls (v :: st))) : Wp p e below s K N Q T (mkF m pc Ls (.int j :: .ref a :: st)) := by
  obtain ⟨d, rfl⟩ := hd; exact Wp.go (fun t kk => X.laload hx (by rw [eT]; exact A.1) (State.isArrayOf_alike hZ.alike A.2.1) A.2.2 hj hv (g := mkF m pc Ls (.int j :: .ref a :: st)) rfl rfl (hb hby d) t kk) k
theorem w_caload (X : Stand p l e R s m args below meth c T locs cells slots) (hx : p.tables.exec = Jvm.exec) (hby : c.code = bs) (hZ : Z.Warmed39 s.vm) (eT : T.heap = h) {a : Addr} {cl : Cell} (A : Arr Z h a cl .char) {j : Int32} {v : Value} (hj : ¬ (j < 0 ∨ cl.slots.size ≤ j.toNatClampNeg)) (hv : cl.slots[j.toNatClampNeg]? = some v) (hd : In bs pc .caload 1 nx) (k : Wp p e below s K N Q T (mkF m nx Ls (v :: st))) : Wp p e below s K N Q T (mkF m pc Ls (.int j :: .ref a :: st)) := by
  obtain ⟨d, rfl⟩ := hd; exact Wp.go (fun t kk => X.caload hx (by rw [eT]; exact A.1) (State.isArrayOf_alike hZ.alike A.2.1) A.2.2 hj hv (g := mkF m pc Ls (.int j :: .ref a :: st)) rfl rfl (hb hby d) t kk) k
theorem w_baload (X : Stand p l e R s m args below meth c T locs cells slots) (hx : p.tables.exec = Jvm.exec) (hby : c.code = bs) (hZ : Z.Warmed39 s.vm) (eT : T.heap = h) {a : Addr} {cl : Cell} (A : Arr Z h a cl .byte) {j : Int32} {v : Value} (hj : ¬ (j < 0 ∨ cl.slots.size ≤ j.toNatClampNeg)) (hv : cl.slots[j.toNatClampNeg]? = some v) (hd : In bs pc .baload 1 nx) (k : Wp p e below s K N Q T (mkF m nx Ls (v :: st))) : Wp p e below s K N Q T (mkF m pc Ls (.int j :: .ref a :: st)) := by
  obtain ⟨d, rfl⟩ := hd; exact Wp.go (fun t kk => X.baloadBytes hx (by rw [eT]; exact A.1) (State.isArrayOf_alike hZ.alike A.2.1) A.2.2 hj hv (g := mkF m pc Ls (.int j :: .ref a :: st)) rfl rfl (hb hby d) t kk) k
theorem w_aaload (X : Stand p l e R s m args below meth c T locs cells slots) (hx : p.tables.exec = Jvm.exec) (hby : c.code = bs) (hZ : Z.Warmed39 s.vm) (eT : T.heap = h) {a : Addr} {cl : Cell} {ty : FieldType} (A : Arr Z h a cl ty) (hty : ty.isReference = true) {j : Int32} {v : Value} (hj : ¬ (j < 0 ∨ cl.slots.size ≤ j.toNatClampNeg)) (hv : cl.slots[j.toNatClampNeg]? = some v) (hd : In bs pc .aaload 1 nx) (k : Wp p e below s K N Q T (mkF m nx Ls (v :: st))) : Wp p e below s K N Q T (mkF m pc Ls (.int j :: .ref a :: st)) := by
  obtain ⟨d, rfl⟩ := hd; exact Wp.go (fun t kk => X.aaload hx (by rw [eT]; exact A.1) (State.isArrayOf_alike hZ.alike A.2.1) hty A.2.2 hj hv (g := mkF m pc Ls (.int j :: .ref a :: st)) rfl rfl (hb hby d) t kk) k
theorem w_arraylength (X : Stand p l e R s m args below meth c T locs cells slots) (hx : p.tables.exec = Jvm.exec) (hby : c.code = bs) (hZ : Z.Warmed39 s.vm) (eT : T.heap = h) {a : Addr} {cl : Cell} {ty : FieldType} (A : Arr Z h a cl ty) {z : Int32} (hz : cl.slots.size.toInt32 = z) (hd : In bs pc .arraylength 1 nx) (k : Wp p e below s K N Q T (mkF m nx Ls (.int z :: st))) : Wp p e below s K N Q T (mkF m pc Ls (.ref a :: st)) := by
  obtain ⟨d, rfl⟩ := hd; subst hz; exact Wp.go (fun t kk => X.arraylength hx (by rw [eT]; exact A.1) (State.isArrayOf_alike hZ.alike A.2.1) (g := mkF m pc Ls (.ref a :: st)) rfl rfl (hb hby d) t kk) k
theorem w_initO (X : Stand p l e R s m args below meth c T locs cells slots) (hx : p.tables.exec = Jvm.exec) (hby : c.code = bs) (hZ : Z.Warmed39 s.vm) {own : String} (hown : s.vm.findClass own = some m.cls) (hml : Ls.size = c.maxLocals) {idx : Nat} (w1 : (Cond.methodLink own idx Lib.objectInit).before a0 Z = true) (w2 : (Cond.instanceMethod Lib.objectInit).before a0 Z = true) (w3 : (Cond.code Lib.objectInit ⟨#[0xb1]⟩ 1 none).before a0 Z = true) (eT : T.heap = h) {a : Addr} (hd : In bs pc (.invokespecial idx) 3 nx) (hf : 1 ≤ R.frames) {Wd : Nat} (hW : (st.map fun v => v.category).sum = Wd) (hl : Wd + 12 ≤ R.locals) (k : ∀ T', Stand p l e R s m args below meth c T' locs cells slots → T'.heap = h → Wp p e below s K N Q T' (mkF m nx Ls st)) : Wp p e below s K N Q T (mkF m pc Ls (.ref a :: st)) := by
  obtain ⟨d, rfl⟩ := hd; obtain ⟨T', X', e', st'⟩ := initO X hx hZ hown w1 w2 w3 eT (g := mkF m pc Ls (.ref a :: st)) rfl hml rfl (hb hby d) hf (W := Wd) (by show 2 * 0 + _ ≤ _; omega) hl; exact Wp.go st' (k T' X' e')
/-- a body's contract: called on as' at the heap h it returns as Q says, within the room rm -/
def Con (l : Launch) (Z : State) (y : MethodName) (bs : ByteArray) (ml : Nat) (rt : Option FieldType) (rm : Room) (as' : Array Value) (h : Heap) (Q : Option Value → Heap → List Loc → Prop) : Prop :=
  ∀ ws : List Jvm.Cond, MetFree l y (head1 (Jvm.Cond.code y bs ml rt :: ws) rm) (fun a U => a = as' ∧ Z.Warmed39 U.vm ∧ U.heap = h) (fun _ _ _ _ _ => True) (fun _ U o U' => ∃ v L, o = .returned v ∧ Q v U'.heap L ∧ FrameEnd U o U' L rm.cells rm.slots)
theorem w_body {y : MethodName} {ml : Nat} {rt : Option FieldType} {rm : Room} {as' : Array Value} (hy : plainFor y = true) (hf : ∀ m, entryFrame m as' ml = mkF m 0 Ls [])
    (k : ∀ (p : Program) (e : Env) (s : State) (m : MethodId) (below : List Frame) (meth : Method) (c : Code) (T : State), Stand p l e rm s m as' below meth c T [] 0 0 → p.tables.exec = Jvm.exec → c.code = bs → c.maxLocals = ml → s.vm.findClass y.cls = some m.cls → meth.name = y.name → meth.sig.returnType = rt → meth.locks = false → Z.Warmed39 s.vm → T.heap = h → Wp p e below s rm.cells rm.slots Q T (mkF m 0 Ls [])) : Con l Z y bs ml rt rm as' h Q := by
  intro ws
  refine MetFree.of_bodySF hy hisR ?_
  intro p e s m args below meth c s₁ Bd hml0 hP hK
  obtain ⟨rfl, hZ, hh⟩ := hP
  have e0 : s₁.heap = h := by rw [← hh, Bd.state]; rfl
  rw [hf m]
  exact k p e s m below meth c s₁ (Stand.of_body Bd) Bd.exec Bd.bytes hml0 (findClass_of_methodNamed Bd.named) (name_of_methodNamed Bd.named Bd.method).1 Bd.returns (BodyLoose.notSynchronized Bd) hZ e0
/-- what a call leaves -/
def Called (p : Program) (l : Launch) (e : Env) (R : Room) (s : State) (m : MethodId) (args : Array Value) (below : List Frame) (meth : Method) (c : Code) (T : State) (locs : List Loc) (cells slots : Nat) (rm : Room) (Qc : Option Value → Heap → List Loc → Prop) (pc nx : Nat) (Ls : Array Slot) (stk rest : List Value) : Prop :=
  ∃ v T' L, Stand p l e R s m args below meth c T' (locs ++ L) (cells + rm.cells) (slots + rm.slots) ∧ Qc v T'.heap L ∧ Steps p.tables e below (T.setTop (mkF m pc Ls stk)) (T'.setTop (mkF m nx Ls (v.toList ++ rest)))
theorem call_S (X : Stand p l e R s m args below meth c T locs cells slots) (hx : p.tables.exec = Jvm.exec) (hby : c.code = bs) (hZ : Z.Warmed39 s.vm) {own : String} (hown : s.vm.findClass own = some m.cls) {y : MethodName} {ml : Nat} {rt : Option FieldType} {rm : Room} {as' : Array Value} {Qc : Option Value → Heap → List Loc → Prop} {index : Nat} {argsL rest : List Value} {Wd : Nat} {bs' : ByteArray} (w1 : (Cond.methodLink own index y).before a0 Z = true) (w2 : (Cond.static y).before a0 Z = true) (wz : (Cond.initialized y.cls).before a0 Z = true) (wc : (Cond.code y bs' ml rt).before a0 Z = true) (hy : y.cls ≠ "java/lang/invoke/MethodHandle" ∧ y.cls ≠ "java/lang/invoke/VarHandle") (con : Con l Z y bs' ml rt rm as' h Qc) (ha : argsL.toArray = as') (hd : In bs pc (.invokestatic index) 3 nx) (hsz : Ls.size = c.maxLocals) (hlen : ∀ sig, parseMethodDescriptor y.desc = some sig → argsL.length = sig.parameters.length) (hW : (rest.map fun v => v.category).sum = Wd) (hfr : rm.frames + 1 ≤ R.frames) (hlo : Wd + (ml + 11) + rm.locals ≤ R.locals) (hce : cells + rm.cells ≤ R.cells) (hso : slots + rm.slots ≤ R.slots) (eT : T.heap = h) : Called p l e R s m args below meth c T locs cells slots rm Qc pc nx Ls (argsL.reverse ++ rest) rest := by
  obtain ⟨d, rfl⟩ := hd
  obtain ⟨v, vm, ⟨T', L', k', n'⟩, -, X', ⟨L, q, l', y', z'⟩, st'⟩ := Jvm.LawKit.callS X hx (y := y) hown (mvT hZ w1) (mvT hZ w2) (mvT hZ wz) (mvT hZ wc) hy (backOf (W := Wd) (con []) hZ wc wz hfr hlo) (g := mkF m pc Ls (argsL.reverse ++ rest)) rfl hsz (argsL := argsL) (rest := rest) hlen rfl (by show 2 * 0 + _ ≤ _; omega) (hb hby d) (fun _ _ => ⟨ha, eT, hce, hso⟩)
  dsimp only [Pt.U, Pt.locs, Pt.cells, Pt.slots] at X' l' y' z' st' q
  subst l' y' z'
  exact ⟨v, T', L, X', q, st' _ (Steps.refl _)⟩
theorem call_N (X : Stand p l e R s m args below meth c T locs cells slots) (hx : p.tables.exec = Jvm.exec) (hby : c.code = bs) (hZ : Z.Warmed39 s.vm) {own : String} (hown : s.vm.findClass own = some m.cls) {y : MethodName} {ml : Nat} {rm : Room} {as' : Array Value} {Qc : Option Value → Heap → List Loc → Prop} {index : Nat} {argsL rest : List Value} {Wd : Nat} {bs' : ByteArray} {a : Addr} (hn : y.name = "<init>") (w1 : (Cond.methodLink own index y).before a0 Z = true) (w2 : (Cond.instanceMethod y).before a0 Z = true) (wz : (Cond.initialized y.cls).before a0 Z = true) (wc : (Cond.code y bs' ml none).before a0 Z = true) (hy : y.cls ≠ "java/lang/invoke/MethodHandle" ∧ y.cls ≠ "java/lang/invoke/VarHandle") (con : Con l Z y bs' ml none rm as' h Qc) (ha : (.ref a :: argsL).toArray = as') (hd : In bs pc (.invokespecial index) 3 nx) (hsz : Ls.size = c.maxLocals) (hlen : ∀ sig, parseMethodDescriptor y.desc = some sig → argsL.length = sig.parameters.length) (hW : (rest.map fun v => v.category).sum = Wd) (hfr : rm.frames + 1 ≤ R.frames) (hlo : Wd + (ml + 11) + rm.locals ≤ R.locals) (hce : cells + rm.cells ≤ R.cells) (hso : slots + rm.slots ≤ R.slots) (eT : T.heap = h) : Called p l e R s m args below meth c T locs cells slots rm Qc pc nx Ls (argsL.reverse ++ .ref a :: rest) rest := by
  obtain ⟨d, rfl⟩ := hd
  obtain ⟨v, vm, ⟨T', L', k', n'⟩, -, X', ⟨L, q, l', y', z'⟩, st'⟩ := X.specialBack hx (y := y) hn hown (mvT hZ w1) (mvT hZ w2) (mvT hZ wc) hy (backOf (W := Wd) (con []) hZ wc wz hfr hlo) (g := mkF m pc Ls (argsL.reverse ++ .ref a :: rest)) rfl hsz (Steps.refl _) (a := a) (argsL := argsL) (rest := rest) hlen rfl (by show 2 * 0 + _ ≤ _; omega) (hb hby d) (fun _ _ => ⟨ha, eT, hce, hso⟩)
  dsimp only [Pt.U, Pt.locs, Pt.cells, Pt.slots] at X' l' y' z' st' q
  subst l' y' z'
  exact ⟨v, T', L, X', q, st'⟩
theorem call_V (X : Stand p l e R s m args below meth c T locs cells slots) (hx : p.tables.exec = Jvm.exec) (hby : c.code = bs) (hZ : Z.Warmed39 s.vm) {own : String} (hown : s.vm.findClass own = some m.cls) {y : MethodName} {ml : Nat} {rt : Option FieldType} {rm : Room} {as' : Array Value} {Qc : Option Value → Heap → List Loc → Prop} {index : Nat} {argsL rest : List Value} {Wd : Nat} {bs' : ByteArray} {a : Addr} {C : String} (w1 : (Cond.methodLink own index y).before a0 Z = true) (w2 : (Cond.declares y).before a0 Z = true) (w3 : (Cond.selects C y y).before a0 Z = true) (w4 : (Cond.instanceMethod y).before a0 Z = true) (wz : (Cond.initialized y.cls).before a0 Z = true) (wc : (Cond.code y bs' ml rt).before a0 Z = true) (hy : y.cls ≠ "java/lang/invoke/MethodHandle" ∧ y.cls ≠ "java/lang/invoke/VarHandle") (E : Exa Z h a C) (con : Con l Z y bs' ml rt rm as' h Qc) (ha : (.ref a :: argsL).toArray = as') (hd : In bs pc (.invokevirtual index) 3 nx) (hsz : Ls.size = c.maxLocals) (hlen : ∀ sig, parseMethodDescriptor y.desc = some sig → argsL.length = sig.parameters.length) (hW : (rest.map fun v => v.category).sum = Wd) (hfr : rm.frames + 1 ≤ R.frames) (hlo : Wd + (ml + 11) + rm.locals ≤ R.locals) (hce : cells + rm.cells ≤ R.cells) (hso : slots + rm.slots ≤ R.slots) (eT : T.heap = h) : Called p l e R s m args below meth c T locs cells slots rm Qc pc nx Ls (argsL.reverse ++ .ref a :: rest) rest := by
  obtain ⟨d, rfl⟩ := hd
  obtain ⟨cq, kq, qa, qb, qc⟩ := isOf hZ eT E
  obtain ⟨v, vm, ⟨T', L', k', n'⟩, -, X', ⟨L, q, l', y', z'⟩, st'⟩ := X.virtualBack hx (y := y) (z := y) hown (mvT hZ w1) (mvT hZ w2) (notFace_of_selects (args := #[]) (mvT hZ w3)) (mvT hZ w3) (mvT hZ w4) hy (backOf (W := Wd) (con []) hZ wc wz hfr hlo) qa qc (g := mkF m pc Ls (argsL.reverse ++ .ref a :: rest)) rfl hsz (Steps.refl _) (argsL := argsL) (rest := rest) hlen rfl (by show 2 * 0 + _ ≤ _; omega) (hb hby d) (fun _ _ => ⟨ha, eT, hce, hso⟩)
  dsimp only [Pt.U, Pt.locs, Pt.cells, Pt.slots] at X' l' y' z' st' q
  subst l' y' z'
  exact ⟨v, T', L, X', q, st'⟩
theorem call_U (X : Stand p l e R s m args below meth c T locs cells slots) (hx : p.tables.exec = Jvm.exec) (hby : c.code = bs) (hZ : Z.Warmed39 s.vm) {own : String} (hown : s.vm.findClass own = some m.cls) {y : MethodName} {ml : Nat} {rt : Option FieldType} {rm : Room} {as' : Array Value} {Qc : Option Value → Heap → List Loc → Prop} {index : Nat} {argsL rest : List Value} {Wd : Nat} {bs' : ByteArray} {x : MethodName} {a : Addr} {C owner : String} (w1 : (Cond.methodLink own index x).before a0 Z = true) (w2 : (Cond.sameMethod x.cls owner x.name x.desc).before a0 Z = true) (w5 : (Cond.declares ⟨owner, x.name, x.desc⟩).before a0 Z = true) (ho : owner ≠ "java/lang/invoke/MethodHandle" ∧ owner ≠ "java/lang/invoke/VarHandle") (w3 : (Cond.selects C x y).before a0 Z = true) (w4 : (Cond.instanceMethod y).before a0 Z = true) (wz : (Cond.initialized y.cls).before a0 Z = true) (wc : (Cond.code y bs' ml rt).before a0 Z = true) (E : Exa Z h a C) (con : Con l Z y bs' ml rt rm as' h Qc) (ha : (.ref a :: argsL).toArray = as') (hd : In bs pc (.invokevirtual index) 3 nx) (hsz : Ls.size = c.maxLocals) (hlen : ∀ sig, parseMethodDescriptor x.desc = some sig → argsL.length = sig.parameters.length) (hW : (rest.map fun v => v.category).sum = Wd) (hfr : rm.frames + 1 ≤ R.frames) (hlo : Wd + (ml + 11) + rm.locals ≤ R.locals) (hce : cells + rm.cells ≤ R.cells) (hso : slots + rm.slots ≤ R.slots) (eT : T.heap = h) : Called p l e R s m args below meth c T locs cells slots rm Qc pc nx Ls (argsL.reverse ++ .ref a :: rest) rest := by
  obtain ⟨d, rfl⟩ := hd
  obtain ⟨cq, kq, qa, qb, qc⟩ := isOf hZ eT E
  obtain ⟨v, vm, ⟨T', L', k', n'⟩, -, X', ⟨L, q, l', y', z'⟩, st'⟩ := X.virtualBackUp hx (x := x) (y := y) hown (mvT hZ w1) (mvT hZ w2) (mvT hZ w5) ho (mvT hZ w3) (mvT hZ w4) (backOf (W := Wd) (con []) hZ wc wz hfr hlo) qa qc (g := mkF m pc Ls (argsL.reverse ++ .ref a :: rest)) rfl hsz (Steps.refl _) (argsL := argsL) (rest := rest) hlen rfl (by show 2 * 0 + _ ≤ _; omega) (hb hby d) (fun _ _ => ⟨ha, eT, hce, hso⟩)
  dsimp only [Pt.U, Pt.locs, Pt.cells, Pt.slots] at X' l' y' z' st' q
  subst l' y' z'
  exact ⟨v, T', L, X', q, st'⟩
theorem call_P (X : Stand p l e R s m args below meth c T locs cells slots) (hx : p.tables.exec = Jvm.exec) (hby : c.code = bs) (hZ : Z.Warmed39 s.vm) {own : String} (hown : s.vm.findClass own = some m.cls) {y : MethodName} {ml : Nat} {rt : Option FieldType} {rm : Room} {as' : Array Value} {Qc : Option Value → Heap → List Loc → Prop} {index : Nat} {argsL rest : List Value} {Wd : Nat} {bs' : ByteArray} {a : Addr} {C : String} {kI : Nat} (w1 : (Cond.methodLink own index y).before a0 Z = true) (w2 : (Cond.instanceMethod y).before a0 Z = true) (wp : (Cond.privateMethod y).before a0 Z = true) (wi : (Cond.instantiable y.cls kI).before a0 Z = true) (wz : (Cond.initialized y.cls).before a0 Z = true) (wc : (Cond.code y bs' ml rt).before a0 Z = true) (hy : y.cls ≠ "java/lang/invoke/MethodHandle" ∧ y.cls ≠ "java/lang/invoke/VarHandle") (E : Exa Z h a C) (con : Con l Z y bs' ml rt rm as' h Qc) (ha : (.ref a :: argsL).toArray = as') (hd : In bs pc (.invokevirtual index) 3 nx) (hsz : Ls.size = c.maxLocals) (hlen : ∀ sig, parseMethodDescriptor y.desc = some sig → argsL.length = sig.parameters.length) (hW : (rest.map fun v => v.category).sum = Wd) (hfr : rm.frames + 1 ≤ R.frames) (hlo : Wd + (ml + 11) + rm.locals ≤ R.locals) (hce : cells + rm.cells ≤ R.cells) (hso : slots + rm.slots ≤ R.slots) (eT : T.heap = h) : Called p l e R s m args below meth c T locs cells slots rm Qc pc nx Ls (argsL.reverse ++ .ref a :: rest) rest := by
  obtain ⟨d, rfl⟩ := hd
  obtain ⟨cq, qa, qb⟩ := E.cell
  have hpv := Cond.privateMethod_at (mvP hZ wp (args := args))
  have hin : (Cond.instanceMethod y).before args s = true := mvT hZ w2
  obtain ⟨ci, ki, hi1, hi2, -, hi4, -, -⟩ := Cond.instantiable_spec (show (Cond.instantiable y.cls kI).before args s = true from mvT hZ wi)
  have hsel : (Cond.selects y.cls y y).before args s = true := Jvm.Stand.selects_self_of_private hi1 hi2 (by rw [Bool.or_eq_false_iff] at hi4; exact hi4.1) hpv hin hy
  obtain ⟨v, vm, ⟨T', L', k', n'⟩, -, X', ⟨L, q, l', y', z'⟩, st'⟩ := X.privateBack hx (y := y) hown (mvT hZ w1) hin hsel hpv (mvT hZ wc) hy (backOf (W := Wd) (con []) hZ wc wz hfr hlo) (g := mkF m pc Ls (argsL.reverse ++ .ref a :: rest)) rfl hsz (Steps.refl _) (a := a) (by rw [eT]; exact qa) qb (argsL := argsL) (rest := rest) hlen rfl (by show 2 * 0 + _ ≤ _; omega) (hb hby d) (fun _ _ => ⟨ha, eT, hce, hso⟩)
  dsimp only [Pt.U, Pt.locs, Pt.cells, Pt.slots] at X' l' y' z' st' q
  subst l' y' z'
  exact ⟨v, T', L, X', q, st'⟩
theorem call_NK (X : Stand p l e R s m args below meth c T locs cells slots) (hx : p.tables.exec = Jvm.exec) (hby : c.code = bs) (hZ : Z.Warmed39 s.vm) {own : String} (hown : s.vm.findClass own = some m.cls) {y : MethodName} {ml ck cs : Nat} {bs' : ByteArray} {as' : Array Value} {Qc : Option Value → Heap → List Loc → Prop} {index : Nat} {argsL rest : List Value} {Wd : Nat} {a : Addr} (hn : y.name = "<init>") (w1 : (Cond.methodLink own index y).before a0 Z = true) (w2 : (Cond.instanceMethod y).before a0 Z = true) (wc : (Cond.code y bs' ml none).before a0 Z = true) (hy : y.cls ≠ "java/lang/invoke/MethodHandle" ∧ y.cls ≠ "java/lang/invoke/VarHandle") (hK : Back l R p e below s args y 3 Wd (fun P a => a = as' ∧ P.U.heap = h ∧ P.cells + ck ≤ R.cells ∧ P.slots + cs ≤ R.slots) (fun P _ v B => ∃ L, Qc v B.U.heap L ∧ B.locs = P.locs ++ L ∧ B.cells = P.cells + ck ∧ B.slots = P.slots + cs)) (ha : (.ref a :: argsL).toArray = as') (hd : In bs pc (.invokespecial index) 3 nx) (hsz : Ls.size = c.maxLocals) (hlen : ∀ sig, parseMethodDescriptor y.desc = some sig → argsL.length = sig.parameters.length) (hW : (rest.map fun v => v.category).sum = Wd) (hce : cells + ck ≤ R.cells) (hso : slots + cs ≤ R.slots) (eT : T.heap = h) : Called p l e R s m args below meth c T locs cells slots ({ frames := 0, cells := ck, slots := cs, locals := 0 } : Room) Qc pc nx Ls (argsL.reverse ++ .ref a :: rest) rest := by
  obtain ⟨d, rfl⟩ := hd
  obtain ⟨v, vm, ⟨T', L', k', n'⟩, -, X', ⟨L, q, l', y', z'⟩, st'⟩ := X.specialBack hx (y := y) hn hown (mvT hZ w1) (mvT hZ w2) (mvT hZ wc) hy hK (g := mkF m pc Ls (argsL.reverse ++ .ref a :: rest)) rfl hsz (Steps.refl _) (a := a) (argsL := argsL) (rest := rest) hlen rfl (by show 2 * 0 + _ ≤ _; omega) (hb hby d) (fun _ _ => ⟨ha, eT, hce, hso⟩)
  dsimp only [Pt.U, Pt.locs, Pt.cells, Pt.slots] at X' l' y' z' st' q
  subst l' y' z'
  exact ⟨v, T', L, X', q, st'⟩
/-- behind a call -/
theorem w_called {rm : Room} {Qc : Option Value → Heap → List Loc → Prop} {stk rest : List Value} (hc : Called p l e R s m args below meth c T locs cells slots rm Qc pc nx Ls stk rest)
    (k : ∀ v T' L, Stand p l e R s m args below meth c T' (locs ++ L) (cells + rm.cells) (slots + rm.slots) → Qc v T'.heap L → Wp p e below s K N Q T' (mkF m nx Ls (v.toList ++ rest))) : Wp p e below s K N Q T (mkF m pc Ls stk) := by
  obtain ⟨v, T', L, X', q, st'⟩ := hc; exact Wp.tr st' (k v T' L X' q)
/-- behind a call that writes nothing and makes nothing -/
theorem w_calledp {rm : Room} {w : Value} {stk rest : List Value} (hc : Called p l e R s m args below meth c T locs cells slots rm (fun v h' L => v = some w ∧ h' = h ∧ L = []) pc nx Ls stk rest) (h1 : rm.cells = 0) (h2 : rm.slots = 0)
    (k : ∀ T', Stand p l e R s m args below meth c T' locs cells slots → T'.heap = h → Wp p e below s K N Q T' (mkF m nx Ls (w :: rest))) : Wp p e below s K N Q T (mkF m pc Ls stk) := by
  obtain ⟨v, T', L, X', ⟨rfl, q, rfl⟩, st'⟩ := hc
  rw [h1, h2, List.append_nil] at X'
  exact Wp.tr st' (k T' X' q)
theorem w_retI (X : Stand p l e R s m args below meth c T locs cells slots) (hx : p.tables.exec = Jvm.exec) (hby : c.code = bs) (eT : T.heap = h) (hlk : meth.locks = false) {z : Int32} (hret : meth.sig.returnType = some .int) (hd : In bs pc .ireturn 1 nx) (hK : cells ≤ K) (hN : slots ≤ N) (q : Q (some (.int z)) h locs) : Wp p e below s K N Q T (mkF m pc Ls (.int z :: st)) := by
  obtain ⟨fs, hr, hrun, hended, hW, hsame⟩ := X.leave (v := some (.int z)) (fun h => by rw [hret] at h; cases h) hlk
  subst eT
  refine ⟨_, _, ?_, hrun, hended, _, _, rfl, q, ⟨_, rfl⟩, hW, hsame.mono hK hN⟩
  exact retOut X hx hret rfl (Or.inl ⟨rfl, Or.inl rfl, z, rfl⟩) (hb hby hd.1) hr
theorem w_retN (X : Stand p l e R s m args below meth c T locs cells slots) (hx : p.tables.exec = Jvm.exec) (hby : c.code = bs) (eT : T.heap = h) (hlk : meth.locks = false) {z : Int32} {t : FieldType} (hret : meth.sig.returnType = some t) (ht : t = .boolean ∨ t = .byte ∨ t = .char ∨ t = .short) (hd : In bs pc .ireturn 1 nx) (hK : cells ≤ K) (hN : slots ≤ N) (q : Q (some (.int (nar t z))) h locs) : Wp p e below s K N Q T (mkF m pc Ls (.int z :: st)) := by
  obtain ⟨fs, hr, hrun, hended, hW, hsame⟩ := X.leave (v := some (.int (nar t z))) (fun h => by rw [hret] at h; cases h) hlk
  subst eT
  refine ⟨_, _, ?_, hrun, hended, _, _, rfl, q, ⟨_, rfl⟩, hW, hsame.mono hK hN⟩
  exact retN X hx hret ht (hb hby hd.1) hr
theorem w_retJ (X : Stand p l e R s m args below meth c T locs cells slots) (hx : p.tables.exec = Jvm.exec) (hby : c.code = bs) (eT : T.heap = h) (hlk : meth.locks = false) {z : Int64} (hret : meth.sig.returnType = some .long) (hd : In bs pc .lreturn 1 nx) (hK : cells ≤ K) (hN : slots ≤ N) (q : Q (some (.long z)) h locs) : Wp p e below s K N Q T (mkF m pc Ls (.long z :: st)) := by
  obtain ⟨fs, hr, hrun, hended, hW, hsame⟩ := X.leave (v := some (.long z)) (fun h => by rw [hret] at h; cases h) hlk
  subst eT
  refine ⟨_, _, ?_, hrun, hended, _, _, rfl, q, ⟨_, rfl⟩, hW, hsame.mono hK hN⟩
  exact retOut X hx hret rfl (Or.inr (Or.inl ⟨rfl, rfl, z, rfl⟩)) (hb hby hd.1) hr
theorem w_retA (X : Stand p l e R s m args below meth c T locs cells slots) (hx : p.tables.exec = Jvm.exec) (hby : c.code = bs) (eT : T.heap = h) (hlk : meth.locks = false) {w : Value} {t : FieldType} (hret : meth.sig.returnType = some t) (ht : t.isReference = true) (hw : w.isRef = true) (hn : narrow t w = w) (hd : In bs pc .areturn 1 nx) (hK : cells ≤ K) (hN : slots ≤ N) (q : Q (some w) h locs) : Wp p e below s K N Q T (mkF m pc Ls (w :: st)) := by
  obtain ⟨fs, hr, hrun, hended, hW, hsame⟩ := X.leave (v := some w) (fun h => by rw [hret] at h; cases h) hlk
  subst eT
  refine ⟨_, _, ?_, hrun, hended, _, _, rfl, q, ⟨_, rfl⟩, hW, hsame.mono hK hN⟩
  exact retOut X hx hret hn (Or.inr (Or.inr (Or.inr (Or.inr ⟨rfl, ht, hw⟩)))) (hb hby hd.1) hr
theorem w_retV (X : Stand p l e R s m args below meth c T locs cells slots) (hx : p.tables.exec = Jvm.exec) (hby : c.code = bs) (eT : T.heap = h) (hlk : meth.locks = false) (hret : meth.sig.returnType = none) (hd : In bs pc .return_ 1 nx) (hK : cells ≤ K) (hN : slots ≤ N) (q : Q none h locs) : Wp p e below s K N Q T (mkF m pc Ls []) := by
  obtain ⟨fs, hr, hrun, hended, hW, hsame⟩ := X.leave (v := none) (fun _ => rfl) hlk
  subst eT
  refine ⟨_, _, ?_, hrun, hended, _, _, rfl, q, ⟨_, rfl⟩, hW, hsame.mono hK hN⟩
  exact X.returnOut hx hret (hb hby hd.1) hr
theorem own_ns {Z : State} {h : Heap} {a : Addr} {K : String} (E : Exa Z h a K) : ∃ c : Cell, h[a]? = some c ∧ c.vm.isStatics = false := by
  obtain ⟨c, _, h1, -, -, h4, -⟩ := E; exact ⟨c, h1, h4⟩
theorem own_nsV {Z : State} {h : Heap} {a : Addr} {k : ClassId} {ty : FieldType} {n : Int32} {vs : List Value} {dv : Value} (E : Arv Z h a k ty n vs dv) : ∃ c : Cell, h[a]? = some c ∧ c.vm.isStatics = false := by
  obtain ⟨c, A, -⟩ := E; exact ⟨c, A.1, A.plain⟩
theorem own_sta_keep {Z : State} {h h' : Heap} {C n d : String} {v : Value} {ws : List Addr} (F : Sta Z h C n d v) (K : Keep h h' ws) (q : ∀ x ∈ ws, ∃ c : Cell, h[x]? = some c ∧ c.vm.isStatics = false) : Sta Z h' C n d v := by
  obtain ⟨cf, i, k, f, st, cell, h1, h2, h3, h4, h5, h6, h7⟩ := F
  refine ⟨cf, i, k, f, st, cell, h1, h2, h3, h4, K.2.1 _ _ h5 (fun hm => ?_), h6, h7⟩
  obtain ⟨c, e1, e2⟩ := q st hm
  cases h5.symm.trans e1
  rw [h6] at e2; cases e2
theorem own_arr_keep {Z : State} {h h' : Heap} {a : Addr} {c : Cell} {ty : FieldType} {ws : List Addr} (F : Arr Z h a c ty) (K : Keep h h' ws) (q : a ∉ ws) : Arr Z h' a c ty := ⟨K.2.1 a c F.1 q, F.2⟩
theorem own_ext_keep {h h' : Heap} (E : Ext h h') : Keep h h' [] := (Keep.refl h []).ext E
theorem own_keep_ext {h h' : Heap} (K : Keep h h' []) : Ext h h' := ⟨K.1, fun a c q => K.2.1 a c q nin0⟩
end OwnKit
theorem t_0 : (Jvm.Cond.constant "com/example/valtab/valtab/sign/SignAddPinLaw" (25 : Nat) (2147483647 : Int32)) ∈ tables_1 := List.mem_of_getElem? (i := 0) rfl
theorem t_2 : (Jvm.Cond.initialized "java/lang/String") ∈ tables_1 := List.mem_of_getElem? (i := 2) rfl
theorem t_9 : (Jvm.Cond.methodLink "com/example/valtab/valtab/sign/SignAddPinLaw" (28 : Nat) ({ cls := "java/lang/String", name := "charAt", desc := "(I)C" } : Jvm.MethodName)) ∈ tables_1 := List.mem_of_getElem? (i := 9) rfl
theorem t_10 : (Jvm.Cond.declares ({ cls := "java/lang/String", name := "charAt", desc := "(I)C" } : Jvm.MethodName)) ∈ tables_1 := List.mem_of_getElem? (i := 10) rfl
theorem t_11 : (Jvm.Cond.instanceMethod ({ cls := "java/lang/String", name := "charAt", desc := "(I)C" } : Jvm.MethodName)) ∈ tables_1 := List.mem_of_getElem? (i := 11) rfl
theorem t_12 : (Jvm.Cond.selects "java/lang/String" ({ cls := "java/lang/String", name := "charAt", desc := "(I)C" } : Jvm.MethodName) ({ cls := "java/lang/String", name := "charAt", desc := "(I)C" } : Jvm.MethodName)) ∈ tables_1 := List.mem_of_getElem? (i := 12) rfl
theorem t_13 : (Jvm.Cond.code ({ cls := "java/lang/String", name := "charAt", desc := "(I)C" } : Jvm.MethodName) jdk_42_method_56_code (2 : Nat) (Option.some Jvm.ClassFile.FieldType.char)) ∈ tables_1 := List.mem_of_getElem? (i := 13) rfl
theorem t_14 : (Jvm.Cond.methodLink "java/lang/String" (492 : Nat) ({ cls := "java/lang/String", name := "isLatin1", desc := "()Z" } : Jvm.MethodName)) ∈ tables_1 := List.mem_of_getElem? (i := 14) rfl
theorem t_15 : (Jvm.Cond.declares ({ cls := "java/lang/String", name := "isLatin1", desc := "()Z" } : Jvm.MethodName)) ∈ tables_1 := List.mem_of_getElem? (i := 15) rfl
theorem t_16 : (Jvm.Cond.instanceMethod ({ cls := "java/lang/String", name := "isLatin1", desc := "()Z" } : Jvm.MethodName)) ∈ tables_1 := List.mem_of_getElem? (i := 16) rfl
theorem t_17 : (Jvm.Cond.selects "java/lang/String" ({ cls := "java/lang/String", name := "isLatin1", desc := "()Z" } : Jvm.MethodName) ({ cls := "java/lang/String", name := "isLatin1", desc := "()Z" } : Jvm.MethodName)) ∈ tables_1 := List.mem_of_getElem? (i := 17) rfl
theorem t_18 : (Jvm.Cond.code ({ cls := "java/lang/String", name := "isLatin1", desc := "()Z" } : Jvm.MethodName) jdk_42_method_154_code (1 : Nat) (Option.some Jvm.ClassFile.FieldType.boolean)) ∈ tables_1 := List.mem_of_getElem? (i := 18) rfl
theorem t_19 : (Jvm.Cond.fieldLink "java/lang/String" (38 : Nat) "java/lang/String" "COMPACT_STRINGS" "Z") ∈ tables_1 := List.mem_of_getElem? (i := 19) rfl
theorem t_20 : (Jvm.Cond.fieldLink "java/lang/String" (15 : Nat) "java/lang/String" "coder" "B") ∈ tables_1 := List.mem_of_getElem? (i := 20) rfl
theorem t_21 : (Jvm.Cond.fieldLink "java/lang/String" (9 : Nat) "java/lang/String" "value" "[B") ∈ tables_1 := List.mem_of_getElem? (i := 21) rfl
theorem t_22 : (Jvm.Cond.methodLink "java/lang/String" (495 : Nat) ({ cls := "java/lang/StringLatin1", name := "charAt", desc := "([BI)C" } : Jvm.MethodName)) ∈ tables_1 := List.mem_of_getElem? (i := 22) rfl
theorem t_23 : (Jvm.Cond.static ({ cls := "java/lang/StringLatin1", name := "charAt", desc := "([BI)C" } : Jvm.MethodName)) ∈ tables_1 := List.mem_of_getElem? (i := 23) rfl
theorem t_24 : (Jvm.Cond.initialized "java/lang/StringLatin1") ∈ tables_1 := List.mem_of_getElem? (i := 24) rfl
theorem t_25 : (Jvm.Cond.code ({ cls := "java/lang/StringLatin1", name := "charAt", desc := "([BI)C" } : Jvm.MethodName) jdk_43_method_2_code (2 : Nat) (Option.some Jvm.ClassFile.FieldType.char)) ∈ tables_1 := List.mem_of_getElem? (i := 25) rfl
theorem t_26 : (Jvm.Cond.methodLink "java/lang/StringLatin1" (9 : Nat) ({ cls := "java/lang/String", name := "checkIndex", desc := "(II)V" } : Jvm.MethodName)) ∈ tables_1 := List.mem_of_getElem? (i := 26) rfl
theorem t_27 : (Jvm.Cond.static ({ cls := "java/lang/String", name := "checkIndex", desc := "(II)V" } : Jvm.MethodName)) ∈ tables_1 := List.mem_of_getElem? (i := 27) rfl
theorem t_28 : (Jvm.Cond.code ({ cls := "java/lang/String", name := "checkIndex", desc := "(II)V" } : Jvm.MethodName) jdk_42_method_155_code (2 : Nat) (Option.none : Option Jvm.ClassFile.FieldType)) ∈ tables_1 := List.mem_of_getElem? (i := 28) rfl
theorem t_29 : (Jvm.Cond.fieldLink "java/lang/String" (1053 : Nat) "jdk/internal/util/Preconditions" "SIOOBE_FORMATTER" "Ljava/util/function/BiFunction;") ∈ tables_1 := List.mem_of_getElem? (i := 29) rfl
theorem t_30 : (Jvm.Cond.initialized "jdk/internal/util/Preconditions") ∈ tables_1 := List.mem_of_getElem? (i := 30) rfl
theorem t_31 : (Jvm.Cond.methodLink "java/lang/String" (1059 : Nat) ({ cls := "jdk/internal/util/Preconditions", name := "checkIndex", desc := "(IILjava/util/function/BiFunction;)I" } : Jvm.MethodName)) ∈ tables_1 := List.mem_of_getElem? (i := 31) rfl
theorem t_32 : (Jvm.Cond.static ({ cls := "jdk/internal/util/Preconditions", name := "checkIndex", desc := "(IILjava/util/function/BiFunction;)I" } : Jvm.MethodName)) ∈ tables_1 := List.mem_of_getElem? (i := 32) rfl
theorem t_33 : (Jvm.Cond.code ({ cls := "jdk/internal/util/Preconditions", name := "checkIndex", desc := "(IILjava/util/function/BiFunction;)I" } : Jvm.MethodName) jdk_41_method_11_code (3 : Nat) (Option.some Jvm.ClassFile.FieldType.int)) ∈ tables_1 := List.mem_of_getElem? (i := 33) rfl
theorem t_34 : (Jvm.Cond.methodLink "com/example/valtab/valtab/sign/SignAddPinLaw" (34 : Nat) ({ cls := "com/example/valtab/valtab/sign/SignAddPinLaw", name := "pick", desc := "(I)Lcom/example/valtab/valtab/sign/Sign;" } : Jvm.MethodName)) ∈ tables_1 := List.mem_of_getElem? (i := 34) rfl
theorem t_35 : (Jvm.Cond.static ({ cls := "com/example/valtab/valtab/sign/SignAddPinLaw", name := "pick", desc := "(I)Lcom/example/valtab/valtab/sign/Sign;" } : Jvm.MethodName)) ∈ tables_1 := List.mem_of_getElem? (i := 35) rfl
theorem t_36 : (Jvm.Cond.initialized "com/example/valtab/valtab/sign/SignAddPinLaw") ∈ tables_1 := List.mem_of_getElem? (i := 36) rfl
theorem t_37 : (Jvm.Cond.code ({ cls := "com/example/valtab/valtab/sign/SignAddPinLaw", name := "pick", desc := "(I)Lcom/example/valtab/valtab/sign/Sign;" } : Jvm.MethodName) method_2_code (1 : Nat) (Option.some (Jvm.ClassFile.FieldType.object "com/example/valtab/valtab/sign/Sign"))) ∈ tables_1 := List.mem_of_getElem? (i := 37) rfl
theorem t_38 : (Jvm.Cond.fieldLink "com/example/valtab/valtab/sign/SignAddPinLaw" (7 : Nat) "com/example/valtab/valtab/sign/Sign" "TOP" "Lcom/example/valtab/valtab/sign/Sign;") ∈ tables_1 := List.mem_of_getElem? (i := 38) rfl
theorem t_39 : (Jvm.Cond.initialized "com/example/valtab/valtab/sign/Sign") ∈ tables_1 := List.mem_of_getElem? (i := 39) rfl
theorem t_40 : (Jvm.Cond.laysStatic "com/example/valtab/valtab/sign/Sign" "TOP" "Lcom/example/valtab/valtab/sign/Sign;") ∈ tables_1 := List.mem_of_getElem? (i := 40) rfl
theorem t_41 : (Jvm.Cond.fieldLink "com/example/valtab/valtab/sign/SignAddPinLaw" (19 : Nat) "com/example/valtab/valtab/sign/Sign" "POSITIVE" "Lcom/example/valtab/valtab/sign/Sign;") ∈ tables_1 := List.mem_of_getElem? (i := 41) rfl
theorem t_42 : (Jvm.Cond.laysStatic "com/example/valtab/valtab/sign/Sign" "POSITIVE" "Lcom/example/valtab/valtab/sign/Sign;") ∈ tables_1 := List.mem_of_getElem? (i := 42) rfl
theorem t_43 : (Jvm.Cond.methodLink "com/example/valtab/valtab/sign/SignAddPinLaw" (40 : Nat) ({ cls := "com/example/valtab/valtab/sign/Sign", name := "add", desc := "(Lcom/example/valtab/valtab/sign/Sign;)Lcom/example/valtab/valtab/sign/Sign;" } : Jvm.MethodName)) ∈ tables_1 := List.mem_of_getElem? (i := 43) rfl
theorem t_44 : (Jvm.Cond.declares ({ cls := "com/example/valtab/valtab/sign/Sign", name := "add", desc := "(Lcom/example/valtab/valtab/sign/Sign;)Lcom/example/valtab/valtab/sign/Sign;" } : Jvm.MethodName)) ∈ tables_1 := List.mem_of_getElem? (i := 44) rfl
theorem t_45 : (Jvm.Cond.instanceMethod ({ cls := "com/example/valtab/valtab/sign/Sign", name := "add", desc := "(Lcom/example/valtab/valtab/sign/Sign;)Lcom/example/valtab/valtab/sign/Sign;" } : Jvm.MethodName)) ∈ tables_1 := List.mem_of_getElem? (i := 45) rfl
theorem t_46 : (Jvm.Cond.selects "com/example/valtab/valtab/sign/Sign" ({ cls := "com/example/valtab/valtab/sign/Sign", name := "add", desc := "(Lcom/example/valtab/valtab/sign/Sign;)Lcom/example/valtab/valtab/sign/Sign;" } : Jvm.MethodName) ({ cls := "com/example/valtab/valtab/sign/Sign", name := "add", desc := "(Lcom/example/valtab/valtab/sign/Sign;)Lcom/example/valtab/valtab/sign/Sign;" } : Jvm.MethodName)) ∈ tables_1 := List.mem_of_getElem? (i := 46) rfl
theorem t_47 : (Jvm.Cond.code ({ cls := "com/example/valtab/valtab/sign/Sign", name := "add", desc := "(Lcom/example/valtab/valtab/sign/Sign;)Lcom/example/valtab/valtab/sign/Sign;" } : Jvm.MethodName) prog_37_method_8_code (3 : Nat) (Option.some (Jvm.ClassFile.FieldType.object "com/example/valtab/valtab/sign/Sign"))) ∈ tables_1 := List.mem_of_getElem? (i := 47) rfl
theorem t_48 : (Jvm.Cond.fieldLink "com/example/valtab/valtab/sign/Sign" (3 : Nat) "com/example/valtab/valtab/sign/Sign" "TOP" "Lcom/example/valtab/valtab/sign/Sign;") ∈ tables_1 := List.mem_of_getElem? (i := 48) rfl
theorem t_49 : (Jvm.Cond.methodLink "com/example/valtab/valtab/sign/SignAddPinLaw" (44 : Nat) ({ cls := "com/example/valtab/valtab/sign/Sign", name := "symbol", desc := "()Ljava/lang/String;" } : Jvm.MethodName)) ∈ tables_1 := List.mem_of_getElem? (i := 49) rfl
theorem t_50 : (Jvm.Cond.declares ({ cls := "com/example/valtab/valtab/sign/Sign", name := "symbol", desc := "()Ljava/lang/String;" } : Jvm.MethodName)) ∈ tables_1 := List.mem_of_getElem? (i := 50) rfl
theorem t_51 : (Jvm.Cond.instanceMethod ({ cls := "com/example/valtab/valtab/sign/Sign", name := "symbol", desc := "()Ljava/lang/String;" } : Jvm.MethodName)) ∈ tables_1 := List.mem_of_getElem? (i := 51) rfl
theorem t_52 : (Jvm.Cond.selects "com/example/valtab/valtab/sign/Sign" ({ cls := "com/example/valtab/valtab/sign/Sign", name := "symbol", desc := "()Ljava/lang/String;" } : Jvm.MethodName) ({ cls := "com/example/valtab/valtab/sign/Sign", name := "symbol", desc := "()Ljava/lang/String;" } : Jvm.MethodName)) ∈ tables_1 := List.mem_of_getElem? (i := 52) rfl
theorem t_53 : (Jvm.Cond.code ({ cls := "com/example/valtab/valtab/sign/Sign", name := "symbol", desc := "()Ljava/lang/String;" } : Jvm.MethodName) prog_37_method_5_code (1 : Nat) (Option.some (Jvm.ClassFile.FieldType.object "java/lang/String"))) ∈ tables_1 := List.mem_of_getElem? (i := 53) rfl
theorem t_54 : (Jvm.Cond.fieldLink "com/example/valtab/valtab/sign/Sign" (38 : Nat) "com/example/valtab/valtab/sign/Sign" "symbol" "Ljava/lang/String;") ∈ tables_1 := List.mem_of_getElem? (i := 54) rfl
theorem t_56 : (Jvm.Cond.methodLink "com/example/valtab/valtab/sign/SignAddPinLaw" (48 : Nat) ({ cls := "java/lang/String", name := "length", desc := "()I" } : Jvm.MethodName)) ∈ tables_1 := List.mem_of_getElem? (i := 56) rfl
theorem t_57 : (Jvm.Cond.declares ({ cls := "java/lang/String", name := "length", desc := "()I" } : Jvm.MethodName)) ∈ tables_1 := List.mem_of_getElem? (i := 57) rfl
theorem t_58 : (Jvm.Cond.instanceMethod ({ cls := "java/lang/String", name := "length", desc := "()I" } : Jvm.MethodName)) ∈ tables_1 := List.mem_of_getElem? (i := 58) rfl
theorem t_59 : (Jvm.Cond.selects "java/lang/String" ({ cls := "java/lang/String", name := "length", desc := "()I" } : Jvm.MethodName) ({ cls := "java/lang/String", name := "length", desc := "()I" } : Jvm.MethodName)) ∈ tables_1 := List.mem_of_getElem? (i := 59) rfl
theorem t_60 : (Jvm.Cond.code ({ cls := "java/lang/String", name := "length", desc := "()I" } : Jvm.MethodName) jdk_42_method_54_code (1 : Nat) (Option.some Jvm.ClassFile.FieldType.int)) ∈ tables_1 := List.mem_of_getElem? (i := 60) rfl
theorem t_61 : (Jvm.Cond.methodLink "java/lang/String" (335 : Nat) ({ cls := "java/lang/String", name := "coder", desc := "()B" } : Jvm.MethodName)) ∈ tables_1 := List.mem_of_getElem? (i := 61) rfl
theorem t_62 : (Jvm.Cond.declares ({ cls := "java/lang/String", name := "coder", desc := "()B" } : Jvm.MethodName)) ∈ tables_1 := List.mem_of_getElem? (i := 62) rfl
theorem t_63 : (Jvm.Cond.instanceMethod ({ cls := "java/lang/String", name := "coder", desc := "()B" } : Jvm.MethodName)) ∈ tables_1 := List.mem_of_getElem? (i := 63) rfl
theorem t_64 : (Jvm.Cond.selects "java/lang/String" ({ cls := "java/lang/String", name := "coder", desc := "()B" } : Jvm.MethodName) ({ cls := "java/lang/String", name := "coder", desc := "()B" } : Jvm.MethodName)) ∈ tables_1 := List.mem_of_getElem? (i := 64) rfl
theorem t_65 : (Jvm.Cond.code ({ cls := "java/lang/String", name := "coder", desc := "()B" } : Jvm.MethodName) jdk_42_method_152_code (1 : Nat) (Option.some Jvm.ClassFile.FieldType.byte)) ∈ tables_1 := List.mem_of_getElem? (i := 65) rfl
theorem t_66 : (Jvm.Cond.fieldLink "com/example/valtab/valtab/sign/SignAddPinLaw" (22 : Nat) "com/example/valtab/valtab/sign/Sign" "BOTTOM" "Lcom/example/valtab/valtab/sign/Sign;") ∈ tables_1 := List.mem_of_getElem? (i := 66) rfl
theorem t_67 : (Jvm.Cond.laysStatic "com/example/valtab/valtab/sign/Sign" "BOTTOM" "Lcom/example/valtab/valtab/sign/Sign;") ∈ tables_1 := List.mem_of_getElem? (i := 67) rfl
theorem t_68 : (Jvm.Cond.fieldLink "com/example/valtab/valtab/sign/SignAddPinLaw" (13 : Nat) "com/example/valtab/valtab/sign/Sign" "NEGATIVE" "Lcom/example/valtab/valtab/sign/Sign;") ∈ tables_1 := List.mem_of_getElem? (i := 68) rfl
theorem t_69 : (Jvm.Cond.laysStatic "com/example/valtab/valtab/sign/Sign" "NEGATIVE" "Lcom/example/valtab/valtab/sign/Sign;") ∈ tables_1 := List.mem_of_getElem? (i := 69) rfl
theorem t_70 : (Jvm.Cond.fieldLink "com/example/valtab/valtab/sign/Sign" (10 : Nat) "com/example/valtab/valtab/sign/Sign" "ZERO" "Lcom/example/valtab/valtab/sign/Sign;") ∈ tables_1 := List.mem_of_getElem? (i := 70) rfl
theorem t_71 : (Jvm.Cond.laysStatic "com/example/valtab/valtab/sign/Sign" "ZERO" "Lcom/example/valtab/valtab/sign/Sign;") ∈ tables_1 := List.mem_of_getElem? (i := 71) rfl
theorem t_72 : (Jvm.Cond.fieldLink "com/example/valtab/valtab/sign/Sign" (16 : Nat) "com/example/valtab/valtab/sign/Sign" "BOTTOM" "Lcom/example/valtab/valtab/sign/Sign;") ∈ tables_1 := List.mem_of_getElem? (i := 72) rfl
theorem t_73 : (Jvm.Cond.fieldLink "com/example/valtab/valtab/sign/SignAddPinLaw" (16 : Nat) "com/example/valtab/valtab/sign/Sign" "ZERO" "Lcom/example/valtab/valtab/sign/Sign;") ∈ tables_1 := List.mem_of_getElem? (i := 73) rfl
theorem n2_0 : In jdk_42_method_154_code 0 (.getstatic 38) 3 3 := ⟨by decide +kernel, rfl⟩
theorem n2_3 : Jm jdk_42_method_154_code 3 (.ifCond .eq 14) 14 6 17 := ⟨by decide +kernel, rfl, by decide, by decide⟩
theorem n2_6 : In jdk_42_method_154_code 6 (.aload_n 0) 1 7 := ⟨by decide +kernel, rfl⟩
theorem n2_7 : In jdk_42_method_154_code 7 (.getfield 15) 3 10 := ⟨by decide +kernel, rfl⟩
theorem n2_10 : Jm jdk_42_method_154_code 10 (.ifCond .ne 7) 7 13 17 := ⟨by decide +kernel, rfl, by decide, by decide⟩
theorem n2_13 : In jdk_42_method_154_code 13 (.iconst 1) 1 14 := ⟨by decide +kernel, rfl⟩
theorem n2_14 : Jm jdk_42_method_154_code 14 (.goto 4) 4 17 18 := ⟨by decide +kernel, rfl, by decide, by decide⟩
theorem n2_18 : In jdk_42_method_154_code 18 (.ireturn) 1 19 := ⟨by decide +kernel, rfl⟩
theorem pn_2 : plainFor (⟨"java/lang/String", "isLatin1", "()Z"⟩ : MethodName) = true := plainFor_of_name (by first | (simp [plainName, overriddenIn]; done) | decide +kernel)
theorem n10_0 : In jdk_42_method_152_code 0 (.getstatic 38) 3 3 := ⟨by decide +kernel, rfl⟩
theorem n10_3 : Jm jdk_42_method_152_code 3 (.ifCond .eq 10) 10 6 13 := ⟨by decide +kernel, rfl, by decide, by decide⟩
theorem n10_6 : In jdk_42_method_152_code 6 (.aload_n 0) 1 7 := ⟨by decide +kernel, rfl⟩
theorem n10_7 : In jdk_42_method_152_code 7 (.getfield 15) 3 10 := ⟨by decide +kernel, rfl⟩
theorem n10_10 : Jm jdk_42_method_152_code 10 (.goto 4) 4 13 14 := ⟨by decide +kernel, rfl, by decide, by decide⟩
theorem n10_14 : In jdk_42_method_152_code 14 (.ireturn) 1 15 := ⟨by decide +kernel, rfl⟩
theorem pn_10 : plainFor (⟨"java/lang/String", "coder", "()B"⟩ : MethodName) = true := plainFor_of_name (by first | (simp [plainName, overriddenIn]; done) | decide +kernel)
theorem n5_0 : In jdk_41_method_11_code 0 (.iload_n 0) 1 1 := ⟨by decide +kernel, rfl⟩
theorem n5_1 : Jm jdk_41_method_11_code 1 (.ifCond .lt 8) 8 4 9 := ⟨by decide +kernel, rfl, by decide, by decide⟩
theorem n5_4 : In jdk_41_method_11_code 4 (.iload_n 0) 1 5 := ⟨by decide +kernel, rfl⟩
theorem n5_5 : In jdk_41_method_11_code 5 (.iload_n 1) 1 6 := ⟨by decide +kernel, rfl⟩
theorem n5_6 : Jm jdk_41_method_11_code 6 (.if_icmp .lt 10) 10 9 16 := ⟨by decide +kernel, rfl, by decide, by decide⟩
theorem n5_16 : In jdk_41_method_11_code 16 (.iload_n 0) 1 17 := ⟨by decide +kernel, rfl⟩
theorem n5_17 : In jdk_41_method_11_code 17 (.ireturn) 1 18 := ⟨by decide +kernel, rfl⟩
theorem pn_5 : plainFor (⟨"jdk/internal/util/Preconditions", "checkIndex", "(IILjava/util/function/BiFunction;)I"⟩ : MethodName) = true := plainFor_of_name (by first | (simp [plainName, overriddenIn]; done) | decide +kernel)
theorem n4_0 : In jdk_42_method_155_code 0 (.iload_n 0) 1 1 := ⟨by decide +kernel, rfl⟩
theorem n4_1 : In jdk_42_method_155_code 1 (.iload_n 1) 1 2 := ⟨by decide +kernel, rfl⟩
theorem n4_2 : In jdk_42_method_155_code 2 (.getstatic 1053) 3 5 := ⟨by decide +kernel, rfl⟩
theorem n4_5 : In jdk_42_method_155_code 5 (.invokestatic 1059) 3 8 := ⟨by decide +kernel, rfl⟩
theorem pd_81843 : parseMethodDescriptor "(IILjava/util/function/BiFunction;)I" = some ⟨[.int, .int, (.object "java/util/function/BiFunction")], some .int⟩ := by decide +kernel
theorem n4_8 : In jdk_42_method_155_code 8 (.pop) 1 9 := ⟨by decide +kernel, rfl⟩
theorem n4_9 : In jdk_42_method_155_code 9 (.return_) 1 10 := ⟨by decide +kernel, rfl⟩
theorem pn_4 : plainFor (⟨"java/lang/String", "checkIndex", "(II)V"⟩ : MethodName) = true := plainFor_of_name (by first | (simp [plainName, overriddenIn]; done) | decide +kernel)
theorem n3_0 : In jdk_43_method_2_code 0 (.iload_n 1) 1 1 := ⟨by decide +kernel, rfl⟩
theorem n3_1 : In jdk_43_method_2_code 1 (.aload_n 0) 1 2 := ⟨by decide +kernel, rfl⟩
theorem n3_2 : In jdk_43_method_2_code 2 (.arraylength) 1 3 := ⟨by decide +kernel, rfl⟩
theorem n3_3 : In jdk_43_method_2_code 3 (.invokestatic 9) 3 6 := ⟨by decide +kernel, rfl⟩
theorem pd_2877 : parseMethodDescriptor "(II)V" = some ⟨[.int, .int], none⟩ := by decide +kernel
theorem n3_6 : In jdk_43_method_2_code 6 (.aload_n 0) 1 7 := ⟨by decide +kernel, rfl⟩
theorem n3_7 : In jdk_43_method_2_code 7 (.iload_n 1) 1 8 := ⟨by decide +kernel, rfl⟩
theorem n3_8 : In jdk_43_method_2_code 8 (.baload) 1 9 := ⟨by decide +kernel, rfl⟩
theorem n3_9 : In jdk_43_method_2_code 9 (.sipush 255) 3 12 := ⟨by decide +kernel, rfl⟩
theorem n3_12 : In jdk_43_method_2_code 12 (.iand) 1 13 := ⟨by decide +kernel, rfl⟩
theorem n3_13 : In jdk_43_method_2_code 13 (.i2c) 1 14 := ⟨by decide +kernel, rfl⟩
theorem n3_14 : In jdk_43_method_2_code 14 (.ireturn) 1 15 := ⟨by decide +kernel, rfl⟩
theorem pn_3 : plainFor (⟨"java/lang/StringLatin1", "charAt", "([BI)C"⟩ : MethodName) = true := plainFor_of_name (by first | (simp [plainName, overriddenIn]; done) | decide +kernel)
theorem n1_0 : In jdk_42_method_56_code 0 (.aload_n 0) 1 1 := ⟨by decide +kernel, rfl⟩
theorem n1_1 : In jdk_42_method_56_code 1 (.invokevirtual 492) 3 4 := ⟨by decide +kernel, rfl⟩
theorem pd_1418 : parseMethodDescriptor "()Z" = some ⟨[], some .boolean⟩ := by decide +kernel
theorem n1_4 : Jm jdk_42_method_56_code 4 (.ifCond .eq 12) 12 7 16 := ⟨by decide +kernel, rfl, by decide, by decide⟩
theorem n1_7 : In jdk_42_method_56_code 7 (.aload_n 0) 1 8 := ⟨by decide +kernel, rfl⟩
theorem n1_8 : In jdk_42_method_56_code 8 (.getfield 9) 3 11 := ⟨by decide +kernel, rfl⟩
theorem n1_11 : In jdk_42_method_56_code 11 (.iload_n 1) 1 12 := ⟨by decide +kernel, rfl⟩
theorem n1_12 : In jdk_42_method_56_code 12 (.invokestatic 495) 3 15 := ⟨by decide +kernel, rfl⟩
theorem pd_3587 : parseMethodDescriptor "([BI)C" = some ⟨[(.array .byte), .int], some .char⟩ := by decide +kernel
theorem n1_15 : In jdk_42_method_56_code 15 (.ireturn) 1 16 := ⟨by decide +kernel, rfl⟩
theorem pn_1 : plainFor (⟨"java/lang/String", "charAt", "(I)C"⟩ : MethodName) = true := plainFor_of_name (by first | (simp [plainName, overriddenIn]; done) | decide +kernel)
theorem n9_0 : In jdk_42_method_54_code 0 (.aload_n 0) 1 1 := ⟨by decide +kernel, rfl⟩
theorem n9_1 : In jdk_42_method_54_code 1 (.getfield 9) 3 4 := ⟨by decide +kernel, rfl⟩
theorem n9_4 : In jdk_42_method_54_code 4 (.arraylength) 1 5 := ⟨by decide +kernel, rfl⟩
theorem n9_5 : In jdk_42_method_54_code 5 (.aload_n 0) 1 6 := ⟨by decide +kernel, rfl⟩
theorem n9_6 : In jdk_42_method_54_code 6 (.invokevirtual 335) 3 9 := ⟨by decide +kernel, rfl⟩
theorem pd_1202 : parseMethodDescriptor "()B" = some ⟨[], some .byte⟩ := by decide +kernel
theorem n9_9 : In jdk_42_method_54_code 9 (.ishr) 1 10 := ⟨by decide +kernel, rfl⟩
theorem n9_10 : In jdk_42_method_54_code 10 (.ireturn) 1 11 := ⟨by decide +kernel, rfl⟩
theorem pn_9 : plainFor (⟨"java/lang/String", "length", "()I"⟩ : MethodName) = true := plainFor_of_name (by first | (simp [plainName, overriddenIn]; done) | decide +kernel)
theorem n6_0 : In method_2_code 0 (.iload_n 0) 1 1 := ⟨by decide +kernel, rfl⟩
theorem n6_1 : Jm method_2_code 1 (.ifCond .ne 7) 7 4 8 := ⟨by decide +kernel, rfl, by decide, by decide⟩
theorem n6_8 : In method_2_code 8 (.iload_n 0) 1 9 := ⟨by decide +kernel, rfl⟩
theorem n6_9 : In method_2_code 9 (.iconst 1) 1 10 := ⟨by decide +kernel, rfl⟩
theorem n6_10 : Jm method_2_code 10 (.if_icmp .ne 7) 7 13 17 := ⟨by decide +kernel, rfl, by decide, by decide⟩
theorem n6_17 : In method_2_code 17 (.iload_n 0) 1 18 := ⟨by decide +kernel, rfl⟩
theorem n6_18 : In method_2_code 18 (.iconst 2) 1 19 := ⟨by decide +kernel, rfl⟩
theorem n6_19 : Jm method_2_code 19 (.if_icmp .ne 7) 7 22 26 := ⟨by decide +kernel, rfl, by decide, by decide⟩
theorem n6_26 : In method_2_code 26 (.iload_n 0) 1 27 := ⟨by decide +kernel, rfl⟩
theorem n6_27 : In method_2_code 27 (.iconst 3) 1 28 := ⟨by decide +kernel, rfl⟩
theorem n6_28 : Jm method_2_code 28 (.if_icmp .ne 7) 7 31 35 := ⟨by decide +kernel, rfl, by decide, by decide⟩
theorem n6_35 : In method_2_code 35 (.getstatic 22) 3 38 := ⟨by decide +kernel, rfl⟩
theorem n6_38 : In method_2_code 38 (.areturn) 1 39 := ⟨by decide +kernel, rfl⟩
theorem n6_31 : In method_2_code 31 (.getstatic 19) 3 34 := ⟨by decide +kernel, rfl⟩
theorem n6_34 : In method_2_code 34 (.areturn) 1 35 := ⟨by decide +kernel, rfl⟩
theorem n6_22 : In method_2_code 22 (.getstatic 16) 3 25 := ⟨by decide +kernel, rfl⟩
theorem n6_25 : In method_2_code 25 (.areturn) 1 26 := ⟨by decide +kernel, rfl⟩
theorem n6_13 : In method_2_code 13 (.getstatic 13) 3 16 := ⟨by decide +kernel, rfl⟩
theorem n6_16 : In method_2_code 16 (.areturn) 1 17 := ⟨by decide +kernel, rfl⟩
theorem n6_4 : In method_2_code 4 (.getstatic 7) 3 7 := ⟨by decide +kernel, rfl⟩
theorem n6_7 : In method_2_code 7 (.areturn) 1 8 := ⟨by decide +kernel, rfl⟩
theorem pn_6 : plainFor (⟨"com/example/valtab/valtab/sign/SignAddPinLaw", "pick", "(I)Lcom/example/valtab/valtab/sign/Sign;"⟩ : MethodName) = true := plainFor_of_name (by first | (simp [plainName, overriddenIn]; done) | decide +kernel)
theorem n7_0 : In prog_37_method_8_code 0 (.aload_n 0) 1 1 := ⟨by decide +kernel, rfl⟩
theorem n7_1 : In prog_37_method_8_code 1 (.getstatic 3) 3 4 := ⟨by decide +kernel, rfl⟩
theorem n7_4 : Jm prog_37_method_8_code 4 (.if_acmp .eq 10) 10 7 14 := ⟨by decide +kernel, rfl, by decide, by decide⟩
theorem n7_14 : In prog_37_method_8_code 14 (.getstatic 3) 3 17 := ⟨by decide +kernel, rfl⟩
theorem n7_17 : In prog_37_method_8_code 17 (.astore_n 2) 1 18 := ⟨by decide +kernel, rfl⟩
theorem n7_18 : Jm prog_37_method_8_code 18 (.goto 41) 41 21 59 := ⟨by decide +kernel, rfl, by decide, by decide⟩
theorem n7_59 : In prog_37_method_8_code 59 (.aload_n 2) 1 60 := ⟨by decide +kernel, rfl⟩
theorem n7_60 : In prog_37_method_8_code 60 (.areturn) 1 61 := ⟨by decide +kernel, rfl⟩
theorem n7_7 : In prog_37_method_8_code 7 (.aload_n 1) 1 8 := ⟨by decide +kernel, rfl⟩
theorem n7_8 : In prog_37_method_8_code 8 (.getstatic 3) 3 11 := ⟨by decide +kernel, rfl⟩
theorem n7_11 : Jm prog_37_method_8_code 11 (.if_acmp .ne 10) 10 14 21 := ⟨by decide +kernel, rfl, by decide, by decide⟩
theorem n7_21 : In prog_37_method_8_code 21 (.aload_n 1) 1 22 := ⟨by decide +kernel, rfl⟩
theorem n7_22 : In prog_37_method_8_code 22 (.getstatic 10) 3 25 := ⟨by decide +kernel, rfl⟩
theorem n7_25 : Jm prog_37_method_8_code 25 (.if_acmp .ne 8) 8 28 33 := ⟨by decide +kernel, rfl, by decide, by decide⟩
theorem n7_33 : In prog_37_method_8_code 33 (.aload_n 0) 1 34 := ⟨by decide +kernel, rfl⟩
theorem n7_34 : In prog_37_method_8_code 34 (.getstatic 10) 3 37 := ⟨by decide +kernel, rfl⟩
theorem n7_37 : Jm prog_37_method_8_code 37 (.if_acmp .ne 8) 8 40 45 := ⟨by decide +kernel, rfl, by decide, by decide⟩
theorem n7_45 : In prog_37_method_8_code 45 (.aload_n 0) 1 46 := ⟨by decide +kernel, rfl⟩
theorem n7_46 : In prog_37_method_8_code 46 (.aload_n 1) 1 47 := ⟨by decide +kernel, rfl⟩
theorem n7_47 : Jm prog_37_method_8_code 47 (.if_acmp .ne 8) 8 50 55 := ⟨by decide +kernel, rfl, by decide, by decide⟩
theorem n7_55 : In prog_37_method_8_code 55 (.getstatic 16) 3 58 := ⟨by decide +kernel, rfl⟩
theorem n7_58 : In prog_37_method_8_code 58 (.astore_n 2) 1 59 := ⟨by decide +kernel, rfl⟩
theorem n7_50 : In prog_37_method_8_code 50 (.aload_n 0) 1 51 := ⟨by decide +kernel, rfl⟩
theorem n7_51 : In prog_37_method_8_code 51 (.astore_n 2) 1 52 := ⟨by decide +kernel, rfl⟩
theorem n7_52 : Jm prog_37_method_8_code 52 (.goto 7) 7 55 59 := ⟨by decide +kernel, rfl, by decide, by decide⟩
theorem n7_40 : In prog_37_method_8_code 40 (.aload_n 1) 1 41 := ⟨by decide +kernel, rfl⟩
theorem n7_41 : In prog_37_method_8_code 41 (.astore_n 2) 1 42 := ⟨by decide +kernel, rfl⟩
theorem n7_42 : Jm prog_37_method_8_code 42 (.goto 17) 17 45 59 := ⟨by decide +kernel, rfl, by decide, by decide⟩
theorem n7_28 : In prog_37_method_8_code 28 (.aload_n 0) 1 29 := ⟨by decide +kernel, rfl⟩
theorem n7_29 : In prog_37_method_8_code 29 (.astore_n 2) 1 30 := ⟨by decide +kernel, rfl⟩
theorem n7_30 : Jm prog_37_method_8_code 30 (.goto 29) 29 33 59 := ⟨by decide +kernel, rfl, by decide, by decide⟩
theorem pn_7 : plainFor (⟨"com/example/valtab/valtab/sign/Sign", "add", "(Lcom/example/valtab/valtab/sign/Sign;)Lcom/example/valtab/valtab/sign/Sign;"⟩ : MethodName) = true := plainFor_of_name (by first | (simp [plainName, overriddenIn]; done) | decide +kernel)
theorem n8_0 : In prog_37_method_5_code 0 (.aload_n 0) 1 1 := ⟨by decide +kernel, rfl⟩
theorem n8_1 : In prog_37_method_5_code 1 (.getfield 38) 3 4 := ⟨by decide +kernel, rfl⟩
theorem n8_4 : In prog_37_method_5_code 4 (.areturn) 1 5 := ⟨by decide +kernel, rfl⟩
theorem pn_8 : plainFor (⟨"com/example/valtab/valtab/sign/Sign", "symbol", "()Ljava/lang/String;"⟩ : MethodName) = true := plainFor_of_name (by first | (simp [plainName, overriddenIn]; done) | decide +kernel)
theorem n0_16 : In code 16 (.astore 4) 2 18 := ⟨at_16, rfl⟩
theorem n0_18 : In code 18 (.aload 4) 2 20 := ⟨at_18, rfl⟩
theorem n0_20 : In code 20 (.iload_n 2) 1 21 := ⟨at_20, rfl⟩
theorem n0_21 : In code 21 (.iconst 5) 1 22 := ⟨at_21, rfl⟩
theorem n0_22 : In code 22 (.imul) 1 23 := ⟨at_22, rfl⟩
theorem n0_23 : In code 23 (.iload_n 3) 1 24 := ⟨at_23, rfl⟩
theorem n0_24 : In code 24 (.iadd) 1 25 := ⟨at_24, rfl⟩
theorem n0_25 : In code 25 (.invokevirtual 28) 3 28 := ⟨at_25, rfl⟩
theorem pd_1903 : parseMethodDescriptor "(I)C" = some ⟨[.int], some .char⟩ := by decide +kernel
theorem n0_28 : In code 28 (.istore 5) 2 30 := ⟨at_28, rfl⟩
theorem n0_30 : In code 30 (.iload_n 2) 1 31 := ⟨at_30, rfl⟩
theorem n0_31 : In code 31 (.invokestatic 34) 3 34 := ⟨at_31, rfl⟩
theorem pd_99499 : parseMethodDescriptor "(I)Lcom/example/valtab/valtab/sign/Sign;" = some ⟨[.int], some (.object "com/example/valtab/valtab/sign/Sign")⟩ := by decide +kernel
theorem n0_34 : In code 34 (.astore 6) 2 36 := ⟨at_34, rfl⟩
theorem n0_36 : In code 36 (.iload_n 3) 1 37 := ⟨at_36, rfl⟩
theorem n0_37 : In code 37 (.invokestatic 34) 3 40 := ⟨at_37, rfl⟩
theorem n0_40 : In code 40 (.astore 7) 2 42 := ⟨at_40, rfl⟩
theorem n0_42 : In code 42 (.aload 6) 2 44 := ⟨at_42, rfl⟩
theorem n0_44 : In code 44 (.aload 7) 2 46 := ⟨at_44, rfl⟩
theorem n0_46 : In code 46 (.invokevirtual 40) 3 49 := ⟨at_46, rfl⟩
theorem pd_318983 : parseMethodDescriptor "(Lcom/example/valtab/valtab/sign/Sign;)Lcom/example/valtab/valtab/sign/Sign;" = some ⟨[(.object "com/example/valtab/valtab/sign/Sign")], some (.object "com/example/valtab/valtab/sign/Sign")⟩ := by decide +kernel
theorem n0_49 : In code 49 (.astore 8) 2 51 := ⟨at_49, rfl⟩
theorem n0_51 : In code 51 (.aload 8) 2 53 := ⟨at_51, rfl⟩
theorem n0_53 : Jm code 53 (.ifnonnull 5) 5 56 58 := ⟨at_53, rfl, by decide, by decide⟩
theorem n0_58 : In code 58 (.aload 8) 2 60 := ⟨at_58, rfl⟩
theorem n0_60 : In code 60 (.invokevirtual 44) 3 63 := ⟨at_60, rfl⟩
theorem pd_30311 : parseMethodDescriptor "()Ljava/lang/String;" = some ⟨[], some (.object "java/lang/String")⟩ := by decide +kernel
theorem n0_63 : In code 63 (.astore 9) 2 65 := ⟨at_63, rfl⟩
theorem n0_65 : In code 65 (.aload 9) 2 67 := ⟨at_65, rfl⟩
theorem n0_67 : In code 67 (.invokevirtual 48) 3 70 := ⟨at_67, rfl⟩
theorem pd_1265 : parseMethodDescriptor "()I" = some ⟨[], some .int⟩ := by decide +kernel
theorem n0_70 : In code 70 (.iconst 1) 1 71 := ⟨at_70, rfl⟩
theorem n0_71 : Jm code 71 (.if_icmp .ne 18) 18 74 89 := ⟨at_71, rfl, by decide, by decide⟩
theorem n0_74 : In code 74 (.aload 9) 2 76 := ⟨at_74, rfl⟩
theorem n0_76 : In code 76 (.iconst 0) 1 77 := ⟨at_76, rfl⟩
theorem n0_77 : In code 77 (.invokevirtual 28) 3 80 := ⟨at_77, rfl⟩
theorem n0_80 : In code 80 (.iload 5) 2 82 := ⟨at_80, rfl⟩
theorem n0_82 : Jm code 82 (.if_icmp .ne 7) 7 85 89 := ⟨at_82, rfl, by decide, by decide⟩
theorem n0_85 : In code 85 (.iconst 1) 1 86 := ⟨at_85, rfl⟩
theorem n0_86 : Jm code 86 (.goto 4) 4 89 90 := ⟨at_86, rfl, by decide, by decide⟩
theorem n0_90 : In code 90 (.ireturn) 1 91 := ⟨at_90, rfl⟩
theorem pn_0 : plainFor (⟨"com/example/valtab/valtab/sign/SignAddPinLaw", "law", "(II)Z"⟩ : MethodName) = true := plainFor_of_name (by first | (simp [plainName, overriddenIn]; done) | decide +kernel)
theorem n0_0 : In code 0 (.iload_n 0) 1 1 := ⟨at_0, rfl⟩
theorem n0_1 : In code 1 (.ldc 25) 2 3 := ⟨at_1, rfl⟩
theorem n0_3 : In code 3 (.iand) 1 4 := ⟨at_3, rfl⟩
theorem n0_4 : In code 4 (.iconst 5) 1 5 := ⟨at_4, rfl⟩
theorem n0_5 : In code 5 (.irem) 1 6 := ⟨at_5, rfl⟩
theorem n0_6 : In code 6 (.istore_n 2) 1 7 := ⟨at_6, rfl⟩
theorem n0_7 : In code 7 (.iload_n 1) 1 8 := ⟨at_7, rfl⟩
theorem n0_8 : In code 8 (.ldc 25) 2 10 := ⟨at_8, rfl⟩
theorem n0_10 : In code 10 (.iand) 1 11 := ⟨at_10, rfl⟩
theorem n0_11 : In code 11 (.iconst 5) 1 12 := ⟨at_11, rfl⟩
theorem n0_12 : In code 12 (.irem) 1 13 := ⟨at_12, rfl⟩
theorem n0_13 : In code 13 (.istore_n 3) 1 14 := ⟨at_13, rfl⟩
theorem n0_14 : In code 14 (.ldc 26) 2 16 := ⟨at_14, rfl⟩
theorem own_eqI {t : Term} {k : Int32} {args : Array Value} {s : State} (h : (Cond.eq t (.int k)).value args s none s [] = some true) : t.eval args s none [] s = some (.int k) := by
  obtain ⟨x, y, h1, h2, h3, -⟩ := cmp_v (Or.inl h)
  cases (Option.some.inj h2 : (Value.int k) = y)
  cases x <;> first | (have := gotT (Cond.eq_ints h1 h2) h; rw [h1, this]; done) | (simp [Kin, Value.isRef] at h3; done)
theorem own_eqL {t : Term} {k : Int64} {args : Array Value} {s : State} (h : (Cond.eq t (.long k)).value args s none s [] = some true) : t.eval args s none [] s = some (.long k) := by
  obtain ⟨x, y, h1, h2, h3, -⟩ := cmp_v (Or.inl h)
  cases (Option.some.inj h2 : (Value.long k) = y)
  cases x <;> first | (have := gotT (eq_L h1 h2) h; rw [h1, this]; done) | (simp [Kin, Value.isRef] at h3; done)
theorem own_eqR {a b : Term} {y : Addr} {args : Array Value} {s : State} (h : (Cond.eq a b).value args s none s [] = some true) (hb : b.eval args s none [] s = some (.ref y)) : a.eval args s none [] s = some (.ref y) := by
  obtain ⟨x, y', h1, h2, h3, h4⟩ := cmp_v (Or.inl h)
  cases h2.symm.trans hb
  have hx : x.isRef = true := h4.2
  have := gotT (eq_R h1 h2 hx rfl) h
  rw [h1, this]
theorem own_nar1 : nar .boolean 1 = 1 := rfl
theorem own_nar0 : nar .boolean 0 = 0 := rfl
def own_pk (tp ng ze po bo : Addr) (k : Int32) : Addr := if k = 0 then tp else if k = 1 then ng else if k = 2 then ze else if k = 3 then po else bo
def own_add (tp ze bo x y : Addr) : Addr := if x = tp then tp else if y = tp then tp else if y = ze then x else if x = ze then y else if x = y then x else bo
theorem own_five (x : Int32) : (x &&& 2147483647) % 5 = 0 ∨ (x &&& 2147483647) % 5 = 1 ∨ (x &&& 2147483647) % 5 = 2 ∨ (x &&& 2147483647) % 5 = 3 ∨ (x &&& 2147483647) % 5 = 4 := by
  have h1 := c_mask x 2147483647 31 (by decide) (by decide)
  have h2 := (c_irem (x &&& 2147483647) 5 5 (by decide)).1 (by rw [h1]; omega)
  have e : ∀ k : Int32, (x &&& 2147483647) % 5 = k ↔ ((x &&& 2147483647) % 5).toInt = k.toInt := fun k => Int32.toInt_inj.symm
  rw [e, e, e, e, e, h2]
  have k0 : (0 : Int32).toInt = 0 := by decide
  have k1 : (1 : Int32).toInt = 1 := by decide
  have k2 : (2 : Int32).toInt = 2 := by decide
  have k3 : (3 : Int32).toInt = 3 := by decide
  have k4 : (4 : Int32).toInt = 4 := by decide
  omega
def own_diff (tp ng ze po bo : Addr) : Prop := tp ≠ ng ∧ tp ≠ ze ∧ tp ≠ po ∧ tp ≠ bo ∧ ng ≠ ze ∧ ng ≠ po ∧ ng ≠ bo ∧ ze ≠ po ∧ ze ≠ bo ∧ po ≠ bo
/-- a String whose coder is 0, its byte[] and that array's length -/
def own_str (Z : State) (h : Heap) (y b : Addr) (cl : Cell) (n : Int32) : Prop := Exa Z h y "java/lang/String" ∧ Fld Z h y "java/lang/String" "coder" "B" (.int (0 : Int32)) ∧ Fld Z h y "java/lang/String" "value" "[B" (.ref b) ∧ Arr Z h b cl .byte ∧ cl.slots.size.toInt32 = n
theorem own_str_ext {Z : State} {h h' : Heap} {y b : Addr} {cl : Cell} {n : Int32} (E : Ext h h') (S : own_str Z h y b cl n) : own_str Z h' y b cl n := ⟨S.1.ext E, S.2.1.ext E, S.2.2.1.ext E, S.2.2.2.1.ext E, S.2.2.2.2⟩
def own_ch (v : Int32) : Int32 := nar .char (nar .char ((v &&& (255 : Int32)).toUInt32.toUInt16.toUInt32.toInt32))
def own_len (n : Int32) : Int32 := n >>> ((nar .byte (0 : Int32)) &&& 31)
def WpW (p : Program) (e : Env) (below : List Frame) (s : State) (K N : Nat) (Q : Option Value → List Loc → Prop) (T : State) (g : JFrame) : Prop :=
  ∃ s₂ o, Steps p.tables e below (T.setTop g) s₂ ∧ s₂.status = .running ∧ Ended s₂ below o ∧ ∃ v L, o = .returned v ∧ Q v L ∧ s.Warmed39 s₂.vm ∧ s.Booked s₂.vm s₂.heap.size ∧ s.sameButNew ({ s₂ with vm := s.vm } : State) L K N
theorem WpW.go {p : Program} {e : Env} {below : List Frame} {s : State} {K N : Nat} {Q : Option Value → List Loc → Prop} {T T' : State} {g g' : JFrame} (st : ∀ target, Steps p.tables e below (T'.setTop g') target → Steps p.tables e below (T.setTop g) target) (k : WpW p e below s K N Q T' g') : WpW p e below s K N Q T g := by
  obtain ⟨s₂, o, h1, h2⟩ := k; exact ⟨s₂, o, st _ h1, h2⟩
theorem WpW.of {p : Program} {e : Env} {below : List Frame} {s : State} {K N n : Nat} {vm₁ : Vm} {Q : Option Value → List Loc → Prop} {T : State} {g : JFrame} (hS : s.Since vm₁ n) (k : Wp p e below (s.setVm vm₁) K N (fun v h L => Q v L ∧ n ≤ h.size) T g) : WpW p e below s K N Q T g := by
  obtain ⟨s₂, o, h1, h2, h3, v, L, h4, ⟨h5, h6⟩, h7⟩ := k
  obtain ⟨a, b, c⟩ := hS.ended (U := s₂) h7.2.1 h6 h7.2.2
  exact ⟨s₂, o, h1, h2, h3, v, L, h4, h5, a, b, c⟩

set_option maxRecDepth 65536 in
set_option maxHeartbeats 4000000 in
theorem ef_rIL (m : MethodId) (x0 : Addr) : entryFrame m #[(.ref x0)] 1 = mkF m 0 #[.val (.ref x0)] [] := by first | (simp [entryFrame, mkF, argsToLocals, Value.category]; done) | rfl
set_option maxRecDepth 65536 in
set_option maxHeartbeats 40000000 in
theorem rIL (l : Launch) (Z : State) (a0 : Array Value) (hw : ∀ d ∈ tables_1, d.before a0 Z = true) (y b : Addr) (cl : Cell) (n zc : Int32) (h0 : Heap) (S1 : own_str Z h0 y b cl n) (S_C : Sta Z h0 "java/lang/String" "COMPACT_STRINGS" "Z" (.int zc)) (P3 : ¬ zc = 0) : Con l Z (⟨"java/lang/String", "isLatin1", "()Z"⟩ : MethodName) jdk_42_method_154_code 1 (some .boolean) ({ frames := 0, cells := 0, slots := 0, locals := 0 } : Room) #[(.ref y)] h0 (fun v h L => v = some (.int (1 : Int32)) ∧ h = h0 ∧ L = []) := by
  refine w_body (Ls := #[.val (.ref y)]) pn_2 (fun m => ef_rIL m y) ?_
  intro p e s m below meth c T0 X0 hx hby hml hown hnm hret hlk hZ e0
  refine w_getS X0 hx hby hZ hown (host := "") (Or.inl (hw _ t_19)) Via.refl e0 S_C n2_0 fun T1 X1 e1 => ?_
  refine f_if_eq X1 hx hby n2_3 (fun q3 => by exact absurd q3 P3) (fun q3 => ?_)
  refine w_aloadN X1 hx hby n2_6 rfl rfl ?_
  refine w_getF X1 hx hby hZ hown (host := "") (Or.inl (hw _ t_20)) Via.refl e1 S1.2.1 n2_7 fun T2 X2 e2 => ?_
  refine f_if_ne X2 hx hby n2_10 (fun q10 => by exact absurd q10 (by decide)) (fun q10 => ?_)
  refine w_iconst X2 hx hby (1 : Int32) n2_13 rfl ?_
  refine w_goto X2 hx hby n2_14 ?_
  refine w_retN X2 hx hby e2 hlk hret (by simp) n2_18 (by decide) (by decide) ?_
  exact ⟨rfl, rfl, rfl⟩
set_option maxRecDepth 65536 in
set_option maxHeartbeats 4000000 in
theorem ef_rCO (m : MethodId) (x0 : Addr) : entryFrame m #[(.ref x0)] 1 = mkF m 0 #[.val (.ref x0)] [] := by first | (simp [entryFrame, mkF, argsToLocals, Value.category]; done) | rfl
set_option maxRecDepth 65536 in
set_option maxHeartbeats 40000000 in
theorem rCO (l : Launch) (Z : State) (a0 : Array Value) (hw : ∀ d ∈ tables_1, d.before a0 Z = true) (y b : Addr) (cl : Cell) (n zc : Int32) (h0 : Heap) (S1 : own_str Z h0 y b cl n) (S_C : Sta Z h0 "java/lang/String" "COMPACT_STRINGS" "Z" (.int zc)) (P3 : ¬ zc = 0) : Con l Z (⟨"java/lang/String", "coder", "()B"⟩ : MethodName) jdk_42_method_152_code 1 (some .byte) ({ frames := 0, cells := 0, slots := 0, locals := 0 } : Room) #[(.ref y)] h0 (fun v h L => v = some (.int (nar .byte (0 : Int32))) ∧ h = h0 ∧ L = []) := by
  refine w_body (Ls := #[.val (.ref y)]) pn_10 (fun m => ef_rCO m y) ?_
  intro p e s m below meth c T0 X0 hx hby hml hown hnm hret hlk hZ e0
  refine w_getS X0 hx hby hZ hown (host := "") (Or.inl (hw _ t_19)) Via.refl e0 S_C n10_0 fun T1 X1 e1 => ?_
  refine f_if_eq X1 hx hby n10_3 (fun q3 => by exact absurd q3 P3) (fun q3 => ?_)
  refine w_aloadN X1 hx hby n10_6 rfl rfl ?_
  refine w_getF X1 hx hby hZ hown (host := "") (Or.inl (hw _ t_20)) Via.refl e1 S1.2.1 n10_7 fun T2 X2 e2 => ?_
  refine w_goto X2 hx hby n10_10 ?_
  refine w_retN X2 hx hby e2 hlk hret (by simp) n10_14 (by decide) (by decide) ?_
  exact ⟨rfl, rfl, rfl⟩
set_option maxRecDepth 65536 in
set_option maxHeartbeats 4000000 in
theorem ef_rPC (m : MethodId) (x0 : Int32) (x1 : Int32) (x2 : Value) (r2 : x2.isRef = true) : entryFrame m #[(.int x0), (.int x1), x2] 3 = mkF m 0 #[.val (.int x0), .val (.int x1), .val x2] [] := by (rcases XT.refc r2 with rfl | ⟨_, rfl⟩) <;> rfl
set_option maxRecDepth 65536 in
set_option maxHeartbeats 40000000 in
theorem rPC (l : Launch) (Z : State) (a0 : Array Value) (hw : ∀ d ∈ tables_1, d.before a0 Z = true) (i n : Int32) (fv : Value) (h0 : Heap) (rF : fv.isRef = true) (hi : ¬ i < 0) (hn : i < n) : Con l Z (⟨"jdk/internal/util/Preconditions", "checkIndex", "(IILjava/util/function/BiFunction;)I"⟩ : MethodName) jdk_41_method_11_code 3 (some .int) ({ frames := 0, cells := 0, slots := 0, locals := 0 } : Room) #[(.int i), (.int n), fv] h0 (fun v h L => v = some (.int i) ∧ h = h0 ∧ L = []) := by
  refine w_body (Ls := #[.val (.int i), .val (.int n), .val fv]) pn_5 (fun m => ef_rPC m i n fv rF) ?_
  intro p e s m below meth c T0 X0 hx hby hml hown hnm hret hlk hZ e0
  refine w_iloadN X0 hx hby n5_0 rfl ?_
  refine f_if_lt X0 hx hby n5_1 (fun q1 => by exact absurd q1 hi) (fun q1 => ?_)
  refine w_iloadN X0 hx hby n5_4 rfl ?_
  refine w_iloadN X0 hx hby n5_5 rfl ?_
  refine f_icmp_lt X0 hx hby n5_6 (fun q6 => ?_) (fun q6 => by exact absurd hn q6)
  refine w_iloadN X0 hx hby n5_16 rfl ?_
  refine w_retI X0 hx hby e0 hlk hret n5_17 (by decide) (by decide) ?_
  exact ⟨rfl, rfl, rfl⟩
set_option maxRecDepth 65536 in
set_option maxHeartbeats 4000000 in
theorem ef_rCI (m : MethodId) (x0 : Int32) (x1 : Int32) : entryFrame m #[(.int x0), (.int x1)] 2 = mkF m 0 #[.val (.int x0), .val (.int x1)] [] := by first | (simp [entryFrame, mkF, argsToLocals, Value.category]; done) | rfl
set_option maxRecDepth 65536 in
set_option maxHeartbeats 40000000 in
theorem rCI (l : Launch) (Z : State) (a0 : Array Value) (hw : ∀ d ∈ tables_1, d.before a0 Z = true) (i n : Int32) (fv : Value) (h0 : Heap) (S_F : Sta Z h0 "jdk/internal/util/Preconditions" "SIOOBE_FORMATTER" "Ljava/util/function/BiFunction;" fv) (rF : fv.isRef = true) (hi : ¬ i < 0) (hn : i < n) : Con l Z (⟨"java/lang/String", "checkIndex", "(II)V"⟩ : MethodName) jdk_42_method_155_code 2 none ({ frames := 1, cells := 0, slots := 0, locals := 14 } : Room) #[(.int i), (.int n)] h0 (fun v h L => v = none ∧ h = h0 ∧ L = []) := by
  refine w_body (Ls := #[.val (.int i), .val (.int n)]) pn_4 (fun m => ef_rCI m i n) ?_
  intro p e s m below meth c T0 X0 hx hby hml hown hnm hret hlk hZ e0
  refine w_iloadN X0 hx hby n4_0 rfl ?_
  refine w_iloadN X0 hx hby n4_1 rfl ?_
  refine w_getS X0 hx hby hZ hown (host := "") (Or.inl (hw _ t_29)) Via.refl e0 S_F n4_2 fun T1 X1 e1 => ?_
  refine w_calledp (call_S X1 hx hby hZ hown (argsL := [(.int i), (.int n), fv]) (rest := []) (Wd := 0) (hw _ t_31) (hw _ t_32) (hw _ t_30) (hw _ t_33) (by decide) (rPC l Z a0 hw i n fv h0 rF hi hn) rfl n4_5 (by rw [hml]; rfl) (lenOf pd_81843 rfl) rfl (by decide) (by decide) (by decide) (by decide) e1) rfl rfl fun T2 X2 e2 => ?_
  refine w_pop X2 hx hby n4_8 rfl ?_
  refine w_retV X2 hx hby e2 hlk hret n4_9 (by decide) (by decide) ?_
  exact ⟨rfl, rfl, rfl⟩
set_option maxRecDepth 65536 in
set_option maxHeartbeats 4000000 in
theorem ef_rL1 (m : MethodId) (x0 : Addr) (x1 : Int32) : entryFrame m #[(.ref x0), (.int x1)] 2 = mkF m 0 #[.val (.ref x0), .val (.int x1)] [] := by first | (simp [entryFrame, mkF, argsToLocals, Value.category]; done) | rfl
set_option maxRecDepth 65536 in
set_option maxHeartbeats 40000000 in
theorem rL1 (l : Launch) (Z : State) (a0 : Array Value) (hw : ∀ d ∈ tables_1, d.before a0 Z = true) (y b : Addr) (cl : Cell) (n i u1 : Int32) (fv : Value) (h0 : Heap) (S1 : own_str Z h0 y b cl n) (S_F : Sta Z h0 "jdk/internal/util/Preconditions" "SIOOBE_FORMATTER" "Ljava/util/function/BiFunction;" fv) (rF : fv.isRef = true) (hi : ¬ i < 0) (hn : i < n) (G : ¬ (i < 0 ∨ cl.slots.size ≤ i.toNatClampNeg) ∧ cl.slots[i.toNatClampNeg]? = some (.int u1)) : Con l Z (⟨"java/lang/StringLatin1", "charAt", "([BI)C"⟩ : MethodName) jdk_43_method_2_code 2 (some .char) ({ frames := 2, cells := 0, slots := 0, locals := 27 } : Room) #[(.ref b), (.int i)] h0 (fun v h L => v = some (.int (nar .char ((u1 &&& (255 : Int32)).toUInt32.toUInt16.toUInt32.toInt32))) ∧ h = h0 ∧ L = []) := by
  refine w_body (Ls := #[.val (.ref b), .val (.int i)]) pn_3 (fun m => ef_rL1 m b i) ?_
  intro p e s m below meth c T0 X0 hx hby hml hown hnm hret hlk hZ e0
  refine w_iloadN X0 hx hby n3_0 rfl ?_
  refine w_aloadN X0 hx hby n3_1 rfl rfl ?_
  refine w_arraylength X0 hx hby hZ e0 S1.2.2.2.1 S1.2.2.2.2 n3_2 ?_
  refine w_called (call_S X0 hx hby hZ hown (argsL := [(.int i), (.int n)]) (rest := []) (Wd := 0) (hw _ t_26) (hw _ t_27) (hw _ t_2) (hw _ t_28) (by decide) (rCI l Z a0 hw i n fv h0 S_F rF hi hn) rfl n3_3 (by rw [hml]; rfl) (lenOf pd_2877 rfl) rfl (by decide) (by decide) (by decide) (by decide) e0) fun v1 T1 L1 X1 Q1 => ?_
  obtain ⟨rfl, hh1, rfl⟩ := Q1
  show Wp p e below s _ _ _ T1 (mkF m 6 #[.val (.ref b), .val (.int i)] [])
  refine w_aloadN X1 hx hby n3_6 rfl rfl ?_
  refine w_iloadN X1 hx hby n3_7 rfl ?_
  refine w_baload X1 hx hby hZ hh1 S1.2.2.2.1 G.1 G.2 n3_8 ?_
  refine w_sipush X1 hx hby (255 : Int32) n3_9 rfl ?_
  refine w_iand X1 hx hby n3_12 ?_
  refine w_i2c X1 hx hby n3_13 ?_
  refine w_retN X1 hx hby hh1 hlk hret (by simp) n3_14 (by decide) (by decide) ?_
  exact ⟨rfl, rfl, rfl⟩
set_option maxRecDepth 65536 in
set_option maxHeartbeats 4000000 in
theorem ef_rCH (m : MethodId) (x0 : Addr) (x1 : Int32) : entryFrame m #[(.ref x0), (.int x1)] 2 = mkF m 0 #[.val (.ref x0), .val (.int x1)] [] := by first | (simp [entryFrame, mkF, argsToLocals, Value.category]; done) | rfl
set_option maxRecDepth 65536 in
set_option maxHeartbeats 40000000 in
theorem rCH (l : Launch) (Z : State) (a0 : Array Value) (hw : ∀ d ∈ tables_1, d.before a0 Z = true) (y b : Addr) (cl : Cell) (n i u1 zc : Int32) (fv : Value) (h0 : Heap) (S1 : own_str Z h0 y b cl n) (S_C : Sta Z h0 "java/lang/String" "COMPACT_STRINGS" "Z" (.int zc)) (P3 : ¬ zc = 0) (S_F : Sta Z h0 "jdk/internal/util/Preconditions" "SIOOBE_FORMATTER" "Ljava/util/function/BiFunction;" fv) (rF : fv.isRef = true) (hi : ¬ i < 0) (hn : i < n) (G : ¬ (i < 0 ∨ cl.slots.size ≤ i.toNatClampNeg) ∧ cl.slots[i.toNatClampNeg]? = some (.int u1)) : Con l Z (⟨"java/lang/String", "charAt", "(I)C"⟩ : MethodName) jdk_42_method_56_code 2 (some .char) ({ frames := 3, cells := 0, slots := 0, locals := 40 } : Room) #[(.ref y), (.int i)] h0 (fun v h L => v = some (.int (own_ch u1)) ∧ h = h0 ∧ L = []) := by
  refine w_body (Ls := #[.val (.ref y), .val (.int i)]) pn_1 (fun m => ef_rCH m y i) ?_
  intro p e s m below meth c T0 X0 hx hby hml hown hnm hret hlk hZ e0
  refine w_aloadN X0 hx hby n1_0 rfl rfl ?_
  refine w_calledp (call_V X0 hx hby hZ hown (argsL := []) (rest := []) (Wd := 0) (a := y) (hw _ t_14) (hw _ t_15) (hw _ t_17) (hw _ t_16) (hw _ t_2) (hw _ t_18) (by decide) S1.1 (rIL l Z a0 hw y b cl n zc h0 S1 S_C P3) rfl n1_1 (by rw [hml]; rfl) (lenOf pd_1418 rfl) rfl (by decide) (by decide) (by decide) (by decide) e0) rfl rfl fun T1 X1 e1 => ?_
  refine f_if_eq X1 hx hby n1_4 (fun q4 => by exact absurd q4 (by decide)) (fun q4 => ?_)
  refine w_aloadN X1 hx hby n1_7 rfl rfl ?_
  refine w_getF X1 hx hby hZ hown (host := "") (Or.inl (hw _ t_21)) Via.refl e1 S1.2.2.1 n1_8 fun T2 X2 e2 => ?_
  refine w_iloadN X2 hx hby n1_11 rfl ?_
  refine w_calledp (call_S X2 hx hby hZ hown (argsL := [(.ref b), (.int i)]) (rest := []) (Wd := 0) (hw _ t_22) (hw _ t_23) (hw _ t_24) (hw _ t_25) (by decide) (rL1 l Z a0 hw y b cl n i u1 fv h0 S1 S_F rF hi hn G) rfl n1_12 (by rw [hml]; rfl) (lenOf pd_3587 rfl) rfl (by decide) (by decide) (by decide) (by decide) e2) rfl rfl fun T3 X3 e3 => ?_
  refine w_retN X3 hx hby e3 hlk hret (by simp) n1_15 (by decide) (by decide) ?_
  exact ⟨rfl, rfl, rfl⟩
set_option maxRecDepth 65536 in
set_option maxHeartbeats 4000000 in
theorem ef_rLN (m : MethodId) (x0 : Addr) : entryFrame m #[(.ref x0)] 1 = mkF m 0 #[.val (.ref x0)] [] := by first | (simp [entryFrame, mkF, argsToLocals, Value.category]; done) | rfl
set_option maxRecDepth 65536 in
set_option maxHeartbeats 40000000 in
theorem rLN (l : Launch) (Z : State) (a0 : Array Value) (hw : ∀ d ∈ tables_1, d.before a0 Z = true) (y b : Addr) (cl : Cell) (n zc : Int32) (h0 : Heap) (S1 : own_str Z h0 y b cl n) (S_C : Sta Z h0 "java/lang/String" "COMPACT_STRINGS" "Z" (.int zc)) (P3 : ¬ zc = 0) : Con l Z (⟨"java/lang/String", "length", "()I"⟩ : MethodName) jdk_42_method_54_code 1 (some .int) ({ frames := 1, cells := 0, slots := 0, locals := 13 } : Room) #[(.ref y)] h0 (fun v h L => v = some (.int (own_len n)) ∧ h = h0 ∧ L = []) := by
  refine w_body (Ls := #[.val (.ref y)]) pn_9 (fun m => ef_rLN m y) ?_
  intro p e s m below meth c T0 X0 hx hby hml hown hnm hret hlk hZ e0
  refine w_aloadN X0 hx hby n9_0 rfl rfl ?_
  refine w_getF X0 hx hby hZ hown (host := "") (Or.inl (hw _ t_21)) Via.refl e0 S1.2.2.1 n9_1 fun T1 X1 e1 => ?_
  refine w_arraylength X1 hx hby hZ e1 S1.2.2.2.1 S1.2.2.2.2 n9_4 ?_
  refine w_aloadN X1 hx hby n9_5 rfl rfl ?_
  refine w_calledp (call_V X1 hx hby hZ hown (argsL := []) (rest := [(.int n)]) (Wd := 1) (a := y) (hw _ t_61) (hw _ t_62) (hw _ t_64) (hw _ t_63) (hw _ t_2) (hw _ t_65) (by decide) S1.1 (rCO l Z a0 hw y b cl n zc h0 S1 S_C P3) rfl n9_6 (by rw [hml]; rfl) (lenOf pd_1202 rfl) rfl (by decide) (by decide) (by decide) (by decide) e1) rfl rfl fun T2 X2 e2 => ?_
  refine w_ishr X2 hx hby n9_9 ?_
  refine w_retI X2 hx hby e2 hlk hret n9_10 (by decide) (by decide) ?_
  exact ⟨rfl, rfl, rfl⟩
set_option maxRecDepth 65536 in
set_option maxHeartbeats 4000000 in
theorem ef_rPK (m : MethodId) (x0 : Int32) : entryFrame m #[(.int x0)] 1 = mkF m 0 #[.val (.int x0)] [] := by first | (simp [entryFrame, mkF, argsToLocals, Value.category]; done) | rfl
set_option maxRecDepth 65536 in
set_option maxHeartbeats 40000000 in
theorem rPK (l : Launch) (Z : State) (a0 : Array Value) (hw : ∀ d ∈ tables_1, d.before a0 Z = true) (tp ng ze po bo : Addr) (k1 : Int32) (h0 : Heap) (S_TOP : Sta Z h0 "com/example/valtab/valtab/sign/Sign" "TOP" "Lcom/example/valtab/valtab/sign/Sign;" (.ref tp)) (S_NEGATIVE : Sta Z h0 "com/example/valtab/valtab/sign/Sign" "NEGATIVE" "Lcom/example/valtab/valtab/sign/Sign;" (.ref ng)) (S_ZERO : Sta Z h0 "com/example/valtab/valtab/sign/Sign" "ZERO" "Lcom/example/valtab/valtab/sign/Sign;" (.ref ze)) (S_POSITIVE : Sta Z h0 "com/example/valtab/valtab/sign/Sign" "POSITIVE" "Lcom/example/valtab/valtab/sign/Sign;" (.ref po)) (S_BOTTOM : Sta Z h0 "com/example/valtab/valtab/sign/Sign" "BOTTOM" "Lcom/example/valtab/valtab/sign/Sign;" (.ref bo)) : Con l Z (⟨"com/example/valtab/valtab/sign/SignAddPinLaw", "pick", "(I)Lcom/example/valtab/valtab/sign/Sign;"⟩ : MethodName) method_2_code 1 (some (.object "com/example/valtab/valtab/sign/Sign")) ({ frames := 0, cells := 0, slots := 0, locals := 0 } : Room) #[(.int k1)] h0 (fun v h L => v = some (.ref (own_pk tp ng ze po bo k1)) ∧ h = h0 ∧ L = []) := by
  refine w_body (Ls := #[.val (.int k1)]) pn_6 (fun m => ef_rPK m k1) ?_
  intro p e s m below meth c T0 X0 hx hby hml hown hnm hret hlk hZ e0
  refine w_iloadN X0 hx hby n6_0 rfl ?_
  refine f_if_ne X0 hx hby n6_1 (fun q1 => ?_) (fun q1 => ?_)
  · refine w_iloadN X0 hx hby n6_8 rfl ?_
    refine w_iconst X0 hx hby (1 : Int32) n6_9 rfl ?_
    refine f_icmp_ne X0 hx hby n6_10 (fun q10 => ?_) (fun q10 => ?_)
    · refine w_iloadN X0 hx hby n6_17 rfl ?_
      refine w_iconst X0 hx hby (2 : Int32) n6_18 rfl ?_
      refine f_icmp_ne X0 hx hby n6_19 (fun q19 => ?_) (fun q19 => ?_)
      · refine w_iloadN X0 hx hby n6_26 rfl ?_
        refine w_iconst X0 hx hby (3 : Int32) n6_27 rfl ?_
        refine f_icmp_ne X0 hx hby n6_28 (fun q28 => ?_) (fun q28 => ?_)
        · refine w_getS X0 hx hby hZ hown (host := "") (Or.inl (hw _ t_66)) Via.refl e0 S_BOTTOM n6_35 fun T1 X1 e1 => ?_
          refine w_retA X1 hx hby e1 hlk hret rfl rfl rfl n6_38 (by decide) (by decide) ?_
          exact ⟨congrArg (fun q => some (Value.ref q)) (by first | (unfold own_pk; rw [if_neg q1, if_neg q10, if_neg q19, if_neg q28] <;> rfl) | simp [own_pk, own_nar1, own_nar0, q1, q10, q19, q28]), rfl, rfl⟩
        · refine w_getS X0 hx hby hZ hown (host := "") (Or.inl (hw _ t_41)) Via.refl e0 S_POSITIVE n6_31 fun T2 X2 e2 => ?_
          refine w_retA X2 hx hby e2 hlk hret rfl rfl rfl n6_34 (by decide) (by decide) ?_
          exact ⟨congrArg (fun q => some (Value.ref q)) (by first | (unfold own_pk; rw [if_neg q1, if_neg q10, if_neg q19, if_pos q28] <;> rfl) | simp [own_pk, own_nar1, own_nar0, q1, q10, q19, q28]), rfl, rfl⟩
      · refine w_getS X0 hx hby hZ hown (host := "") (Or.inl (hw _ t_73)) Via.refl e0 S_ZERO n6_22 fun T3 X3 e3 => ?_
        refine w_retA X3 hx hby e3 hlk hret rfl rfl rfl n6_25 (by decide) (by decide) ?_
        exact ⟨congrArg (fun q => some (Value.ref q)) (by first | (unfold own_pk; rw [if_neg q1, if_neg q10, if_pos q19] <;> rfl) | simp [own_pk, own_nar1, own_nar0, q1, q10, q19]), rfl, rfl⟩
    · refine w_getS X0 hx hby hZ hown (host := "") (Or.inl (hw _ t_68)) Via.refl e0 S_NEGATIVE n6_13 fun T4 X4 e4 => ?_
      refine w_retA X4 hx hby e4 hlk hret rfl rfl rfl n6_16 (by decide) (by decide) ?_
      exact ⟨congrArg (fun q => some (Value.ref q)) (by first | (unfold own_pk; rw [if_neg q1, if_pos q10] <;> rfl) | simp [own_pk, own_nar1, own_nar0, q1, q10]), rfl, rfl⟩
  · refine w_getS X0 hx hby hZ hown (host := "") (Or.inl (hw _ t_38)) Via.refl e0 S_TOP n6_4 fun T5 X5 e5 => ?_
    refine w_retA X5 hx hby e5 hlk hret rfl rfl rfl n6_7 (by decide) (by decide) ?_
    exact ⟨congrArg (fun q => some (Value.ref q)) (by first | (unfold own_pk; rw [if_pos q1] <;> rfl) | simp [own_pk, own_nar1, own_nar0, q1]), rfl, rfl⟩
set_option maxRecDepth 65536 in
set_option maxHeartbeats 4000000 in
theorem ef_rAD (m : MethodId) (x0 : Addr) (x1 : Addr) : entryFrame m #[(.ref x0), (.ref x1)] 3 = mkF m 0 #[.val (.ref x0), .val (.ref x1), .unset] [] := by first | (simp [entryFrame, mkF, argsToLocals, Value.category]; done) | rfl
set_option maxRecDepth 65536 in
set_option maxHeartbeats 40000000 in
theorem rAD (l : Launch) (Z : State) (a0 : Array Value) (hw : ∀ d ∈ tables_1, d.before a0 Z = true) (tp ng ze po bo : Addr) (y1 y2 : Addr) (h0 : Heap) (S_TOP : Sta Z h0 "com/example/valtab/valtab/sign/Sign" "TOP" "Lcom/example/valtab/valtab/sign/Sign;" (.ref tp)) (S_NEGATIVE : Sta Z h0 "com/example/valtab/valtab/sign/Sign" "NEGATIVE" "Lcom/example/valtab/valtab/sign/Sign;" (.ref ng)) (S_ZERO : Sta Z h0 "com/example/valtab/valtab/sign/Sign" "ZERO" "Lcom/example/valtab/valtab/sign/Sign;" (.ref ze)) (S_POSITIVE : Sta Z h0 "com/example/valtab/valtab/sign/Sign" "POSITIVE" "Lcom/example/valtab/valtab/sign/Sign;" (.ref po)) (S_BOTTOM : Sta Z h0 "com/example/valtab/valtab/sign/Sign" "BOTTOM" "Lcom/example/valtab/valtab/sign/Sign;" (.ref bo)) : Con l Z (⟨"com/example/valtab/valtab/sign/Sign", "add", "(Lcom/example/valtab/valtab/sign/Sign;)Lcom/example/valtab/valtab/sign/Sign;"⟩ : MethodName) prog_37_method_8_code 3 (some (.object "com/example/valtab/valtab/sign/Sign")) ({ frames := 0, cells := 0, slots := 0, locals := 0 } : Room) #[(.ref y1), (.ref y2)] h0 (fun v h L => v = some (.ref (own_add tp ze bo y1 y2)) ∧ h = h0 ∧ L = []) := by
  refine w_body (Ls := #[.val (.ref y1), .val (.ref y2), .unset]) pn_7 (fun m => ef_rAD m y1 y2) ?_
  intro p e s m below meth c T0 X0 hx hby hml hown hnm hret hlk hZ e0
  refine w_aloadN X0 hx hby n7_0 rfl rfl ?_
  refine w_getS X0 hx hby hZ hown (host := "") (Or.inl (hw _ t_48)) Via.refl e0 S_TOP n7_1 fun T1 X1 e1 => ?_
  refine f_acmp_eq X1 hx hby n7_4 (fun q4 => ?_) (fun q4 => ?_)
  · refine w_getS X1 hx hby hZ hown (host := "") (Or.inl (hw _ t_48)) Via.refl e1 S_TOP n7_14 fun T2 X2 e2 => ?_
    refine w_astoreN X2 hx hby #[.val (.ref y1), .val (.ref y2), .val (.ref tp)] n7_17 rfl rfl ?_
    refine w_goto X2 hx hby n7_18 ?_
    refine w_aloadN X2 hx hby n7_59 rfl rfl ?_
    refine w_retA X2 hx hby e2 hlk hret rfl rfl rfl n7_60 (by decide) (by decide) ?_
    exact ⟨congrArg (fun q => some (Value.ref q)) (by first | (unfold own_add; rw [if_pos q4] <;> rfl) | simp [own_add, own_nar1, own_nar0, q4]), rfl, rfl⟩
  · refine w_aloadN X1 hx hby n7_7 rfl rfl ?_
    refine w_getS X1 hx hby hZ hown (host := "") (Or.inl (hw _ t_48)) Via.refl e1 S_TOP n7_8 fun T3 X3 e3 => ?_
    refine f_acmp_ne X3 hx hby n7_11 (fun q11 => ?_) (fun q11 => ?_)
    · refine w_aloadN X3 hx hby n7_21 rfl rfl ?_
      refine w_getS X3 hx hby hZ hown (host := "") (Or.inl (hw _ t_70)) Via.refl e3 S_ZERO n7_22 fun T4 X4 e4 => ?_
      refine f_acmp_ne X4 hx hby n7_25 (fun q25 => ?_) (fun q25 => ?_)
      · refine w_aloadN X4 hx hby n7_33 rfl rfl ?_
        refine w_getS X4 hx hby hZ hown (host := "") (Or.inl (hw _ t_70)) Via.refl e4 S_ZERO n7_34 fun T5 X5 e5 => ?_
        refine f_acmp_ne X5 hx hby n7_37 (fun q37 => ?_) (fun q37 => ?_)
        · refine w_aloadN X5 hx hby n7_45 rfl rfl ?_
          refine w_aloadN X5 hx hby n7_46 rfl rfl ?_
          refine f_acmp_ne X5 hx hby n7_47 (fun q47 => ?_) (fun q47 => ?_)
          · refine w_getS X5 hx hby hZ hown (host := "") (Or.inl (hw _ t_72)) Via.refl e5 S_BOTTOM n7_55 fun T6 X6 e6 => ?_
            refine w_astoreN X6 hx hby #[.val (.ref y1), .val (.ref y2), .val (.ref bo)] n7_58 rfl rfl ?_
            refine w_aloadN X6 hx hby n7_59 rfl rfl ?_
            refine w_retA X6 hx hby e6 hlk hret rfl rfl rfl n7_60 (by decide) (by decide) ?_
            exact ⟨congrArg (fun q => some (Value.ref q)) (by first | (unfold own_add; rw [if_neg q4, if_neg q11, if_neg q25, if_neg q37, if_neg q47] <;> rfl) | simp [own_add, own_nar1, own_nar0, q4, q11, q25, q37, q47]), rfl, rfl⟩
          · refine w_aloadN X5 hx hby n7_50 rfl rfl ?_
            refine w_astoreN X5 hx hby #[.val (.ref y1), .val (.ref y2), .val (.ref y1)] n7_51 rfl rfl ?_
            refine w_goto X5 hx hby n7_52 ?_
            refine w_aloadN X5 hx hby n7_59 rfl rfl ?_
            refine w_retA X5 hx hby e5 hlk hret rfl rfl rfl n7_60 (by decide) (by decide) ?_
            exact ⟨congrArg (fun q => some (Value.ref q)) (by first | (unfold own_add; rw [if_neg q4, if_neg q11, if_neg q25, if_neg q37, if_pos q47] <;> rfl) | simp [own_add, own_nar1, own_nar0, q4, q11, q25, q37, q47]), rfl, rfl⟩
        · refine w_aloadN X5 hx hby n7_40 rfl rfl ?_
          refine w_astoreN X5 hx hby #[.val (.ref y1), .val (.ref y2), .val (.ref y2)] n7_41 rfl rfl ?_
          refine w_goto X5 hx hby n7_42 ?_
          refine w_aloadN X5 hx hby n7_59 rfl rfl ?_
          refine w_retA X5 hx hby e5 hlk hret rfl rfl rfl n7_60 (by decide) (by decide) ?_
          exact ⟨congrArg (fun q => some (Value.ref q)) (by first | (unfold own_add; rw [if_neg q4, if_neg q11, if_neg q25, if_pos q37] <;> rfl) | simp [own_add, own_nar1, own_nar0, q4, q11, q25, q37]), rfl, rfl⟩
      · refine w_aloadN X4 hx hby n7_28 rfl rfl ?_
        refine w_astoreN X4 hx hby #[.val (.ref y1), .val (.ref y2), .val (.ref y1)] n7_29 rfl rfl ?_
        refine w_goto X4 hx hby n7_30 ?_
        refine w_aloadN X4 hx hby n7_59 rfl rfl ?_
        refine w_retA X4 hx hby e4 hlk hret rfl rfl rfl n7_60 (by decide) (by decide) ?_
        exact ⟨congrArg (fun q => some (Value.ref q)) (by first | (unfold own_add; rw [if_neg q4, if_neg q11, if_pos q25] <;> rfl) | simp [own_add, own_nar1, own_nar0, q4, q11, q25]), rfl, rfl⟩
    · refine w_getS X3 hx hby hZ hown (host := "") (Or.inl (hw _ t_48)) Via.refl e3 S_TOP n7_14 fun T7 X7 e7 => ?_
      refine w_astoreN X7 hx hby #[.val (.ref y1), .val (.ref y2), .val (.ref tp)] n7_17 rfl rfl ?_
      refine w_goto X7 hx hby n7_18 ?_
      refine w_aloadN X7 hx hby n7_59 rfl rfl ?_
      refine w_retA X7 hx hby e7 hlk hret rfl rfl rfl n7_60 (by decide) (by decide) ?_
      exact ⟨congrArg (fun q => some (Value.ref q)) (by first | (unfold own_add; rw [if_neg q4, if_pos q11] <;> rfl) | simp [own_add, own_nar1, own_nar0, q4, q11]), rfl, rfl⟩
set_option maxRecDepth 65536 in
set_option maxHeartbeats 4000000 in
theorem ef_rSY (m : MethodId) (x0 : Addr) : entryFrame m #[(.ref x0)] 1 = mkF m 0 #[.val (.ref x0)] [] := by first | (simp [entryFrame, mkF, argsToLocals, Value.category]; done) | rfl
set_option maxRecDepth 65536 in
set_option maxHeartbeats 40000000 in
theorem rSY (l : Launch) (Z : State) (a0 : Array Value) (hw : ∀ d ∈ tables_1, d.before a0 Z = true) (y1 x1 : Addr) (h0 : Heap) (F1 : Fld Z h0 y1 "com/example/valtab/valtab/sign/Sign" "symbol" "Ljava/lang/String;" (.ref x1)) : Con l Z (⟨"com/example/valtab/valtab/sign/Sign", "symbol", "()Ljava/lang/String;"⟩ : MethodName) prog_37_method_5_code 1 (some (.object "java/lang/String")) ({ frames := 0, cells := 0, slots := 0, locals := 0 } : Room) #[(.ref y1)] h0 (fun v h L => v = some (.ref x1) ∧ h = h0 ∧ L = []) := by
  refine w_body (Ls := #[.val (.ref y1)]) pn_8 (fun m => ef_rSY m y1) ?_
  intro p e s m below meth c T0 X0 hx hby hml hown hnm hret hlk hZ e0
  refine w_aloadN X0 hx hby n8_0 rfl rfl ?_
  refine w_getF X0 hx hby hZ hown (host := "") (Or.inl (hw _ t_54)) Via.refl e0 F1 n8_1 fun T1 X1 e1 => ?_
  refine w_retA X1 hx hby e1 hlk hret rfl rfl rfl n8_4 (by decide) (by decide) ?_
  exact ⟨rfl, rfl, rfl⟩
set_option maxRecDepth 65536 in
set_option maxHeartbeats 40000000 in
theorem tail16 (l : Launch) (Z : State) (a0 : Array Value) (hw : ∀ d ∈ tables_1, d.before a0 Z = true) (tp ng ze po bo sy_tp sy_ng sy_ze sy_po sy_bo vb_tp vb_ng vb_ze vb_po vb_bo : Addr) (cl_tp cl_ng cl_ze cl_po cl_bo : Cell) (zc x1 x2 : Int32) (fv : Value) (ta tb : Addr) (kT : ClassId) (h0 : Heap) {p : Program} {e : Env} {s : State} {m : MethodId} {args : Array Value} {below : List Frame} {meth : Method} {c : Code} {T0 : State} (X0 : Stand p l e room_1 s m args below meth c T0 [] (0 + 2) (0 + (100 + 4))) (hx : p.tables.exec = Jvm.exec) (hby : c.code = code) (hml : c.maxLocals = 10) (hown : s.vm.findClass "com/example/valtab/valtab/sign/SignAddPinLaw" = some m.cls) (hret : meth.sig.returnType = ret) (hlk : meth.locks = false) (hZ : Z.Warmed39 s.vm) (e0 : T0.heap = h0) (S_TOP : Sta Z h0 "com/example/valtab/valtab/sign/Sign" "TOP" "Lcom/example/valtab/valtab/sign/Sign;" (.ref tp)) (S_NEGATIVE : Sta Z h0 "com/example/valtab/valtab/sign/Sign" "NEGATIVE" "Lcom/example/valtab/valtab/sign/Sign;" (.ref ng)) (S_ZERO : Sta Z h0 "com/example/valtab/valtab/sign/Sign" "ZERO" "Lcom/example/valtab/valtab/sign/Sign;" (.ref ze)) (S_POSITIVE : Sta Z h0 "com/example/valtab/valtab/sign/Sign" "POSITIVE" "Lcom/example/valtab/valtab/sign/Sign;" (.ref po)) (S_BOTTOM : Sta Z h0 "com/example/valtab/valtab/sign/Sign" "BOTTOM" "Lcom/example/valtab/valtab/sign/Sign;" (.ref bo)) (E_TOP : Exa Z h0 tp "com/example/valtab/valtab/sign/Sign") (E_NEGATIVE : Exa Z h0 ng "com/example/valtab/valtab/sign/Sign") (E_ZERO : Exa Z h0 ze "com/example/valtab/valtab/sign/Sign") (E_POSITIVE : Exa Z h0 po "com/example/valtab/valtab/sign/Sign") (E_BOTTOM : Exa Z h0 bo "com/example/valtab/valtab/sign/Sign") (Y_TOP : Fld Z h0 tp "com/example/valtab/valtab/sign/Sign" "symbol" "Ljava/lang/String;" (.ref sy_tp)) (Y_NEGATIVE : Fld Z h0 ng "com/example/valtab/valtab/sign/Sign" "symbol" "Ljava/lang/String;" (.ref sy_ng)) (Y_ZERO : Fld Z h0 ze "com/example/valtab/valtab/sign/Sign" "symbol" "Ljava/lang/String;" (.ref sy_ze)) (Y_POSITIVE : Fld Z h0 po "com/example/valtab/valtab/sign/Sign" "symbol" "Ljava/lang/String;" (.ref sy_po)) (Y_BOTTOM : Fld Z h0 bo "com/example/valtab/valtab/sign/Sign" "symbol" "Ljava/lang/String;" (.ref sy_bo)) (R_TOP : own_str Z h0 sy_tp vb_tp cl_tp (1 : Int32)) (R_NEGATIVE : own_str Z h0 sy_ng vb_ng cl_ng (1 : Int32)) (R_ZERO : own_str Z h0 sy_ze vb_ze cl_ze (1 : Int32)) (R_POSITIVE : own_str Z h0 sy_po vb_po cl_po (1 : Int32)) (R_BOTTOM : own_str Z h0 sy_bo vb_bo cl_bo (1 : Int32)) (G_TOP : ¬ ((0 : Int32) < 0 ∨ cl_tp.slots.size ≤ (0 : Int32).toNatClampNeg) ∧ cl_tp.slots[(0 : Int32).toNatClampNeg]? = some (.int (84 : Int32))) (G_NEGATIVE : ¬ ((0 : Int32) < 0 ∨ cl_ng.slots.size ≤ (0 : Int32).toNatClampNeg) ∧ cl_ng.slots[(0 : Int32).toNatClampNeg]? = some (.int (45 : Int32))) (G_ZERO : ¬ ((0 : Int32) < 0 ∨ cl_ze.slots.size ≤ (0 : Int32).toNatClampNeg) ∧ cl_ze.slots[(0 : Int32).toNatClampNeg]? = some (.int (48 : Int32))) (G_POSITIVE : ¬ ((0 : Int32) < 0 ∨ cl_po.slots.size ≤ (0 : Int32).toNatClampNeg) ∧ cl_po.slots[(0 : Int32).toNatClampNeg]? = some (.int (43 : Int32))) (G_BOTTOM : ¬ ((0 : Int32) < 0 ∨ cl_bo.slots.size ≤ (0 : Int32).toNatClampNeg) ∧ cl_bo.slots[(0 : Int32).toNatClampNeg]? = some (.int (42 : Int32))) (D : own_diff tp ng ze po bo) (S_C : Sta Z h0 "java/lang/String" "COMPACT_STRINGS" "Z" (.int zc)) (P3 : ¬ zc = 0) (S_F : Sta Z h0 "jdk/internal/util/Preconditions" "SIOOBE_FORMATTER" "Ljava/util/function/BiFunction;" fv) (rF : fv.isRef = true) (ET : Exa Z h0 ta "java/lang/String") (CT : Fld Z h0 ta "java/lang/String" "coder" "B" (.int (0 : Int32))) (FT : Fld Z h0 ta "java/lang/String" "value" "[B" (.ref tb)) (VT : Arv Z h0 tb kT .byte (25 : Int32) [(.int (84 : Int32)), (.int (84 : Int32)), (.int (84 : Int32)), (.int (84 : Int32)), (.int (84 : Int32)), (.int (84 : Int32)), (.int (45 : Int32)), (.int (45 : Int32)), (.int (42 : Int32)), (.int (42 : Int32)), (.int (84 : Int32)), (.int (45 : Int32)), (.int (48 : Int32)), (.int (43 : Int32)), (.int (42 : Int32)), (.int (84 : Int32)), (.int (42 : Int32)), (.int (43 : Int32)), (.int (43 : Int32)), (.int (42 : Int32)), (.int (84 : Int32)), (.int (42 : Int32)), (.int (42 : Int32)), (.int (42 : Int32)), (.int (42 : Int32))] (.int (0 : Int32))) : Wp p e below s room_1.cells room_1.slots (fun v h L => v = some (.int 1) ∧ h = h0 ∧ L = []) T0 (mkF m 16 #[.val (.int x1), .val (.int x2), .val (.int ((x1 &&& (2147483647 : Int32)) % (5 : Int32))), .val (.int ((x2 &&& (2147483647 : Int32)) % (5 : Int32))), .unset, .unset, .unset, .unset, .unset, .unset] [(.ref ta)]) := by
  obtain ⟨d1, d2, d3, d4, d5, d6, d7, d8, d9, d10⟩ := D
  obtain ⟨clT, ArT, qkT, SzT, NnT, HaT, GfT⟩ := id VT
  have RT : own_str Z h0 ta tb clT (25 : Int32) := ⟨ET, CT, FT, ArT, len_of SzT NnT⟩
  rcases own_five x1 with hi | hi | hi | hi | hi
  · rw [hi]
    rcases own_five x2 with hj | hj | hj | hj | hj
    · rw [hj]
      refine w_astore X0 hx hby #[.val (.int x1), .val (.int x2), .val (.int (0 : Int32)), .val (.int (0 : Int32)), .val (.ref ta), .unset, .unset, .unset, .unset, .unset] n0_16 rfl rfl ?_
      refine w_aload X0 hx hby n0_18 rfl rfl ?_
      refine w_iloadN X0 hx hby n0_20 rfl ?_
      refine w_iconst X0 hx hby (5 : Int32) n0_21 rfl ?_
      refine w_imul X0 hx hby n0_22 ?_
      refine w_iloadN X0 hx hby n0_23 rfl ?_
      refine w_iadd X0 hx hby n0_24 ?_
      refine w_calledp (call_V X0 hx hby hZ hown (argsL := [(.int (((0 : Int32) * (5 : Int32)) + (0 : Int32)))]) (rest := []) (Wd := 0) (a := ta) (hw _ t_9) (hw _ t_10) (hw _ t_12) (hw _ t_11) (hw _ t_2) (hw _ t_13) (by decide) RT.1 (rCH l Z a0 hw ta tb clT (25 : Int32) (((0 : Int32) * (5 : Int32)) + (0 : Int32)) (84 : Int32) zc fv h0 RT S_C P3 S_F rF (by decide) (by decide) ⟨inb_of SzT ⟨by decide, by decide⟩, HaT.at (inb_of SzT ⟨by decide, by decide⟩) rfl⟩) rfl n0_25 (by rw [hml]; rfl) (lenOf pd_1903 rfl) rfl (by decide) (by decide) (by decide) (by decide) e0) rfl rfl fun T1 X1 e1 => ?_
      rw [show own_ch (84 : Int32) = (84 : Int32) from by decide]
      refine w_istore X1 hx hby #[.val (.int x1), .val (.int x2), .val (.int (0 : Int32)), .val (.int (0 : Int32)), .val (.ref ta), .val (.int (84 : Int32)), .unset, .unset, .unset, .unset] n0_28 rfl ?_
      refine w_iloadN X1 hx hby n0_30 rfl ?_
      refine w_calledp (call_S X1 hx hby hZ hown (argsL := [(.int (0 : Int32))]) (rest := []) (Wd := 0) (hw _ t_34) (hw _ t_35) (hw _ t_36) (hw _ t_37) (by decide) (rPK l Z a0 hw tp ng ze po bo (0 : Int32) h0 S_TOP S_NEGATIVE S_ZERO S_POSITIVE S_BOTTOM) rfl n0_31 (by rw [hml]; rfl) (lenOf pd_99499 rfl) rfl (by decide) (by decide) (by decide) (by decide) e1) rfl rfl fun T2 X2 e2 => ?_
      rw [show own_pk tp ng ze po bo (0 : Int32) = tp from by simp [own_pk]]
      refine w_astore X2 hx hby #[.val (.int x1), .val (.int x2), .val (.int (0 : Int32)), .val (.int (0 : Int32)), .val (.ref ta), .val (.int (84 : Int32)), .val (.ref tp), .unset, .unset, .unset] n0_34 rfl rfl ?_
      refine w_iloadN X2 hx hby n0_36 rfl ?_
      refine w_calledp (call_S X2 hx hby hZ hown (argsL := [(.int (0 : Int32))]) (rest := []) (Wd := 0) (hw _ t_34) (hw _ t_35) (hw _ t_36) (hw _ t_37) (by decide) (rPK l Z a0 hw tp ng ze po bo (0 : Int32) h0 S_TOP S_NEGATIVE S_ZERO S_POSITIVE S_BOTTOM) rfl n0_37 (by rw [hml]; rfl) (lenOf pd_99499 rfl) rfl (by decide) (by decide) (by decide) (by decide) e2) rfl rfl fun T3 X3 e3 => ?_
      rw [show own_pk tp ng ze po bo (0 : Int32) = tp from by simp [own_pk]]
      refine w_astore X3 hx hby #[.val (.int x1), .val (.int x2), .val (.int (0 : Int32)), .val (.int (0 : Int32)), .val (.ref ta), .val (.int (84 : Int32)), .val (.ref tp), .val (.ref tp), .unset, .unset] n0_40 rfl rfl ?_
      refine w_aload X3 hx hby n0_42 rfl rfl ?_
      refine w_aload X3 hx hby n0_44 rfl rfl ?_
      refine w_calledp (call_V X3 hx hby hZ hown (argsL := [(.ref tp)]) (rest := []) (Wd := 0) (a := tp) (hw _ t_43) (hw _ t_44) (hw _ t_46) (hw _ t_45) (hw _ t_39) (hw _ t_47) (by decide) E_TOP (rAD l Z a0 hw tp ng ze po bo tp tp h0 S_TOP S_NEGATIVE S_ZERO S_POSITIVE S_BOTTOM) rfl n0_46 (by rw [hml]; rfl) (lenOf pd_318983 rfl) rfl (by decide) (by decide) (by decide) (by decide) e3) rfl rfl fun T4 X4 e4 => ?_
      rw [show own_add tp ze bo tp tp = tp from by simp [own_add, d1, d1.symm, d2, d2.symm, d3, d3.symm, d4, d4.symm, d5, d5.symm, d6, d6.symm, d7, d7.symm, d8, d8.symm, d9, d9.symm, d10, d10.symm]]
      refine w_astore X4 hx hby #[.val (.int x1), .val (.int x2), .val (.int (0 : Int32)), .val (.int (0 : Int32)), .val (.ref ta), .val (.int (84 : Int32)), .val (.ref tp), .val (.ref tp), .val (.ref tp), .unset] n0_49 rfl rfl ?_
      refine w_aload X4 hx hby n0_51 rfl rfl ?_
      refine w_ifnonnullRef X4 hx hby n0_53 ?_
      refine w_aload X4 hx hby n0_58 rfl rfl ?_
      refine w_calledp (call_V X4 hx hby hZ hown (argsL := []) (rest := []) (Wd := 0) (a := tp) (hw _ t_49) (hw _ t_50) (hw _ t_52) (hw _ t_51) (hw _ t_39) (hw _ t_53) (by decide) E_TOP (rSY l Z a0 hw tp sy_tp h0 Y_TOP) rfl n0_60 (by rw [hml]; rfl) (lenOf pd_30311 rfl) rfl (by decide) (by decide) (by decide) (by decide) e4) rfl rfl fun T5 X5 e5 => ?_
      refine w_astore X5 hx hby #[.val (.int x1), .val (.int x2), .val (.int (0 : Int32)), .val (.int (0 : Int32)), .val (.ref ta), .val (.int (84 : Int32)), .val (.ref tp), .val (.ref tp), .val (.ref tp), .val (.ref sy_tp)] n0_63 rfl rfl ?_
      refine w_aload X5 hx hby n0_65 rfl rfl ?_
      refine w_calledp (call_V X5 hx hby hZ hown (argsL := []) (rest := []) (Wd := 0) (a := sy_tp) (hw _ t_56) (hw _ t_57) (hw _ t_59) (hw _ t_58) (hw _ t_2) (hw _ t_60) (by decide) R_TOP.1 (rLN l Z a0 hw sy_tp vb_tp cl_tp (1 : Int32) zc h0 R_TOP S_C P3) rfl n0_67 (by rw [hml]; rfl) (lenOf pd_1265 rfl) rfl (by decide) (by decide) (by decide) (by decide) e5) rfl rfl fun T6 X6 e6 => ?_
      rw [show own_len (1 : Int32) = (1 : Int32) from by decide]
      refine w_iconst X6 hx hby (1 : Int32) n0_70 rfl ?_
      refine f_icmp_ne X6 hx hby n0_71 (fun q71 => by exact absurd q71 (by decide)) (fun q71 => ?_)
      refine w_aload X6 hx hby n0_74 rfl rfl ?_
      refine w_iconst X6 hx hby (0 : Int32) n0_76 rfl ?_
      refine w_calledp (call_V X6 hx hby hZ hown (argsL := [(.int (0 : Int32))]) (rest := []) (Wd := 0) (a := sy_tp) (hw _ t_9) (hw _ t_10) (hw _ t_12) (hw _ t_11) (hw _ t_2) (hw _ t_13) (by decide) R_TOP.1 (rCH l Z a0 hw sy_tp vb_tp cl_tp (1 : Int32) (0 : Int32) (84 : Int32) zc fv h0 R_TOP S_C P3 S_F rF (by decide) (by decide) G_TOP) rfl n0_77 (by rw [hml]; rfl) (lenOf pd_1903 rfl) rfl (by decide) (by decide) (by decide) (by decide) e6) rfl rfl fun T7 X7 e7 => ?_
      rw [show own_ch (84 : Int32) = (84 : Int32) from by decide]
      refine w_iload X7 hx hby n0_80 rfl ?_
      refine f_icmp_ne X7 hx hby n0_82 (fun q82 => by exact absurd q82 (by decide)) (fun q82 => ?_)
      refine w_iconst X7 hx hby (1 : Int32) n0_85 rfl ?_
      refine w_goto X7 hx hby n0_86 ?_
      refine w_retN X7 hx hby e7 hlk hret (by simp) n0_90 (by decide) (by decide) ?_
      exact ⟨rfl, rfl, rfl⟩
    · rw [hj]
      refine w_astore X0 hx hby #[.val (.int x1), .val (.int x2), .val (.int (0 : Int32)), .val (.int (1 : Int32)), .val (.ref ta), .unset, .unset, .unset, .unset, .unset] n0_16 rfl rfl ?_
      refine w_aload X0 hx hby n0_18 rfl rfl ?_
      refine w_iloadN X0 hx hby n0_20 rfl ?_
      refine w_iconst X0 hx hby (5 : Int32) n0_21 rfl ?_
      refine w_imul X0 hx hby n0_22 ?_
      refine w_iloadN X0 hx hby n0_23 rfl ?_
      refine w_iadd X0 hx hby n0_24 ?_
      refine w_calledp (call_V X0 hx hby hZ hown (argsL := [(.int (((0 : Int32) * (5 : Int32)) + (1 : Int32)))]) (rest := []) (Wd := 0) (a := ta) (hw _ t_9) (hw _ t_10) (hw _ t_12) (hw _ t_11) (hw _ t_2) (hw _ t_13) (by decide) RT.1 (rCH l Z a0 hw ta tb clT (25 : Int32) (((0 : Int32) * (5 : Int32)) + (1 : Int32)) (84 : Int32) zc fv h0 RT S_C P3 S_F rF (by decide) (by decide) ⟨inb_of SzT ⟨by decide, by decide⟩, HaT.at (inb_of SzT ⟨by decide, by decide⟩) rfl⟩) rfl n0_25 (by rw [hml]; rfl) (lenOf pd_1903 rfl) rfl (by decide) (by decide) (by decide) (by decide) e0) rfl rfl fun T8 X8 e8 => ?_
      rw [show own_ch (84 : Int32) = (84 : Int32) from by decide]
      refine w_istore X8 hx hby #[.val (.int x1), .val (.int x2), .val (.int (0 : Int32)), .val (.int (1 : Int32)), .val (.ref ta), .val (.int (84 : Int32)), .unset, .unset, .unset, .unset] n0_28 rfl ?_
      refine w_iloadN X8 hx hby n0_30 rfl ?_
      refine w_calledp (call_S X8 hx hby hZ hown (argsL := [(.int (0 : Int32))]) (rest := []) (Wd := 0) (hw _ t_34) (hw _ t_35) (hw _ t_36) (hw _ t_37) (by decide) (rPK l Z a0 hw tp ng ze po bo (0 : Int32) h0 S_TOP S_NEGATIVE S_ZERO S_POSITIVE S_BOTTOM) rfl n0_31 (by rw [hml]; rfl) (lenOf pd_99499 rfl) rfl (by decide) (by decide) (by decide) (by decide) e8) rfl rfl fun T9 X9 e9 => ?_
      rw [show own_pk tp ng ze po bo (0 : Int32) = tp from by simp [own_pk]]
      refine w_astore X9 hx hby #[.val (.int x1), .val (.int x2), .val (.int (0 : Int32)), .val (.int (1 : Int32)), .val (.ref ta), .val (.int (84 : Int32)), .val (.ref tp), .unset, .unset, .unset] n0_34 rfl rfl ?_
      refine w_iloadN X9 hx hby n0_36 rfl ?_
      refine w_calledp (call_S X9 hx hby hZ hown (argsL := [(.int (1 : Int32))]) (rest := []) (Wd := 0) (hw _ t_34) (hw _ t_35) (hw _ t_36) (hw _ t_37) (by decide) (rPK l Z a0 hw tp ng ze po bo (1 : Int32) h0 S_TOP S_NEGATIVE S_ZERO S_POSITIVE S_BOTTOM) rfl n0_37 (by rw [hml]; rfl) (lenOf pd_99499 rfl) rfl (by decide) (by decide) (by decide) (by decide) e9) rfl rfl fun T10 X10 e10 => ?_
      rw [show own_pk tp ng ze po bo (1 : Int32) = ng from by simp [own_pk]]
      refine w_astore X10 hx hby #[.val (.int x1), .val (.int x2), .val (.int (0 : Int32)), .val (.int (1 : Int32)), .val (.ref ta), .val (.int (84 : Int32)), .val (.ref tp), .val (.ref ng), .unset, .unset] n0_40 rfl rfl ?_
      refine w_aload X10 hx hby n0_42 rfl rfl ?_
      refine w_aload X10 hx hby n0_44 rfl rfl ?_
      refine w_calledp (call_V X10 hx hby hZ hown (argsL := [(.ref ng)]) (rest := []) (Wd := 0) (a := tp) (hw _ t_43) (hw _ t_44) (hw _ t_46) (hw _ t_45) (hw _ t_39) (hw _ t_47) (by decide) E_TOP (rAD l Z a0 hw tp ng ze po bo tp ng h0 S_TOP S_NEGATIVE S_ZERO S_POSITIVE S_BOTTOM) rfl n0_46 (by rw [hml]; rfl) (lenOf pd_318983 rfl) rfl (by decide) (by decide) (by decide) (by decide) e10) rfl rfl fun T11 X11 e11 => ?_
      rw [show own_add tp ze bo tp ng = tp from by simp [own_add, d1, d1.symm, d2, d2.symm, d3, d3.symm, d4, d4.symm, d5, d5.symm, d6, d6.symm, d7, d7.symm, d8, d8.symm, d9, d9.symm, d10, d10.symm]]
      refine w_astore X11 hx hby #[.val (.int x1), .val (.int x2), .val (.int (0 : Int32)), .val (.int (1 : Int32)), .val (.ref ta), .val (.int (84 : Int32)), .val (.ref tp), .val (.ref ng), .val (.ref tp), .unset] n0_49 rfl rfl ?_
      refine w_aload X11 hx hby n0_51 rfl rfl ?_
      refine w_ifnonnullRef X11 hx hby n0_53 ?_
      refine w_aload X11 hx hby n0_58 rfl rfl ?_
      refine w_calledp (call_V X11 hx hby hZ hown (argsL := []) (rest := []) (Wd := 0) (a := tp) (hw _ t_49) (hw _ t_50) (hw _ t_52) (hw _ t_51) (hw _ t_39) (hw _ t_53) (by decide) E_TOP (rSY l Z a0 hw tp sy_tp h0 Y_TOP) rfl n0_60 (by rw [hml]; rfl) (lenOf pd_30311 rfl) rfl (by decide) (by decide) (by decide) (by decide) e11) rfl rfl fun T12 X12 e12 => ?_
      refine w_astore X12 hx hby #[.val (.int x1), .val (.int x2), .val (.int (0 : Int32)), .val (.int (1 : Int32)), .val (.ref ta), .val (.int (84 : Int32)), .val (.ref tp), .val (.ref ng), .val (.ref tp), .val (.ref sy_tp)] n0_63 rfl rfl ?_
      refine w_aload X12 hx hby n0_65 rfl rfl ?_
      refine w_calledp (call_V X12 hx hby hZ hown (argsL := []) (rest := []) (Wd := 0) (a := sy_tp) (hw _ t_56) (hw _ t_57) (hw _ t_59) (hw _ t_58) (hw _ t_2) (hw _ t_60) (by decide) R_TOP.1 (rLN l Z a0 hw sy_tp vb_tp cl_tp (1 : Int32) zc h0 R_TOP S_C P3) rfl n0_67 (by rw [hml]; rfl) (lenOf pd_1265 rfl) rfl (by decide) (by decide) (by decide) (by decide) e12) rfl rfl fun T13 X13 e13 => ?_
      rw [show own_len (1 : Int32) = (1 : Int32) from by decide]
      refine w_iconst X13 hx hby (1 : Int32) n0_70 rfl ?_
      refine f_icmp_ne X13 hx hby n0_71 (fun q71 => by exact absurd q71 (by decide)) (fun q71 => ?_)
      refine w_aload X13 hx hby n0_74 rfl rfl ?_
      refine w_iconst X13 hx hby (0 : Int32) n0_76 rfl ?_
      refine w_calledp (call_V X13 hx hby hZ hown (argsL := [(.int (0 : Int32))]) (rest := []) (Wd := 0) (a := sy_tp) (hw _ t_9) (hw _ t_10) (hw _ t_12) (hw _ t_11) (hw _ t_2) (hw _ t_13) (by decide) R_TOP.1 (rCH l Z a0 hw sy_tp vb_tp cl_tp (1 : Int32) (0 : Int32) (84 : Int32) zc fv h0 R_TOP S_C P3 S_F rF (by decide) (by decide) G_TOP) rfl n0_77 (by rw [hml]; rfl) (lenOf pd_1903 rfl) rfl (by decide) (by decide) (by decide) (by decide) e13) rfl rfl fun T14 X14 e14 => ?_
      rw [show own_ch (84 : Int32) = (84 : Int32) from by decide]
      refine w_iload X14 hx hby n0_80 rfl ?_
      refine f_icmp_ne X14 hx hby n0_82 (fun q82 => by exact absurd q82 (by decide)) (fun q82 => ?_)
      refine w_iconst X14 hx hby (1 : Int32) n0_85 rfl ?_
      refine w_goto X14 hx hby n0_86 ?_
      refine w_retN X14 hx hby e14 hlk hret (by simp) n0_90 (by decide) (by decide) ?_
      exact ⟨rfl, rfl, rfl⟩
    · rw [hj]
      refine w_astore X0 hx hby #[.val (.int x1), .val (.int x2), .val (.int (0 : Int32)), .val (.int (2 : Int32)), .val (.ref ta), .unset, .unset, .unset, .unset, .unset] n0_16 rfl rfl ?_
      refine w_aload X0 hx hby n0_18 rfl rfl ?_
      refine w_iloadN X0 hx hby n0_20 rfl ?_
      refine w_iconst X0 hx hby (5 : Int32) n0_21 rfl ?_
      refine w_imul X0 hx hby n0_22 ?_
      refine w_iloadN X0 hx hby n0_23 rfl ?_
      refine w_iadd X0 hx hby n0_24 ?_
      refine w_calledp (call_V X0 hx hby hZ hown (argsL := [(.int (((0 : Int32) * (5 : Int32)) + (2 : Int32)))]) (rest := []) (Wd := 0) (a := ta) (hw _ t_9) (hw _ t_10) (hw _ t_12) (hw _ t_11) (hw _ t_2) (hw _ t_13) (by decide) RT.1 (rCH l Z a0 hw ta tb clT (25 : Int32) (((0 : Int32) * (5 : Int32)) + (2 : Int32)) (84 : Int32) zc fv h0 RT S_C P3 S_F rF (by decide) (by decide) ⟨inb_of SzT ⟨by decide, by decide⟩, HaT.at (inb_of SzT ⟨by decide, by decide⟩) rfl⟩) rfl n0_25 (by rw [hml]; rfl) (lenOf pd_1903 rfl) rfl (by decide) (by decide) (by decide) (by decide) e0) rfl rfl fun T15 X15 e15 => ?_
      rw [show own_ch (84 : Int32) = (84 : Int32) from by decide]
      refine w_istore X15 hx hby #[.val (.int x1), .val (.int x2), .val (.int (0 : Int32)), .val (.int (2 : Int32)), .val (.ref ta), .val (.int (84 : Int32)), .unset, .unset, .unset, .unset] n0_28 rfl ?_
      refine w_iloadN X15 hx hby n0_30 rfl ?_
      refine w_calledp (call_S X15 hx hby hZ hown (argsL := [(.int (0 : Int32))]) (rest := []) (Wd := 0) (hw _ t_34) (hw _ t_35) (hw _ t_36) (hw _ t_37) (by decide) (rPK l Z a0 hw tp ng ze po bo (0 : Int32) h0 S_TOP S_NEGATIVE S_ZERO S_POSITIVE S_BOTTOM) rfl n0_31 (by rw [hml]; rfl) (lenOf pd_99499 rfl) rfl (by decide) (by decide) (by decide) (by decide) e15) rfl rfl fun T16 X16 e16 => ?_
      rw [show own_pk tp ng ze po bo (0 : Int32) = tp from by simp [own_pk]]
      refine w_astore X16 hx hby #[.val (.int x1), .val (.int x2), .val (.int (0 : Int32)), .val (.int (2 : Int32)), .val (.ref ta), .val (.int (84 : Int32)), .val (.ref tp), .unset, .unset, .unset] n0_34 rfl rfl ?_
      refine w_iloadN X16 hx hby n0_36 rfl ?_
      refine w_calledp (call_S X16 hx hby hZ hown (argsL := [(.int (2 : Int32))]) (rest := []) (Wd := 0) (hw _ t_34) (hw _ t_35) (hw _ t_36) (hw _ t_37) (by decide) (rPK l Z a0 hw tp ng ze po bo (2 : Int32) h0 S_TOP S_NEGATIVE S_ZERO S_POSITIVE S_BOTTOM) rfl n0_37 (by rw [hml]; rfl) (lenOf pd_99499 rfl) rfl (by decide) (by decide) (by decide) (by decide) e16) rfl rfl fun T17 X17 e17 => ?_
      rw [show own_pk tp ng ze po bo (2 : Int32) = ze from by simp [own_pk]]
      refine w_astore X17 hx hby #[.val (.int x1), .val (.int x2), .val (.int (0 : Int32)), .val (.int (2 : Int32)), .val (.ref ta), .val (.int (84 : Int32)), .val (.ref tp), .val (.ref ze), .unset, .unset] n0_40 rfl rfl ?_
      refine w_aload X17 hx hby n0_42 rfl rfl ?_
      refine w_aload X17 hx hby n0_44 rfl rfl ?_
      refine w_calledp (call_V X17 hx hby hZ hown (argsL := [(.ref ze)]) (rest := []) (Wd := 0) (a := tp) (hw _ t_43) (hw _ t_44) (hw _ t_46) (hw _ t_45) (hw _ t_39) (hw _ t_47) (by decide) E_TOP (rAD l Z a0 hw tp ng ze po bo tp ze h0 S_TOP S_NEGATIVE S_ZERO S_POSITIVE S_BOTTOM) rfl n0_46 (by rw [hml]; rfl) (lenOf pd_318983 rfl) rfl (by decide) (by decide) (by decide) (by decide) e17) rfl rfl fun T18 X18 e18 => ?_
      rw [show own_add tp ze bo tp ze = tp from by simp [own_add, d1, d1.symm, d2, d2.symm, d3, d3.symm, d4, d4.symm, d5, d5.symm, d6, d6.symm, d7, d7.symm, d8, d8.symm, d9, d9.symm, d10, d10.symm]]
      refine w_astore X18 hx hby #[.val (.int x1), .val (.int x2), .val (.int (0 : Int32)), .val (.int (2 : Int32)), .val (.ref ta), .val (.int (84 : Int32)), .val (.ref tp), .val (.ref ze), .val (.ref tp), .unset] n0_49 rfl rfl ?_
      refine w_aload X18 hx hby n0_51 rfl rfl ?_
      refine w_ifnonnullRef X18 hx hby n0_53 ?_
      refine w_aload X18 hx hby n0_58 rfl rfl ?_
      refine w_calledp (call_V X18 hx hby hZ hown (argsL := []) (rest := []) (Wd := 0) (a := tp) (hw _ t_49) (hw _ t_50) (hw _ t_52) (hw _ t_51) (hw _ t_39) (hw _ t_53) (by decide) E_TOP (rSY l Z a0 hw tp sy_tp h0 Y_TOP) rfl n0_60 (by rw [hml]; rfl) (lenOf pd_30311 rfl) rfl (by decide) (by decide) (by decide) (by decide) e18) rfl rfl fun T19 X19 e19 => ?_
      refine w_astore X19 hx hby #[.val (.int x1), .val (.int x2), .val (.int (0 : Int32)), .val (.int (2 : Int32)), .val (.ref ta), .val (.int (84 : Int32)), .val (.ref tp), .val (.ref ze), .val (.ref tp), .val (.ref sy_tp)] n0_63 rfl rfl ?_
      refine w_aload X19 hx hby n0_65 rfl rfl ?_
      refine w_calledp (call_V X19 hx hby hZ hown (argsL := []) (rest := []) (Wd := 0) (a := sy_tp) (hw _ t_56) (hw _ t_57) (hw _ t_59) (hw _ t_58) (hw _ t_2) (hw _ t_60) (by decide) R_TOP.1 (rLN l Z a0 hw sy_tp vb_tp cl_tp (1 : Int32) zc h0 R_TOP S_C P3) rfl n0_67 (by rw [hml]; rfl) (lenOf pd_1265 rfl) rfl (by decide) (by decide) (by decide) (by decide) e19) rfl rfl fun T20 X20 e20 => ?_
      rw [show own_len (1 : Int32) = (1 : Int32) from by decide]
      refine w_iconst X20 hx hby (1 : Int32) n0_70 rfl ?_
      refine f_icmp_ne X20 hx hby n0_71 (fun q71 => by exact absurd q71 (by decide)) (fun q71 => ?_)
      refine w_aload X20 hx hby n0_74 rfl rfl ?_
      refine w_iconst X20 hx hby (0 : Int32) n0_76 rfl ?_
      refine w_calledp (call_V X20 hx hby hZ hown (argsL := [(.int (0 : Int32))]) (rest := []) (Wd := 0) (a := sy_tp) (hw _ t_9) (hw _ t_10) (hw _ t_12) (hw _ t_11) (hw _ t_2) (hw _ t_13) (by decide) R_TOP.1 (rCH l Z a0 hw sy_tp vb_tp cl_tp (1 : Int32) (0 : Int32) (84 : Int32) zc fv h0 R_TOP S_C P3 S_F rF (by decide) (by decide) G_TOP) rfl n0_77 (by rw [hml]; rfl) (lenOf pd_1903 rfl) rfl (by decide) (by decide) (by decide) (by decide) e20) rfl rfl fun T21 X21 e21 => ?_
      rw [show own_ch (84 : Int32) = (84 : Int32) from by decide]
      refine w_iload X21 hx hby n0_80 rfl ?_
      refine f_icmp_ne X21 hx hby n0_82 (fun q82 => by exact absurd q82 (by decide)) (fun q82 => ?_)
      refine w_iconst X21 hx hby (1 : Int32) n0_85 rfl ?_
      refine w_goto X21 hx hby n0_86 ?_
      refine w_retN X21 hx hby e21 hlk hret (by simp) n0_90 (by decide) (by decide) ?_
      exact ⟨rfl, rfl, rfl⟩
    · rw [hj]
      refine w_astore X0 hx hby #[.val (.int x1), .val (.int x2), .val (.int (0 : Int32)), .val (.int (3 : Int32)), .val (.ref ta), .unset, .unset, .unset, .unset, .unset] n0_16 rfl rfl ?_
      refine w_aload X0 hx hby n0_18 rfl rfl ?_
      refine w_iloadN X0 hx hby n0_20 rfl ?_
      refine w_iconst X0 hx hby (5 : Int32) n0_21 rfl ?_
      refine w_imul X0 hx hby n0_22 ?_
      refine w_iloadN X0 hx hby n0_23 rfl ?_
      refine w_iadd X0 hx hby n0_24 ?_
      refine w_calledp (call_V X0 hx hby hZ hown (argsL := [(.int (((0 : Int32) * (5 : Int32)) + (3 : Int32)))]) (rest := []) (Wd := 0) (a := ta) (hw _ t_9) (hw _ t_10) (hw _ t_12) (hw _ t_11) (hw _ t_2) (hw _ t_13) (by decide) RT.1 (rCH l Z a0 hw ta tb clT (25 : Int32) (((0 : Int32) * (5 : Int32)) + (3 : Int32)) (84 : Int32) zc fv h0 RT S_C P3 S_F rF (by decide) (by decide) ⟨inb_of SzT ⟨by decide, by decide⟩, HaT.at (inb_of SzT ⟨by decide, by decide⟩) rfl⟩) rfl n0_25 (by rw [hml]; rfl) (lenOf pd_1903 rfl) rfl (by decide) (by decide) (by decide) (by decide) e0) rfl rfl fun T22 X22 e22 => ?_
      rw [show own_ch (84 : Int32) = (84 : Int32) from by decide]
      refine w_istore X22 hx hby #[.val (.int x1), .val (.int x2), .val (.int (0 : Int32)), .val (.int (3 : Int32)), .val (.ref ta), .val (.int (84 : Int32)), .unset, .unset, .unset, .unset] n0_28 rfl ?_
      refine w_iloadN X22 hx hby n0_30 rfl ?_
      refine w_calledp (call_S X22 hx hby hZ hown (argsL := [(.int (0 : Int32))]) (rest := []) (Wd := 0) (hw _ t_34) (hw _ t_35) (hw _ t_36) (hw _ t_37) (by decide) (rPK l Z a0 hw tp ng ze po bo (0 : Int32) h0 S_TOP S_NEGATIVE S_ZERO S_POSITIVE S_BOTTOM) rfl n0_31 (by rw [hml]; rfl) (lenOf pd_99499 rfl) rfl (by decide) (by decide) (by decide) (by decide) e22) rfl rfl fun T23 X23 e23 => ?_
      rw [show own_pk tp ng ze po bo (0 : Int32) = tp from by simp [own_pk]]
      refine w_astore X23 hx hby #[.val (.int x1), .val (.int x2), .val (.int (0 : Int32)), .val (.int (3 : Int32)), .val (.ref ta), .val (.int (84 : Int32)), .val (.ref tp), .unset, .unset, .unset] n0_34 rfl rfl ?_
      refine w_iloadN X23 hx hby n0_36 rfl ?_
      refine w_calledp (call_S X23 hx hby hZ hown (argsL := [(.int (3 : Int32))]) (rest := []) (Wd := 0) (hw _ t_34) (hw _ t_35) (hw _ t_36) (hw _ t_37) (by decide) (rPK l Z a0 hw tp ng ze po bo (3 : Int32) h0 S_TOP S_NEGATIVE S_ZERO S_POSITIVE S_BOTTOM) rfl n0_37 (by rw [hml]; rfl) (lenOf pd_99499 rfl) rfl (by decide) (by decide) (by decide) (by decide) e23) rfl rfl fun T24 X24 e24 => ?_
      rw [show own_pk tp ng ze po bo (3 : Int32) = po from by simp [own_pk]]
      refine w_astore X24 hx hby #[.val (.int x1), .val (.int x2), .val (.int (0 : Int32)), .val (.int (3 : Int32)), .val (.ref ta), .val (.int (84 : Int32)), .val (.ref tp), .val (.ref po), .unset, .unset] n0_40 rfl rfl ?_
      refine w_aload X24 hx hby n0_42 rfl rfl ?_
      refine w_aload X24 hx hby n0_44 rfl rfl ?_
      refine w_calledp (call_V X24 hx hby hZ hown (argsL := [(.ref po)]) (rest := []) (Wd := 0) (a := tp) (hw _ t_43) (hw _ t_44) (hw _ t_46) (hw _ t_45) (hw _ t_39) (hw _ t_47) (by decide) E_TOP (rAD l Z a0 hw tp ng ze po bo tp po h0 S_TOP S_NEGATIVE S_ZERO S_POSITIVE S_BOTTOM) rfl n0_46 (by rw [hml]; rfl) (lenOf pd_318983 rfl) rfl (by decide) (by decide) (by decide) (by decide) e24) rfl rfl fun T25 X25 e25 => ?_
      rw [show own_add tp ze bo tp po = tp from by simp [own_add, d1, d1.symm, d2, d2.symm, d3, d3.symm, d4, d4.symm, d5, d5.symm, d6, d6.symm, d7, d7.symm, d8, d8.symm, d9, d9.symm, d10, d10.symm]]
      refine w_astore X25 hx hby #[.val (.int x1), .val (.int x2), .val (.int (0 : Int32)), .val (.int (3 : Int32)), .val (.ref ta), .val (.int (84 : Int32)), .val (.ref tp), .val (.ref po), .val (.ref tp), .unset] n0_49 rfl rfl ?_
      refine w_aload X25 hx hby n0_51 rfl rfl ?_
      refine w_ifnonnullRef X25 hx hby n0_53 ?_
      refine w_aload X25 hx hby n0_58 rfl rfl ?_
      refine w_calledp (call_V X25 hx hby hZ hown (argsL := []) (rest := []) (Wd := 0) (a := tp) (hw _ t_49) (hw _ t_50) (hw _ t_52) (hw _ t_51) (hw _ t_39) (hw _ t_53) (by decide) E_TOP (rSY l Z a0 hw tp sy_tp h0 Y_TOP) rfl n0_60 (by rw [hml]; rfl) (lenOf pd_30311 rfl) rfl (by decide) (by decide) (by decide) (by decide) e25) rfl rfl fun T26 X26 e26 => ?_
      refine w_astore X26 hx hby #[.val (.int x1), .val (.int x2), .val (.int (0 : Int32)), .val (.int (3 : Int32)), .val (.ref ta), .val (.int (84 : Int32)), .val (.ref tp), .val (.ref po), .val (.ref tp), .val (.ref sy_tp)] n0_63 rfl rfl ?_
      refine w_aload X26 hx hby n0_65 rfl rfl ?_
      refine w_calledp (call_V X26 hx hby hZ hown (argsL := []) (rest := []) (Wd := 0) (a := sy_tp) (hw _ t_56) (hw _ t_57) (hw _ t_59) (hw _ t_58) (hw _ t_2) (hw _ t_60) (by decide) R_TOP.1 (rLN l Z a0 hw sy_tp vb_tp cl_tp (1 : Int32) zc h0 R_TOP S_C P3) rfl n0_67 (by rw [hml]; rfl) (lenOf pd_1265 rfl) rfl (by decide) (by decide) (by decide) (by decide) e26) rfl rfl fun T27 X27 e27 => ?_
      rw [show own_len (1 : Int32) = (1 : Int32) from by decide]
      refine w_iconst X27 hx hby (1 : Int32) n0_70 rfl ?_
      refine f_icmp_ne X27 hx hby n0_71 (fun q71 => by exact absurd q71 (by decide)) (fun q71 => ?_)
      refine w_aload X27 hx hby n0_74 rfl rfl ?_
      refine w_iconst X27 hx hby (0 : Int32) n0_76 rfl ?_
      refine w_calledp (call_V X27 hx hby hZ hown (argsL := [(.int (0 : Int32))]) (rest := []) (Wd := 0) (a := sy_tp) (hw _ t_9) (hw _ t_10) (hw _ t_12) (hw _ t_11) (hw _ t_2) (hw _ t_13) (by decide) R_TOP.1 (rCH l Z a0 hw sy_tp vb_tp cl_tp (1 : Int32) (0 : Int32) (84 : Int32) zc fv h0 R_TOP S_C P3 S_F rF (by decide) (by decide) G_TOP) rfl n0_77 (by rw [hml]; rfl) (lenOf pd_1903 rfl) rfl (by decide) (by decide) (by decide) (by decide) e27) rfl rfl fun T28 X28 e28 => ?_
      rw [show own_ch (84 : Int32) = (84 : Int32) from by decide]
      refine w_iload X28 hx hby n0_80 rfl ?_
      refine f_icmp_ne X28 hx hby n0_82 (fun q82 => by exact absurd q82 (by decide)) (fun q82 => ?_)
      refine w_iconst X28 hx hby (1 : Int32) n0_85 rfl ?_
      refine w_goto X28 hx hby n0_86 ?_
      refine w_retN X28 hx hby e28 hlk hret (by simp) n0_90 (by decide) (by decide) ?_
      exact ⟨rfl, rfl, rfl⟩
    · rw [hj]
      refine w_astore X0 hx hby #[.val (.int x1), .val (.int x2), .val (.int (0 : Int32)), .val (.int (4 : Int32)), .val (.ref ta), .unset, .unset, .unset, .unset, .unset] n0_16 rfl rfl ?_
      refine w_aload X0 hx hby n0_18 rfl rfl ?_
      refine w_iloadN X0 hx hby n0_20 rfl ?_
      refine w_iconst X0 hx hby (5 : Int32) n0_21 rfl ?_
      refine w_imul X0 hx hby n0_22 ?_
      refine w_iloadN X0 hx hby n0_23 rfl ?_
      refine w_iadd X0 hx hby n0_24 ?_
      refine w_calledp (call_V X0 hx hby hZ hown (argsL := [(.int (((0 : Int32) * (5 : Int32)) + (4 : Int32)))]) (rest := []) (Wd := 0) (a := ta) (hw _ t_9) (hw _ t_10) (hw _ t_12) (hw _ t_11) (hw _ t_2) (hw _ t_13) (by decide) RT.1 (rCH l Z a0 hw ta tb clT (25 : Int32) (((0 : Int32) * (5 : Int32)) + (4 : Int32)) (84 : Int32) zc fv h0 RT S_C P3 S_F rF (by decide) (by decide) ⟨inb_of SzT ⟨by decide, by decide⟩, HaT.at (inb_of SzT ⟨by decide, by decide⟩) rfl⟩) rfl n0_25 (by rw [hml]; rfl) (lenOf pd_1903 rfl) rfl (by decide) (by decide) (by decide) (by decide) e0) rfl rfl fun T29 X29 e29 => ?_
      rw [show own_ch (84 : Int32) = (84 : Int32) from by decide]
      refine w_istore X29 hx hby #[.val (.int x1), .val (.int x2), .val (.int (0 : Int32)), .val (.int (4 : Int32)), .val (.ref ta), .val (.int (84 : Int32)), .unset, .unset, .unset, .unset] n0_28 rfl ?_
      refine w_iloadN X29 hx hby n0_30 rfl ?_
      refine w_calledp (call_S X29 hx hby hZ hown (argsL := [(.int (0 : Int32))]) (rest := []) (Wd := 0) (hw _ t_34) (hw _ t_35) (hw _ t_36) (hw _ t_37) (by decide) (rPK l Z a0 hw tp ng ze po bo (0 : Int32) h0 S_TOP S_NEGATIVE S_ZERO S_POSITIVE S_BOTTOM) rfl n0_31 (by rw [hml]; rfl) (lenOf pd_99499 rfl) rfl (by decide) (by decide) (by decide) (by decide) e29) rfl rfl fun T30 X30 e30 => ?_
      rw [show own_pk tp ng ze po bo (0 : Int32) = tp from by simp [own_pk]]
      refine w_astore X30 hx hby #[.val (.int x1), .val (.int x2), .val (.int (0 : Int32)), .val (.int (4 : Int32)), .val (.ref ta), .val (.int (84 : Int32)), .val (.ref tp), .unset, .unset, .unset] n0_34 rfl rfl ?_
      refine w_iloadN X30 hx hby n0_36 rfl ?_
      refine w_calledp (call_S X30 hx hby hZ hown (argsL := [(.int (4 : Int32))]) (rest := []) (Wd := 0) (hw _ t_34) (hw _ t_35) (hw _ t_36) (hw _ t_37) (by decide) (rPK l Z a0 hw tp ng ze po bo (4 : Int32) h0 S_TOP S_NEGATIVE S_ZERO S_POSITIVE S_BOTTOM) rfl n0_37 (by rw [hml]; rfl) (lenOf pd_99499 rfl) rfl (by decide) (by decide) (by decide) (by decide) e30) rfl rfl fun T31 X31 e31 => ?_
      rw [show own_pk tp ng ze po bo (4 : Int32) = bo from by simp [own_pk]]
      refine w_astore X31 hx hby #[.val (.int x1), .val (.int x2), .val (.int (0 : Int32)), .val (.int (4 : Int32)), .val (.ref ta), .val (.int (84 : Int32)), .val (.ref tp), .val (.ref bo), .unset, .unset] n0_40 rfl rfl ?_
      refine w_aload X31 hx hby n0_42 rfl rfl ?_
      refine w_aload X31 hx hby n0_44 rfl rfl ?_
      refine w_calledp (call_V X31 hx hby hZ hown (argsL := [(.ref bo)]) (rest := []) (Wd := 0) (a := tp) (hw _ t_43) (hw _ t_44) (hw _ t_46) (hw _ t_45) (hw _ t_39) (hw _ t_47) (by decide) E_TOP (rAD l Z a0 hw tp ng ze po bo tp bo h0 S_TOP S_NEGATIVE S_ZERO S_POSITIVE S_BOTTOM) rfl n0_46 (by rw [hml]; rfl) (lenOf pd_318983 rfl) rfl (by decide) (by decide) (by decide) (by decide) e31) rfl rfl fun T32 X32 e32 => ?_
      rw [show own_add tp ze bo tp bo = tp from by simp [own_add, d1, d1.symm, d2, d2.symm, d3, d3.symm, d4, d4.symm, d5, d5.symm, d6, d6.symm, d7, d7.symm, d8, d8.symm, d9, d9.symm, d10, d10.symm]]
      refine w_astore X32 hx hby #[.val (.int x1), .val (.int x2), .val (.int (0 : Int32)), .val (.int (4 : Int32)), .val (.ref ta), .val (.int (84 : Int32)), .val (.ref tp), .val (.ref bo), .val (.ref tp), .unset] n0_49 rfl rfl ?_
      refine w_aload X32 hx hby n0_51 rfl rfl ?_
      refine w_ifnonnullRef X32 hx hby n0_53 ?_
      refine w_aload X32 hx hby n0_58 rfl rfl ?_
      refine w_calledp (call_V X32 hx hby hZ hown (argsL := []) (rest := []) (Wd := 0) (a := tp) (hw _ t_49) (hw _ t_50) (hw _ t_52) (hw _ t_51) (hw _ t_39) (hw _ t_53) (by decide) E_TOP (rSY l Z a0 hw tp sy_tp h0 Y_TOP) rfl n0_60 (by rw [hml]; rfl) (lenOf pd_30311 rfl) rfl (by decide) (by decide) (by decide) (by decide) e32) rfl rfl fun T33 X33 e33 => ?_
      refine w_astore X33 hx hby #[.val (.int x1), .val (.int x2), .val (.int (0 : Int32)), .val (.int (4 : Int32)), .val (.ref ta), .val (.int (84 : Int32)), .val (.ref tp), .val (.ref bo), .val (.ref tp), .val (.ref sy_tp)] n0_63 rfl rfl ?_
      refine w_aload X33 hx hby n0_65 rfl rfl ?_
      refine w_calledp (call_V X33 hx hby hZ hown (argsL := []) (rest := []) (Wd := 0) (a := sy_tp) (hw _ t_56) (hw _ t_57) (hw _ t_59) (hw _ t_58) (hw _ t_2) (hw _ t_60) (by decide) R_TOP.1 (rLN l Z a0 hw sy_tp vb_tp cl_tp (1 : Int32) zc h0 R_TOP S_C P3) rfl n0_67 (by rw [hml]; rfl) (lenOf pd_1265 rfl) rfl (by decide) (by decide) (by decide) (by decide) e33) rfl rfl fun T34 X34 e34 => ?_
      rw [show own_len (1 : Int32) = (1 : Int32) from by decide]
      refine w_iconst X34 hx hby (1 : Int32) n0_70 rfl ?_
      refine f_icmp_ne X34 hx hby n0_71 (fun q71 => by exact absurd q71 (by decide)) (fun q71 => ?_)
      refine w_aload X34 hx hby n0_74 rfl rfl ?_
      refine w_iconst X34 hx hby (0 : Int32) n0_76 rfl ?_
      refine w_calledp (call_V X34 hx hby hZ hown (argsL := [(.int (0 : Int32))]) (rest := []) (Wd := 0) (a := sy_tp) (hw _ t_9) (hw _ t_10) (hw _ t_12) (hw _ t_11) (hw _ t_2) (hw _ t_13) (by decide) R_TOP.1 (rCH l Z a0 hw sy_tp vb_tp cl_tp (1 : Int32) (0 : Int32) (84 : Int32) zc fv h0 R_TOP S_C P3 S_F rF (by decide) (by decide) G_TOP) rfl n0_77 (by rw [hml]; rfl) (lenOf pd_1903 rfl) rfl (by decide) (by decide) (by decide) (by decide) e34) rfl rfl fun T35 X35 e35 => ?_
      rw [show own_ch (84 : Int32) = (84 : Int32) from by decide]
      refine w_iload X35 hx hby n0_80 rfl ?_
      refine f_icmp_ne X35 hx hby n0_82 (fun q82 => by exact absurd q82 (by decide)) (fun q82 => ?_)
      refine w_iconst X35 hx hby (1 : Int32) n0_85 rfl ?_
      refine w_goto X35 hx hby n0_86 ?_
      refine w_retN X35 hx hby e35 hlk hret (by simp) n0_90 (by decide) (by decide) ?_
      exact ⟨rfl, rfl, rfl⟩
  · rw [hi]
    rcases own_five x2 with hj | hj | hj | hj | hj
    · rw [hj]
      refine w_astore X0 hx hby #[.val (.int x1), .val (.int x2), .val (.int (1 : Int32)), .val (.int (0 : Int32)), .val (.ref ta), .unset, .unset, .unset, .unset, .unset] n0_16 rfl rfl ?_
      refine w_aload X0 hx hby n0_18 rfl rfl ?_
      refine w_iloadN X0 hx hby n0_20 rfl ?_
      refine w_iconst X0 hx hby (5 : Int32) n0_21 rfl ?_
      refine w_imul X0 hx hby n0_22 ?_
      refine w_iloadN X0 hx hby n0_23 rfl ?_
      refine w_iadd X0 hx hby n0_24 ?_
      refine w_calledp (call_V X0 hx hby hZ hown (argsL := [(.int (((1 : Int32) * (5 : Int32)) + (0 : Int32)))]) (rest := []) (Wd := 0) (a := ta) (hw _ t_9) (hw _ t_10) (hw _ t_12) (hw _ t_11) (hw _ t_2) (hw _ t_13) (by decide) RT.1 (rCH l Z a0 hw ta tb clT (25 : Int32) (((1 : Int32) * (5 : Int32)) + (0 : Int32)) (84 : Int32) zc fv h0 RT S_C P3 S_F rF (by decide) (by decide) ⟨inb_of SzT ⟨by decide, by decide⟩, HaT.at (inb_of SzT ⟨by decide, by decide⟩) rfl⟩) rfl n0_25 (by rw [hml]; rfl) (lenOf pd_1903 rfl) rfl (by decide) (by decide) (by decide) (by decide) e0) rfl rfl fun T36 X36 e36 => ?_
      rw [show own_ch (84 : Int32) = (84 : Int32) from by decide]
      refine w_istore X36 hx hby #[.val (.int x1), .val (.int x2), .val (.int (1 : Int32)), .val (.int (0 : Int32)), .val (.ref ta), .val (.int (84 : Int32)), .unset, .unset, .unset, .unset] n0_28 rfl ?_
      refine w_iloadN X36 hx hby n0_30 rfl ?_
      refine w_calledp (call_S X36 hx hby hZ hown (argsL := [(.int (1 : Int32))]) (rest := []) (Wd := 0) (hw _ t_34) (hw _ t_35) (hw _ t_36) (hw _ t_37) (by decide) (rPK l Z a0 hw tp ng ze po bo (1 : Int32) h0 S_TOP S_NEGATIVE S_ZERO S_POSITIVE S_BOTTOM) rfl n0_31 (by rw [hml]; rfl) (lenOf pd_99499 rfl) rfl (by decide) (by decide) (by decide) (by decide) e36) rfl rfl fun T37 X37 e37 => ?_
      rw [show own_pk tp ng ze po bo (1 : Int32) = ng from by simp [own_pk]]
      refine w_astore X37 hx hby #[.val (.int x1), .val (.int x2), .val (.int (1 : Int32)), .val (.int (0 : Int32)), .val (.ref ta), .val (.int (84 : Int32)), .val (.ref ng), .unset, .unset, .unset] n0_34 rfl rfl ?_
      refine w_iloadN X37 hx hby n0_36 rfl ?_
      refine w_calledp (call_S X37 hx hby hZ hown (argsL := [(.int (0 : Int32))]) (rest := []) (Wd := 0) (hw _ t_34) (hw _ t_35) (hw _ t_36) (hw _ t_37) (by decide) (rPK l Z a0 hw tp ng ze po bo (0 : Int32) h0 S_TOP S_NEGATIVE S_ZERO S_POSITIVE S_BOTTOM) rfl n0_37 (by rw [hml]; rfl) (lenOf pd_99499 rfl) rfl (by decide) (by decide) (by decide) (by decide) e37) rfl rfl fun T38 X38 e38 => ?_
      rw [show own_pk tp ng ze po bo (0 : Int32) = tp from by simp [own_pk]]
      refine w_astore X38 hx hby #[.val (.int x1), .val (.int x2), .val (.int (1 : Int32)), .val (.int (0 : Int32)), .val (.ref ta), .val (.int (84 : Int32)), .val (.ref ng), .val (.ref tp), .unset, .unset] n0_40 rfl rfl ?_
      refine w_aload X38 hx hby n0_42 rfl rfl ?_
      refine w_aload X38 hx hby n0_44 rfl rfl ?_
      refine w_calledp (call_V X38 hx hby hZ hown (argsL := [(.ref tp)]) (rest := []) (Wd := 0) (a := ng) (hw _ t_43) (hw _ t_44) (hw _ t_46) (hw _ t_45) (hw _ t_39) (hw _ t_47) (by decide) E_NEGATIVE (rAD l Z a0 hw tp ng ze po bo ng tp h0 S_TOP S_NEGATIVE S_ZERO S_POSITIVE S_BOTTOM) rfl n0_46 (by rw [hml]; rfl) (lenOf pd_318983 rfl) rfl (by decide) (by decide) (by decide) (by decide) e38) rfl rfl fun T39 X39 e39 => ?_
      rw [show own_add tp ze bo ng tp = tp from by simp [own_add, d1, d1.symm, d2, d2.symm, d3, d3.symm, d4, d4.symm, d5, d5.symm, d6, d6.symm, d7, d7.symm, d8, d8.symm, d9, d9.symm, d10, d10.symm]]
      refine w_astore X39 hx hby #[.val (.int x1), .val (.int x2), .val (.int (1 : Int32)), .val (.int (0 : Int32)), .val (.ref ta), .val (.int (84 : Int32)), .val (.ref ng), .val (.ref tp), .val (.ref tp), .unset] n0_49 rfl rfl ?_
      refine w_aload X39 hx hby n0_51 rfl rfl ?_
      refine w_ifnonnullRef X39 hx hby n0_53 ?_
      refine w_aload X39 hx hby n0_58 rfl rfl ?_
      refine w_calledp (call_V X39 hx hby hZ hown (argsL := []) (rest := []) (Wd := 0) (a := tp) (hw _ t_49) (hw _ t_50) (hw _ t_52) (hw _ t_51) (hw _ t_39) (hw _ t_53) (by decide) E_TOP (rSY l Z a0 hw tp sy_tp h0 Y_TOP) rfl n0_60 (by rw [hml]; rfl) (lenOf pd_30311 rfl) rfl (by decide) (by decide) (by decide) (by decide) e39) rfl rfl fun T40 X40 e40 => ?_
      refine w_astore X40 hx hby #[.val (.int x1), .val (.int x2), .val (.int (1 : Int32)), .val (.int (0 : Int32)), .val (.ref ta), .val (.int (84 : Int32)), .val (.ref ng), .val (.ref tp), .val (.ref tp), .val (.ref sy_tp)] n0_63 rfl rfl ?_
      refine w_aload X40 hx hby n0_65 rfl rfl ?_
      refine w_calledp (call_V X40 hx hby hZ hown (argsL := []) (rest := []) (Wd := 0) (a := sy_tp) (hw _ t_56) (hw _ t_57) (hw _ t_59) (hw _ t_58) (hw _ t_2) (hw _ t_60) (by decide) R_TOP.1 (rLN l Z a0 hw sy_tp vb_tp cl_tp (1 : Int32) zc h0 R_TOP S_C P3) rfl n0_67 (by rw [hml]; rfl) (lenOf pd_1265 rfl) rfl (by decide) (by decide) (by decide) (by decide) e40) rfl rfl fun T41 X41 e41 => ?_
      rw [show own_len (1 : Int32) = (1 : Int32) from by decide]
      refine w_iconst X41 hx hby (1 : Int32) n0_70 rfl ?_
      refine f_icmp_ne X41 hx hby n0_71 (fun q71 => by exact absurd q71 (by decide)) (fun q71 => ?_)
      refine w_aload X41 hx hby n0_74 rfl rfl ?_
      refine w_iconst X41 hx hby (0 : Int32) n0_76 rfl ?_
      refine w_calledp (call_V X41 hx hby hZ hown (argsL := [(.int (0 : Int32))]) (rest := []) (Wd := 0) (a := sy_tp) (hw _ t_9) (hw _ t_10) (hw _ t_12) (hw _ t_11) (hw _ t_2) (hw _ t_13) (by decide) R_TOP.1 (rCH l Z a0 hw sy_tp vb_tp cl_tp (1 : Int32) (0 : Int32) (84 : Int32) zc fv h0 R_TOP S_C P3 S_F rF (by decide) (by decide) G_TOP) rfl n0_77 (by rw [hml]; rfl) (lenOf pd_1903 rfl) rfl (by decide) (by decide) (by decide) (by decide) e41) rfl rfl fun T42 X42 e42 => ?_
      rw [show own_ch (84 : Int32) = (84 : Int32) from by decide]
      refine w_iload X42 hx hby n0_80 rfl ?_
      refine f_icmp_ne X42 hx hby n0_82 (fun q82 => by exact absurd q82 (by decide)) (fun q82 => ?_)
      refine w_iconst X42 hx hby (1 : Int32) n0_85 rfl ?_
      refine w_goto X42 hx hby n0_86 ?_
      refine w_retN X42 hx hby e42 hlk hret (by simp) n0_90 (by decide) (by decide) ?_
      exact ⟨rfl, rfl, rfl⟩
    · rw [hj]
      refine w_astore X0 hx hby #[.val (.int x1), .val (.int x2), .val (.int (1 : Int32)), .val (.int (1 : Int32)), .val (.ref ta), .unset, .unset, .unset, .unset, .unset] n0_16 rfl rfl ?_
      refine w_aload X0 hx hby n0_18 rfl rfl ?_
      refine w_iloadN X0 hx hby n0_20 rfl ?_
      refine w_iconst X0 hx hby (5 : Int32) n0_21 rfl ?_
      refine w_imul X0 hx hby n0_22 ?_
      refine w_iloadN X0 hx hby n0_23 rfl ?_
      refine w_iadd X0 hx hby n0_24 ?_
      refine w_calledp (call_V X0 hx hby hZ hown (argsL := [(.int (((1 : Int32) * (5 : Int32)) + (1 : Int32)))]) (rest := []) (Wd := 0) (a := ta) (hw _ t_9) (hw _ t_10) (hw _ t_12) (hw _ t_11) (hw _ t_2) (hw _ t_13) (by decide) RT.1 (rCH l Z a0 hw ta tb clT (25 : Int32) (((1 : Int32) * (5 : Int32)) + (1 : Int32)) (45 : Int32) zc fv h0 RT S_C P3 S_F rF (by decide) (by decide) ⟨inb_of SzT ⟨by decide, by decide⟩, HaT.at (inb_of SzT ⟨by decide, by decide⟩) rfl⟩) rfl n0_25 (by rw [hml]; rfl) (lenOf pd_1903 rfl) rfl (by decide) (by decide) (by decide) (by decide) e0) rfl rfl fun T43 X43 e43 => ?_
      rw [show own_ch (45 : Int32) = (45 : Int32) from by decide]
      refine w_istore X43 hx hby #[.val (.int x1), .val (.int x2), .val (.int (1 : Int32)), .val (.int (1 : Int32)), .val (.ref ta), .val (.int (45 : Int32)), .unset, .unset, .unset, .unset] n0_28 rfl ?_
      refine w_iloadN X43 hx hby n0_30 rfl ?_
      refine w_calledp (call_S X43 hx hby hZ hown (argsL := [(.int (1 : Int32))]) (rest := []) (Wd := 0) (hw _ t_34) (hw _ t_35) (hw _ t_36) (hw _ t_37) (by decide) (rPK l Z a0 hw tp ng ze po bo (1 : Int32) h0 S_TOP S_NEGATIVE S_ZERO S_POSITIVE S_BOTTOM) rfl n0_31 (by rw [hml]; rfl) (lenOf pd_99499 rfl) rfl (by decide) (by decide) (by decide) (by decide) e43) rfl rfl fun T44 X44 e44 => ?_
      rw [show own_pk tp ng ze po bo (1 : Int32) = ng from by simp [own_pk]]
      refine w_astore X44 hx hby #[.val (.int x1), .val (.int x2), .val (.int (1 : Int32)), .val (.int (1 : Int32)), .val (.ref ta), .val (.int (45 : Int32)), .val (.ref ng), .unset, .unset, .unset] n0_34 rfl rfl ?_
      refine w_iloadN X44 hx hby n0_36 rfl ?_
      refine w_calledp (call_S X44 hx hby hZ hown (argsL := [(.int (1 : Int32))]) (rest := []) (Wd := 0) (hw _ t_34) (hw _ t_35) (hw _ t_36) (hw _ t_37) (by decide) (rPK l Z a0 hw tp ng ze po bo (1 : Int32) h0 S_TOP S_NEGATIVE S_ZERO S_POSITIVE S_BOTTOM) rfl n0_37 (by rw [hml]; rfl) (lenOf pd_99499 rfl) rfl (by decide) (by decide) (by decide) (by decide) e44) rfl rfl fun T45 X45 e45 => ?_
      rw [show own_pk tp ng ze po bo (1 : Int32) = ng from by simp [own_pk]]
      refine w_astore X45 hx hby #[.val (.int x1), .val (.int x2), .val (.int (1 : Int32)), .val (.int (1 : Int32)), .val (.ref ta), .val (.int (45 : Int32)), .val (.ref ng), .val (.ref ng), .unset, .unset] n0_40 rfl rfl ?_
      refine w_aload X45 hx hby n0_42 rfl rfl ?_
      refine w_aload X45 hx hby n0_44 rfl rfl ?_
      refine w_calledp (call_V X45 hx hby hZ hown (argsL := [(.ref ng)]) (rest := []) (Wd := 0) (a := ng) (hw _ t_43) (hw _ t_44) (hw _ t_46) (hw _ t_45) (hw _ t_39) (hw _ t_47) (by decide) E_NEGATIVE (rAD l Z a0 hw tp ng ze po bo ng ng h0 S_TOP S_NEGATIVE S_ZERO S_POSITIVE S_BOTTOM) rfl n0_46 (by rw [hml]; rfl) (lenOf pd_318983 rfl) rfl (by decide) (by decide) (by decide) (by decide) e45) rfl rfl fun T46 X46 e46 => ?_
      rw [show own_add tp ze bo ng ng = ng from by simp [own_add, d1, d1.symm, d2, d2.symm, d3, d3.symm, d4, d4.symm, d5, d5.symm, d6, d6.symm, d7, d7.symm, d8, d8.symm, d9, d9.symm, d10, d10.symm]]
      refine w_astore X46 hx hby #[.val (.int x1), .val (.int x2), .val (.int (1 : Int32)), .val (.int (1 : Int32)), .val (.ref ta), .val (.int (45 : Int32)), .val (.ref ng), .val (.ref ng), .val (.ref ng), .unset] n0_49 rfl rfl ?_
      refine w_aload X46 hx hby n0_51 rfl rfl ?_
      refine w_ifnonnullRef X46 hx hby n0_53 ?_
      refine w_aload X46 hx hby n0_58 rfl rfl ?_
      refine w_calledp (call_V X46 hx hby hZ hown (argsL := []) (rest := []) (Wd := 0) (a := ng) (hw _ t_49) (hw _ t_50) (hw _ t_52) (hw _ t_51) (hw _ t_39) (hw _ t_53) (by decide) E_NEGATIVE (rSY l Z a0 hw ng sy_ng h0 Y_NEGATIVE) rfl n0_60 (by rw [hml]; rfl) (lenOf pd_30311 rfl) rfl (by decide) (by decide) (by decide) (by decide) e46) rfl rfl fun T47 X47 e47 => ?_
      refine w_astore X47 hx hby #[.val (.int x1), .val (.int x2), .val (.int (1 : Int32)), .val (.int (1 : Int32)), .val (.ref ta), .val (.int (45 : Int32)), .val (.ref ng), .val (.ref ng), .val (.ref ng), .val (.ref sy_ng)] n0_63 rfl rfl ?_
      refine w_aload X47 hx hby n0_65 rfl rfl ?_
      refine w_calledp (call_V X47 hx hby hZ hown (argsL := []) (rest := []) (Wd := 0) (a := sy_ng) (hw _ t_56) (hw _ t_57) (hw _ t_59) (hw _ t_58) (hw _ t_2) (hw _ t_60) (by decide) R_NEGATIVE.1 (rLN l Z a0 hw sy_ng vb_ng cl_ng (1 : Int32) zc h0 R_NEGATIVE S_C P3) rfl n0_67 (by rw [hml]; rfl) (lenOf pd_1265 rfl) rfl (by decide) (by decide) (by decide) (by decide) e47) rfl rfl fun T48 X48 e48 => ?_
      rw [show own_len (1 : Int32) = (1 : Int32) from by decide]
      refine w_iconst X48 hx hby (1 : Int32) n0_70 rfl ?_
      refine f_icmp_ne X48 hx hby n0_71 (fun q71 => by exact absurd q71 (by decide)) (fun q71 => ?_)
      refine w_aload X48 hx hby n0_74 rfl rfl ?_
      refine w_iconst X48 hx hby (0 : Int32) n0_76 rfl ?_
      refine w_calledp (call_V X48 hx hby hZ hown (argsL := [(.int (0 : Int32))]) (rest := []) (Wd := 0) (a := sy_ng) (hw _ t_9) (hw _ t_10) (hw _ t_12) (hw _ t_11) (hw _ t_2) (hw _ t_13) (by decide) R_NEGATIVE.1 (rCH l Z a0 hw sy_ng vb_ng cl_ng (1 : Int32) (0 : Int32) (45 : Int32) zc fv h0 R_NEGATIVE S_C P3 S_F rF (by decide) (by decide) G_NEGATIVE) rfl n0_77 (by rw [hml]; rfl) (lenOf pd_1903 rfl) rfl (by decide) (by decide) (by decide) (by decide) e48) rfl rfl fun T49 X49 e49 => ?_
      rw [show own_ch (45 : Int32) = (45 : Int32) from by decide]
      refine w_iload X49 hx hby n0_80 rfl ?_
      refine f_icmp_ne X49 hx hby n0_82 (fun q82 => by exact absurd q82 (by decide)) (fun q82 => ?_)
      refine w_iconst X49 hx hby (1 : Int32) n0_85 rfl ?_
      refine w_goto X49 hx hby n0_86 ?_
      refine w_retN X49 hx hby e49 hlk hret (by simp) n0_90 (by decide) (by decide) ?_
      exact ⟨rfl, rfl, rfl⟩
    · rw [hj]
      refine w_astore X0 hx hby #[.val (.int x1), .val (.int x2), .val (.int (1 : Int32)), .val (.int (2 : Int32)), .val (.ref ta), .unset, .unset, .unset, .unset, .unset] n0_16 rfl rfl ?_
      refine w_aload X0 hx hby n0_18 rfl rfl ?_
      refine w_iloadN X0 hx hby n0_20 rfl ?_
      refine w_iconst X0 hx hby (5 : Int32) n0_21 rfl ?_
      refine w_imul X0 hx hby n0_22 ?_
      refine w_iloadN X0 hx hby n0_23 rfl ?_
      refine w_iadd X0 hx hby n0_24 ?_
      refine w_calledp (call_V X0 hx hby hZ hown (argsL := [(.int (((1 : Int32) * (5 : Int32)) + (2 : Int32)))]) (rest := []) (Wd := 0) (a := ta) (hw _ t_9) (hw _ t_10) (hw _ t_12) (hw _ t_11) (hw _ t_2) (hw _ t_13) (by decide) RT.1 (rCH l Z a0 hw ta tb clT (25 : Int32) (((1 : Int32) * (5 : Int32)) + (2 : Int32)) (45 : Int32) zc fv h0 RT S_C P3 S_F rF (by decide) (by decide) ⟨inb_of SzT ⟨by decide, by decide⟩, HaT.at (inb_of SzT ⟨by decide, by decide⟩) rfl⟩) rfl n0_25 (by rw [hml]; rfl) (lenOf pd_1903 rfl) rfl (by decide) (by decide) (by decide) (by decide) e0) rfl rfl fun T50 X50 e50 => ?_
      rw [show own_ch (45 : Int32) = (45 : Int32) from by decide]
      refine w_istore X50 hx hby #[.val (.int x1), .val (.int x2), .val (.int (1 : Int32)), .val (.int (2 : Int32)), .val (.ref ta), .val (.int (45 : Int32)), .unset, .unset, .unset, .unset] n0_28 rfl ?_
      refine w_iloadN X50 hx hby n0_30 rfl ?_
      refine w_calledp (call_S X50 hx hby hZ hown (argsL := [(.int (1 : Int32))]) (rest := []) (Wd := 0) (hw _ t_34) (hw _ t_35) (hw _ t_36) (hw _ t_37) (by decide) (rPK l Z a0 hw tp ng ze po bo (1 : Int32) h0 S_TOP S_NEGATIVE S_ZERO S_POSITIVE S_BOTTOM) rfl n0_31 (by rw [hml]; rfl) (lenOf pd_99499 rfl) rfl (by decide) (by decide) (by decide) (by decide) e50) rfl rfl fun T51 X51 e51 => ?_
      rw [show own_pk tp ng ze po bo (1 : Int32) = ng from by simp [own_pk]]
      refine w_astore X51 hx hby #[.val (.int x1), .val (.int x2), .val (.int (1 : Int32)), .val (.int (2 : Int32)), .val (.ref ta), .val (.int (45 : Int32)), .val (.ref ng), .unset, .unset, .unset] n0_34 rfl rfl ?_
      refine w_iloadN X51 hx hby n0_36 rfl ?_
      refine w_calledp (call_S X51 hx hby hZ hown (argsL := [(.int (2 : Int32))]) (rest := []) (Wd := 0) (hw _ t_34) (hw _ t_35) (hw _ t_36) (hw _ t_37) (by decide) (rPK l Z a0 hw tp ng ze po bo (2 : Int32) h0 S_TOP S_NEGATIVE S_ZERO S_POSITIVE S_BOTTOM) rfl n0_37 (by rw [hml]; rfl) (lenOf pd_99499 rfl) rfl (by decide) (by decide) (by decide) (by decide) e51) rfl rfl fun T52 X52 e52 => ?_
      rw [show own_pk tp ng ze po bo (2 : Int32) = ze from by simp [own_pk]]
      refine w_astore X52 hx hby #[.val (.int x1), .val (.int x2), .val (.int (1 : Int32)), .val (.int (2 : Int32)), .val (.ref ta), .val (.int (45 : Int32)), .val (.ref ng), .val (.ref ze), .unset, .unset] n0_40 rfl rfl ?_
      refine w_aload X52 hx hby n0_42 rfl rfl ?_
      refine w_aload X52 hx hby n0_44 rfl rfl ?_
      refine w_calledp (call_V X52 hx hby hZ hown (argsL := [(.ref ze)]) (rest := []) (Wd := 0) (a := ng) (hw _ t_43) (hw _ t_44) (hw _ t_46) (hw _ t_45) (hw _ t_39) (hw _ t_47) (by decide) E_NEGATIVE (rAD l Z a0 hw tp ng ze po bo ng ze h0 S_TOP S_NEGATIVE S_ZERO S_POSITIVE S_BOTTOM) rfl n0_46 (by rw [hml]; rfl) (lenOf pd_318983 rfl) rfl (by decide) (by decide) (by decide) (by decide) e52) rfl rfl fun T53 X53 e53 => ?_
      rw [show own_add tp ze bo ng ze = ng from by simp [own_add, d1, d1.symm, d2, d2.symm, d3, d3.symm, d4, d4.symm, d5, d5.symm, d6, d6.symm, d7, d7.symm, d8, d8.symm, d9, d9.symm, d10, d10.symm]]
      refine w_astore X53 hx hby #[.val (.int x1), .val (.int x2), .val (.int (1 : Int32)), .val (.int (2 : Int32)), .val (.ref ta), .val (.int (45 : Int32)), .val (.ref ng), .val (.ref ze), .val (.ref ng), .unset] n0_49 rfl rfl ?_
      refine w_aload X53 hx hby n0_51 rfl rfl ?_
      refine w_ifnonnullRef X53 hx hby n0_53 ?_
      refine w_aload X53 hx hby n0_58 rfl rfl ?_
      refine w_calledp (call_V X53 hx hby hZ hown (argsL := []) (rest := []) (Wd := 0) (a := ng) (hw _ t_49) (hw _ t_50) (hw _ t_52) (hw _ t_51) (hw _ t_39) (hw _ t_53) (by decide) E_NEGATIVE (rSY l Z a0 hw ng sy_ng h0 Y_NEGATIVE) rfl n0_60 (by rw [hml]; rfl) (lenOf pd_30311 rfl) rfl (by decide) (by decide) (by decide) (by decide) e53) rfl rfl fun T54 X54 e54 => ?_
      refine w_astore X54 hx hby #[.val (.int x1), .val (.int x2), .val (.int (1 : Int32)), .val (.int (2 : Int32)), .val (.ref ta), .val (.int (45 : Int32)), .val (.ref ng), .val (.ref ze), .val (.ref ng), .val (.ref sy_ng)] n0_63 rfl rfl ?_
      refine w_aload X54 hx hby n0_65 rfl rfl ?_
      refine w_calledp (call_V X54 hx hby hZ hown (argsL := []) (rest := []) (Wd := 0) (a := sy_ng) (hw _ t_56) (hw _ t_57) (hw _ t_59) (hw _ t_58) (hw _ t_2) (hw _ t_60) (by decide) R_NEGATIVE.1 (rLN l Z a0 hw sy_ng vb_ng cl_ng (1 : Int32) zc h0 R_NEGATIVE S_C P3) rfl n0_67 (by rw [hml]; rfl) (lenOf pd_1265 rfl) rfl (by decide) (by decide) (by decide) (by decide) e54) rfl rfl fun T55 X55 e55 => ?_
      rw [show own_len (1 : Int32) = (1 : Int32) from by decide]
      refine w_iconst X55 hx hby (1 : Int32) n0_70 rfl ?_
      refine f_icmp_ne X55 hx hby n0_71 (fun q71 => by exact absurd q71 (by decide)) (fun q71 => ?_)
      refine w_aload X55 hx hby n0_74 rfl rfl ?_
      refine w_iconst X55 hx hby (0 : Int32) n0_76 rfl ?_
      refine w_calledp (call_V X55 hx hby hZ hown (argsL := [(.int (0 : Int32))]) (rest := []) (Wd := 0) (a := sy_ng) (hw _ t_9) (hw _ t_10) (hw _ t_12) (hw _ t_11) (hw _ t_2) (hw _ t_13) (by decide) R_NEGATIVE.1 (rCH l Z a0 hw sy_ng vb_ng cl_ng (1 : Int32) (0 : Int32) (45 : Int32) zc fv h0 R_NEGATIVE S_C P3 S_F rF (by decide) (by decide) G_NEGATIVE) rfl n0_77 (by rw [hml]; rfl) (lenOf pd_1903 rfl) rfl (by decide) (by decide) (by decide) (by decide) e55) rfl rfl fun T56 X56 e56 => ?_
      rw [show own_ch (45 : Int32) = (45 : Int32) from by decide]
      refine w_iload X56 hx hby n0_80 rfl ?_
      refine f_icmp_ne X56 hx hby n0_82 (fun q82 => by exact absurd q82 (by decide)) (fun q82 => ?_)
      refine w_iconst X56 hx hby (1 : Int32) n0_85 rfl ?_
      refine w_goto X56 hx hby n0_86 ?_
      refine w_retN X56 hx hby e56 hlk hret (by simp) n0_90 (by decide) (by decide) ?_
      exact ⟨rfl, rfl, rfl⟩
    · rw [hj]
      refine w_astore X0 hx hby #[.val (.int x1), .val (.int x2), .val (.int (1 : Int32)), .val (.int (3 : Int32)), .val (.ref ta), .unset, .unset, .unset, .unset, .unset] n0_16 rfl rfl ?_
      refine w_aload X0 hx hby n0_18 rfl rfl ?_
      refine w_iloadN X0 hx hby n0_20 rfl ?_
      refine w_iconst X0 hx hby (5 : Int32) n0_21 rfl ?_
      refine w_imul X0 hx hby n0_22 ?_
      refine w_iloadN X0 hx hby n0_23 rfl ?_
      refine w_iadd X0 hx hby n0_24 ?_
      refine w_calledp (call_V X0 hx hby hZ hown (argsL := [(.int (((1 : Int32) * (5 : Int32)) + (3 : Int32)))]) (rest := []) (Wd := 0) (a := ta) (hw _ t_9) (hw _ t_10) (hw _ t_12) (hw _ t_11) (hw _ t_2) (hw _ t_13) (by decide) RT.1 (rCH l Z a0 hw ta tb clT (25 : Int32) (((1 : Int32) * (5 : Int32)) + (3 : Int32)) (42 : Int32) zc fv h0 RT S_C P3 S_F rF (by decide) (by decide) ⟨inb_of SzT ⟨by decide, by decide⟩, HaT.at (inb_of SzT ⟨by decide, by decide⟩) rfl⟩) rfl n0_25 (by rw [hml]; rfl) (lenOf pd_1903 rfl) rfl (by decide) (by decide) (by decide) (by decide) e0) rfl rfl fun T57 X57 e57 => ?_
      rw [show own_ch (42 : Int32) = (42 : Int32) from by decide]
      refine w_istore X57 hx hby #[.val (.int x1), .val (.int x2), .val (.int (1 : Int32)), .val (.int (3 : Int32)), .val (.ref ta), .val (.int (42 : Int32)), .unset, .unset, .unset, .unset] n0_28 rfl ?_
      refine w_iloadN X57 hx hby n0_30 rfl ?_
      refine w_calledp (call_S X57 hx hby hZ hown (argsL := [(.int (1 : Int32))]) (rest := []) (Wd := 0) (hw _ t_34) (hw _ t_35) (hw _ t_36) (hw _ t_37) (by decide) (rPK l Z a0 hw tp ng ze po bo (1 : Int32) h0 S_TOP S_NEGATIVE S_ZERO S_POSITIVE S_BOTTOM) rfl n0_31 (by rw [hml]; rfl) (lenOf pd_99499 rfl) rfl (by decide) (by decide) (by decide) (by decide) e57) rfl rfl fun T58 X58 e58 => ?_
      rw [show own_pk tp ng ze po bo (1 : Int32) = ng from by simp [own_pk]]
      refine w_astore X58 hx hby #[.val (.int x1), .val (.int x2), .val (.int (1 : Int32)), .val (.int (3 : Int32)), .val (.ref ta), .val (.int (42 : Int32)), .val (.ref ng), .unset, .unset, .unset] n0_34 rfl rfl ?_
      refine w_iloadN X58 hx hby n0_36 rfl ?_
      refine w_calledp (call_S X58 hx hby hZ hown (argsL := [(.int (3 : Int32))]) (rest := []) (Wd := 0) (hw _ t_34) (hw _ t_35) (hw _ t_36) (hw _ t_37) (by decide) (rPK l Z a0 hw tp ng ze po bo (3 : Int32) h0 S_TOP S_NEGATIVE S_ZERO S_POSITIVE S_BOTTOM) rfl n0_37 (by rw [hml]; rfl) (lenOf pd_99499 rfl) rfl (by decide) (by decide) (by decide) (by decide) e58) rfl rfl fun T59 X59 e59 => ?_
      rw [show own_pk tp ng ze po bo (3 : Int32) = po from by simp [own_pk]]
      refine w_astore X59 hx hby #[.val (.int x1), .val (.int x2), .val (.int (1 : Int32)), .val (.int (3 : Int32)), .val (.ref ta), .val (.int (42 : Int32)), .val (.ref ng), .val (.ref po), .unset, .unset] n0_40 rfl rfl ?_
      refine w_aload X59 hx hby n0_42 rfl rfl ?_
      refine w_aload X59 hx hby n0_44 rfl rfl ?_
      refine w_calledp (call_V X59 hx hby hZ hown (argsL := [(.ref po)]) (rest := []) (Wd := 0) (a := ng) (hw _ t_43) (hw _ t_44) (hw _ t_46) (hw _ t_45) (hw _ t_39) (hw _ t_47) (by decide) E_NEGATIVE (rAD l Z a0 hw tp ng ze po bo ng po h0 S_TOP S_NEGATIVE S_ZERO S_POSITIVE S_BOTTOM) rfl n0_46 (by rw [hml]; rfl) (lenOf pd_318983 rfl) rfl (by decide) (by decide) (by decide) (by decide) e59) rfl rfl fun T60 X60 e60 => ?_
      rw [show own_add tp ze bo ng po = bo from by simp [own_add, d1, d1.symm, d2, d2.symm, d3, d3.symm, d4, d4.symm, d5, d5.symm, d6, d6.symm, d7, d7.symm, d8, d8.symm, d9, d9.symm, d10, d10.symm]]
      refine w_astore X60 hx hby #[.val (.int x1), .val (.int x2), .val (.int (1 : Int32)), .val (.int (3 : Int32)), .val (.ref ta), .val (.int (42 : Int32)), .val (.ref ng), .val (.ref po), .val (.ref bo), .unset] n0_49 rfl rfl ?_
      refine w_aload X60 hx hby n0_51 rfl rfl ?_
      refine w_ifnonnullRef X60 hx hby n0_53 ?_
      refine w_aload X60 hx hby n0_58 rfl rfl ?_
      refine w_calledp (call_V X60 hx hby hZ hown (argsL := []) (rest := []) (Wd := 0) (a := bo) (hw _ t_49) (hw _ t_50) (hw _ t_52) (hw _ t_51) (hw _ t_39) (hw _ t_53) (by decide) E_BOTTOM (rSY l Z a0 hw bo sy_bo h0 Y_BOTTOM) rfl n0_60 (by rw [hml]; rfl) (lenOf pd_30311 rfl) rfl (by decide) (by decide) (by decide) (by decide) e60) rfl rfl fun T61 X61 e61 => ?_
      refine w_astore X61 hx hby #[.val (.int x1), .val (.int x2), .val (.int (1 : Int32)), .val (.int (3 : Int32)), .val (.ref ta), .val (.int (42 : Int32)), .val (.ref ng), .val (.ref po), .val (.ref bo), .val (.ref sy_bo)] n0_63 rfl rfl ?_
      refine w_aload X61 hx hby n0_65 rfl rfl ?_
      refine w_calledp (call_V X61 hx hby hZ hown (argsL := []) (rest := []) (Wd := 0) (a := sy_bo) (hw _ t_56) (hw _ t_57) (hw _ t_59) (hw _ t_58) (hw _ t_2) (hw _ t_60) (by decide) R_BOTTOM.1 (rLN l Z a0 hw sy_bo vb_bo cl_bo (1 : Int32) zc h0 R_BOTTOM S_C P3) rfl n0_67 (by rw [hml]; rfl) (lenOf pd_1265 rfl) rfl (by decide) (by decide) (by decide) (by decide) e61) rfl rfl fun T62 X62 e62 => ?_
      rw [show own_len (1 : Int32) = (1 : Int32) from by decide]
      refine w_iconst X62 hx hby (1 : Int32) n0_70 rfl ?_
      refine f_icmp_ne X62 hx hby n0_71 (fun q71 => by exact absurd q71 (by decide)) (fun q71 => ?_)
      refine w_aload X62 hx hby n0_74 rfl rfl ?_
      refine w_iconst X62 hx hby (0 : Int32) n0_76 rfl ?_
      refine w_calledp (call_V X62 hx hby hZ hown (argsL := [(.int (0 : Int32))]) (rest := []) (Wd := 0) (a := sy_bo) (hw _ t_9) (hw _ t_10) (hw _ t_12) (hw _ t_11) (hw _ t_2) (hw _ t_13) (by decide) R_BOTTOM.1 (rCH l Z a0 hw sy_bo vb_bo cl_bo (1 : Int32) (0 : Int32) (42 : Int32) zc fv h0 R_BOTTOM S_C P3 S_F rF (by decide) (by decide) G_BOTTOM) rfl n0_77 (by rw [hml]; rfl) (lenOf pd_1903 rfl) rfl (by decide) (by decide) (by decide) (by decide) e62) rfl rfl fun T63 X63 e63 => ?_
      rw [show own_ch (42 : Int32) = (42 : Int32) from by decide]
      refine w_iload X63 hx hby n0_80 rfl ?_
      refine f_icmp_ne X63 hx hby n0_82 (fun q82 => by exact absurd q82 (by decide)) (fun q82 => ?_)
      refine w_iconst X63 hx hby (1 : Int32) n0_85 rfl ?_
      refine w_goto X63 hx hby n0_86 ?_
      refine w_retN X63 hx hby e63 hlk hret (by simp) n0_90 (by decide) (by decide) ?_
      exact ⟨rfl, rfl, rfl⟩
    · rw [hj]
      refine w_astore X0 hx hby #[.val (.int x1), .val (.int x2), .val (.int (1 : Int32)), .val (.int (4 : Int32)), .val (.ref ta), .unset, .unset, .unset, .unset, .unset] n0_16 rfl rfl ?_
      refine w_aload X0 hx hby n0_18 rfl rfl ?_
      refine w_iloadN X0 hx hby n0_20 rfl ?_
      refine w_iconst X0 hx hby (5 : Int32) n0_21 rfl ?_
      refine w_imul X0 hx hby n0_22 ?_
      refine w_iloadN X0 hx hby n0_23 rfl ?_
      refine w_iadd X0 hx hby n0_24 ?_
      refine w_calledp (call_V X0 hx hby hZ hown (argsL := [(.int (((1 : Int32) * (5 : Int32)) + (4 : Int32)))]) (rest := []) (Wd := 0) (a := ta) (hw _ t_9) (hw _ t_10) (hw _ t_12) (hw _ t_11) (hw _ t_2) (hw _ t_13) (by decide) RT.1 (rCH l Z a0 hw ta tb clT (25 : Int32) (((1 : Int32) * (5 : Int32)) + (4 : Int32)) (42 : Int32) zc fv h0 RT S_C P3 S_F rF (by decide) (by decide) ⟨inb_of SzT ⟨by decide, by decide⟩, HaT.at (inb_of SzT ⟨by decide, by decide⟩) rfl⟩) rfl n0_25 (by rw [hml]; rfl) (lenOf pd_1903 rfl) rfl (by decide) (by decide) (by decide) (by decide) e0) rfl rfl fun T64 X64 e64 => ?_
      rw [show own_ch (42 : Int32) = (42 : Int32) from by decide]
      refine w_istore X64 hx hby #[.val (.int x1), .val (.int x2), .val (.int (1 : Int32)), .val (.int (4 : Int32)), .val (.ref ta), .val (.int (42 : Int32)), .unset, .unset, .unset, .unset] n0_28 rfl ?_
      refine w_iloadN X64 hx hby n0_30 rfl ?_
      refine w_calledp (call_S X64 hx hby hZ hown (argsL := [(.int (1 : Int32))]) (rest := []) (Wd := 0) (hw _ t_34) (hw _ t_35) (hw _ t_36) (hw _ t_37) (by decide) (rPK l Z a0 hw tp ng ze po bo (1 : Int32) h0 S_TOP S_NEGATIVE S_ZERO S_POSITIVE S_BOTTOM) rfl n0_31 (by rw [hml]; rfl) (lenOf pd_99499 rfl) rfl (by decide) (by decide) (by decide) (by decide) e64) rfl rfl fun T65 X65 e65 => ?_
      rw [show own_pk tp ng ze po bo (1 : Int32) = ng from by simp [own_pk]]
      refine w_astore X65 hx hby #[.val (.int x1), .val (.int x2), .val (.int (1 : Int32)), .val (.int (4 : Int32)), .val (.ref ta), .val (.int (42 : Int32)), .val (.ref ng), .unset, .unset, .unset] n0_34 rfl rfl ?_
      refine w_iloadN X65 hx hby n0_36 rfl ?_
      refine w_calledp (call_S X65 hx hby hZ hown (argsL := [(.int (4 : Int32))]) (rest := []) (Wd := 0) (hw _ t_34) (hw _ t_35) (hw _ t_36) (hw _ t_37) (by decide) (rPK l Z a0 hw tp ng ze po bo (4 : Int32) h0 S_TOP S_NEGATIVE S_ZERO S_POSITIVE S_BOTTOM) rfl n0_37 (by rw [hml]; rfl) (lenOf pd_99499 rfl) rfl (by decide) (by decide) (by decide) (by decide) e65) rfl rfl fun T66 X66 e66 => ?_
      rw [show own_pk tp ng ze po bo (4 : Int32) = bo from by simp [own_pk]]
      refine w_astore X66 hx hby #[.val (.int x1), .val (.int x2), .val (.int (1 : Int32)), .val (.int (4 : Int32)), .val (.ref ta), .val (.int (42 : Int32)), .val (.ref ng), .val (.ref bo), .unset, .unset] n0_40 rfl rfl ?_
      refine w_aload X66 hx hby n0_42 rfl rfl ?_
      refine w_aload X66 hx hby n0_44 rfl rfl ?_
      refine w_calledp (call_V X66 hx hby hZ hown (argsL := [(.ref bo)]) (rest := []) (Wd := 0) (a := ng) (hw _ t_43) (hw _ t_44) (hw _ t_46) (hw _ t_45) (hw _ t_39) (hw _ t_47) (by decide) E_NEGATIVE (rAD l Z a0 hw tp ng ze po bo ng bo h0 S_TOP S_NEGATIVE S_ZERO S_POSITIVE S_BOTTOM) rfl n0_46 (by rw [hml]; rfl) (lenOf pd_318983 rfl) rfl (by decide) (by decide) (by decide) (by decide) e66) rfl rfl fun T67 X67 e67 => ?_
      rw [show own_add tp ze bo ng bo = bo from by simp [own_add, d1, d1.symm, d2, d2.symm, d3, d3.symm, d4, d4.symm, d5, d5.symm, d6, d6.symm, d7, d7.symm, d8, d8.symm, d9, d9.symm, d10, d10.symm]]
      refine w_astore X67 hx hby #[.val (.int x1), .val (.int x2), .val (.int (1 : Int32)), .val (.int (4 : Int32)), .val (.ref ta), .val (.int (42 : Int32)), .val (.ref ng), .val (.ref bo), .val (.ref bo), .unset] n0_49 rfl rfl ?_
      refine w_aload X67 hx hby n0_51 rfl rfl ?_
      refine w_ifnonnullRef X67 hx hby n0_53 ?_
      refine w_aload X67 hx hby n0_58 rfl rfl ?_
      refine w_calledp (call_V X67 hx hby hZ hown (argsL := []) (rest := []) (Wd := 0) (a := bo) (hw _ t_49) (hw _ t_50) (hw _ t_52) (hw _ t_51) (hw _ t_39) (hw _ t_53) (by decide) E_BOTTOM (rSY l Z a0 hw bo sy_bo h0 Y_BOTTOM) rfl n0_60 (by rw [hml]; rfl) (lenOf pd_30311 rfl) rfl (by decide) (by decide) (by decide) (by decide) e67) rfl rfl fun T68 X68 e68 => ?_
      refine w_astore X68 hx hby #[.val (.int x1), .val (.int x2), .val (.int (1 : Int32)), .val (.int (4 : Int32)), .val (.ref ta), .val (.int (42 : Int32)), .val (.ref ng), .val (.ref bo), .val (.ref bo), .val (.ref sy_bo)] n0_63 rfl rfl ?_
      refine w_aload X68 hx hby n0_65 rfl rfl ?_
      refine w_calledp (call_V X68 hx hby hZ hown (argsL := []) (rest := []) (Wd := 0) (a := sy_bo) (hw _ t_56) (hw _ t_57) (hw _ t_59) (hw _ t_58) (hw _ t_2) (hw _ t_60) (by decide) R_BOTTOM.1 (rLN l Z a0 hw sy_bo vb_bo cl_bo (1 : Int32) zc h0 R_BOTTOM S_C P3) rfl n0_67 (by rw [hml]; rfl) (lenOf pd_1265 rfl) rfl (by decide) (by decide) (by decide) (by decide) e68) rfl rfl fun T69 X69 e69 => ?_
      rw [show own_len (1 : Int32) = (1 : Int32) from by decide]
      refine w_iconst X69 hx hby (1 : Int32) n0_70 rfl ?_
      refine f_icmp_ne X69 hx hby n0_71 (fun q71 => by exact absurd q71 (by decide)) (fun q71 => ?_)
      refine w_aload X69 hx hby n0_74 rfl rfl ?_
      refine w_iconst X69 hx hby (0 : Int32) n0_76 rfl ?_
      refine w_calledp (call_V X69 hx hby hZ hown (argsL := [(.int (0 : Int32))]) (rest := []) (Wd := 0) (a := sy_bo) (hw _ t_9) (hw _ t_10) (hw _ t_12) (hw _ t_11) (hw _ t_2) (hw _ t_13) (by decide) R_BOTTOM.1 (rCH l Z a0 hw sy_bo vb_bo cl_bo (1 : Int32) (0 : Int32) (42 : Int32) zc fv h0 R_BOTTOM S_C P3 S_F rF (by decide) (by decide) G_BOTTOM) rfl n0_77 (by rw [hml]; rfl) (lenOf pd_1903 rfl) rfl (by decide) (by decide) (by decide) (by decide) e69) rfl rfl fun T70 X70 e70 => ?_
      rw [show own_ch (42 : Int32) = (42 : Int32) from by decide]
      refine w_iload X70 hx hby n0_80 rfl ?_
      refine f_icmp_ne X70 hx hby n0_82 (fun q82 => by exact absurd q82 (by decide)) (fun q82 => ?_)
      refine w_iconst X70 hx hby (1 : Int32) n0_85 rfl ?_
      refine w_goto X70 hx hby n0_86 ?_
      refine w_retN X70 hx hby e70 hlk hret (by simp) n0_90 (by decide) (by decide) ?_
      exact ⟨rfl, rfl, rfl⟩
  · rw [hi]
    rcases own_five x2 with hj | hj | hj | hj | hj
    · rw [hj]
      refine w_astore X0 hx hby #[.val (.int x1), .val (.int x2), .val (.int (2 : Int32)), .val (.int (0 : Int32)), .val (.ref ta), .unset, .unset, .unset, .unset, .unset] n0_16 rfl rfl ?_
      refine w_aload X0 hx hby n0_18 rfl rfl ?_
      refine w_iloadN X0 hx hby n0_20 rfl ?_
      refine w_iconst X0 hx hby (5 : Int32) n0_21 rfl ?_
      refine w_imul X0 hx hby n0_22 ?_
      refine w_iloadN X0 hx hby n0_23 rfl ?_
      refine w_iadd X0 hx hby n0_24 ?_
      refine w_calledp (call_V X0 hx hby hZ hown (argsL := [(.int (((2 : Int32) * (5 : Int32)) + (0 : Int32)))]) (rest := []) (Wd := 0) (a := ta) (hw _ t_9) (hw _ t_10) (hw _ t_12) (hw _ t_11) (hw _ t_2) (hw _ t_13) (by decide) RT.1 (rCH l Z a0 hw ta tb clT (25 : Int32) (((2 : Int32) * (5 : Int32)) + (0 : Int32)) (84 : Int32) zc fv h0 RT S_C P3 S_F rF (by decide) (by decide) ⟨inb_of SzT ⟨by decide, by decide⟩, HaT.at (inb_of SzT ⟨by decide, by decide⟩) rfl⟩) rfl n0_25 (by rw [hml]; rfl) (lenOf pd_1903 rfl) rfl (by decide) (by decide) (by decide) (by decide) e0) rfl rfl fun T71 X71 e71 => ?_
      rw [show own_ch (84 : Int32) = (84 : Int32) from by decide]
      refine w_istore X71 hx hby #[.val (.int x1), .val (.int x2), .val (.int (2 : Int32)), .val (.int (0 : Int32)), .val (.ref ta), .val (.int (84 : Int32)), .unset, .unset, .unset, .unset] n0_28 rfl ?_
      refine w_iloadN X71 hx hby n0_30 rfl ?_
      refine w_calledp (call_S X71 hx hby hZ hown (argsL := [(.int (2 : Int32))]) (rest := []) (Wd := 0) (hw _ t_34) (hw _ t_35) (hw _ t_36) (hw _ t_37) (by decide) (rPK l Z a0 hw tp ng ze po bo (2 : Int32) h0 S_TOP S_NEGATIVE S_ZERO S_POSITIVE S_BOTTOM) rfl n0_31 (by rw [hml]; rfl) (lenOf pd_99499 rfl) rfl (by decide) (by decide) (by decide) (by decide) e71) rfl rfl fun T72 X72 e72 => ?_
      rw [show own_pk tp ng ze po bo (2 : Int32) = ze from by simp [own_pk]]
      refine w_astore X72 hx hby #[.val (.int x1), .val (.int x2), .val (.int (2 : Int32)), .val (.int (0 : Int32)), .val (.ref ta), .val (.int (84 : Int32)), .val (.ref ze), .unset, .unset, .unset] n0_34 rfl rfl ?_
      refine w_iloadN X72 hx hby n0_36 rfl ?_
      refine w_calledp (call_S X72 hx hby hZ hown (argsL := [(.int (0 : Int32))]) (rest := []) (Wd := 0) (hw _ t_34) (hw _ t_35) (hw _ t_36) (hw _ t_37) (by decide) (rPK l Z a0 hw tp ng ze po bo (0 : Int32) h0 S_TOP S_NEGATIVE S_ZERO S_POSITIVE S_BOTTOM) rfl n0_37 (by rw [hml]; rfl) (lenOf pd_99499 rfl) rfl (by decide) (by decide) (by decide) (by decide) e72) rfl rfl fun T73 X73 e73 => ?_
      rw [show own_pk tp ng ze po bo (0 : Int32) = tp from by simp [own_pk]]
      refine w_astore X73 hx hby #[.val (.int x1), .val (.int x2), .val (.int (2 : Int32)), .val (.int (0 : Int32)), .val (.ref ta), .val (.int (84 : Int32)), .val (.ref ze), .val (.ref tp), .unset, .unset] n0_40 rfl rfl ?_
      refine w_aload X73 hx hby n0_42 rfl rfl ?_
      refine w_aload X73 hx hby n0_44 rfl rfl ?_
      refine w_calledp (call_V X73 hx hby hZ hown (argsL := [(.ref tp)]) (rest := []) (Wd := 0) (a := ze) (hw _ t_43) (hw _ t_44) (hw _ t_46) (hw _ t_45) (hw _ t_39) (hw _ t_47) (by decide) E_ZERO (rAD l Z a0 hw tp ng ze po bo ze tp h0 S_TOP S_NEGATIVE S_ZERO S_POSITIVE S_BOTTOM) rfl n0_46 (by rw [hml]; rfl) (lenOf pd_318983 rfl) rfl (by decide) (by decide) (by decide) (by decide) e73) rfl rfl fun T74 X74 e74 => ?_
      rw [show own_add tp ze bo ze tp = tp from by simp [own_add, d1, d1.symm, d2, d2.symm, d3, d3.symm, d4, d4.symm, d5, d5.symm, d6, d6.symm, d7, d7.symm, d8, d8.symm, d9, d9.symm, d10, d10.symm]]
      refine w_astore X74 hx hby #[.val (.int x1), .val (.int x2), .val (.int (2 : Int32)), .val (.int (0 : Int32)), .val (.ref ta), .val (.int (84 : Int32)), .val (.ref ze), .val (.ref tp), .val (.ref tp), .unset] n0_49 rfl rfl ?_
      refine w_aload X74 hx hby n0_51 rfl rfl ?_
      refine w_ifnonnullRef X74 hx hby n0_53 ?_
      refine w_aload X74 hx hby n0_58 rfl rfl ?_
      refine w_calledp (call_V X74 hx hby hZ hown (argsL := []) (rest := []) (Wd := 0) (a := tp) (hw _ t_49) (hw _ t_50) (hw _ t_52) (hw _ t_51) (hw _ t_39) (hw _ t_53) (by decide) E_TOP (rSY l Z a0 hw tp sy_tp h0 Y_TOP) rfl n0_60 (by rw [hml]; rfl) (lenOf pd_30311 rfl) rfl (by decide) (by decide) (by decide) (by decide) e74) rfl rfl fun T75 X75 e75 => ?_
      refine w_astore X75 hx hby #[.val (.int x1), .val (.int x2), .val (.int (2 : Int32)), .val (.int (0 : Int32)), .val (.ref ta), .val (.int (84 : Int32)), .val (.ref ze), .val (.ref tp), .val (.ref tp), .val (.ref sy_tp)] n0_63 rfl rfl ?_
      refine w_aload X75 hx hby n0_65 rfl rfl ?_
      refine w_calledp (call_V X75 hx hby hZ hown (argsL := []) (rest := []) (Wd := 0) (a := sy_tp) (hw _ t_56) (hw _ t_57) (hw _ t_59) (hw _ t_58) (hw _ t_2) (hw _ t_60) (by decide) R_TOP.1 (rLN l Z a0 hw sy_tp vb_tp cl_tp (1 : Int32) zc h0 R_TOP S_C P3) rfl n0_67 (by rw [hml]; rfl) (lenOf pd_1265 rfl) rfl (by decide) (by decide) (by decide) (by decide) e75) rfl rfl fun T76 X76 e76 => ?_
      rw [show own_len (1 : Int32) = (1 : Int32) from by decide]
      refine w_iconst X76 hx hby (1 : Int32) n0_70 rfl ?_
      refine f_icmp_ne X76 hx hby n0_71 (fun q71 => by exact absurd q71 (by decide)) (fun q71 => ?_)
      refine w_aload X76 hx hby n0_74 rfl rfl ?_
      refine w_iconst X76 hx hby (0 : Int32) n0_76 rfl ?_
      refine w_calledp (call_V X76 hx hby hZ hown (argsL := [(.int (0 : Int32))]) (rest := []) (Wd := 0) (a := sy_tp) (hw _ t_9) (hw _ t_10) (hw _ t_12) (hw _ t_11) (hw _ t_2) (hw _ t_13) (by decide) R_TOP.1 (rCH l Z a0 hw sy_tp vb_tp cl_tp (1 : Int32) (0 : Int32) (84 : Int32) zc fv h0 R_TOP S_C P3 S_F rF (by decide) (by decide) G_TOP) rfl n0_77 (by rw [hml]; rfl) (lenOf pd_1903 rfl) rfl (by decide) (by decide) (by decide) (by decide) e76) rfl rfl fun T77 X77 e77 => ?_
      rw [show own_ch (84 : Int32) = (84 : Int32) from by decide]
      refine w_iload X77 hx hby n0_80 rfl ?_
      refine f_icmp_ne X77 hx hby n0_82 (fun q82 => by exact absurd q82 (by decide)) (fun q82 => ?_)
      refine w_iconst X77 hx hby (1 : Int32) n0_85 rfl ?_
      refine w_goto X77 hx hby n0_86 ?_
      refine w_retN X77 hx hby e77 hlk hret (by simp) n0_90 (by decide) (by decide) ?_
      exact ⟨rfl, rfl, rfl⟩
    · rw [hj]
      refine w_astore X0 hx hby #[.val (.int x1), .val (.int x2), .val (.int (2 : Int32)), .val (.int (1 : Int32)), .val (.ref ta), .unset, .unset, .unset, .unset, .unset] n0_16 rfl rfl ?_
      refine w_aload X0 hx hby n0_18 rfl rfl ?_
      refine w_iloadN X0 hx hby n0_20 rfl ?_
      refine w_iconst X0 hx hby (5 : Int32) n0_21 rfl ?_
      refine w_imul X0 hx hby n0_22 ?_
      refine w_iloadN X0 hx hby n0_23 rfl ?_
      refine w_iadd X0 hx hby n0_24 ?_
      refine w_calledp (call_V X0 hx hby hZ hown (argsL := [(.int (((2 : Int32) * (5 : Int32)) + (1 : Int32)))]) (rest := []) (Wd := 0) (a := ta) (hw _ t_9) (hw _ t_10) (hw _ t_12) (hw _ t_11) (hw _ t_2) (hw _ t_13) (by decide) RT.1 (rCH l Z a0 hw ta tb clT (25 : Int32) (((2 : Int32) * (5 : Int32)) + (1 : Int32)) (45 : Int32) zc fv h0 RT S_C P3 S_F rF (by decide) (by decide) ⟨inb_of SzT ⟨by decide, by decide⟩, HaT.at (inb_of SzT ⟨by decide, by decide⟩) rfl⟩) rfl n0_25 (by rw [hml]; rfl) (lenOf pd_1903 rfl) rfl (by decide) (by decide) (by decide) (by decide) e0) rfl rfl fun T78 X78 e78 => ?_
      rw [show own_ch (45 : Int32) = (45 : Int32) from by decide]
      refine w_istore X78 hx hby #[.val (.int x1), .val (.int x2), .val (.int (2 : Int32)), .val (.int (1 : Int32)), .val (.ref ta), .val (.int (45 : Int32)), .unset, .unset, .unset, .unset] n0_28 rfl ?_
      refine w_iloadN X78 hx hby n0_30 rfl ?_
      refine w_calledp (call_S X78 hx hby hZ hown (argsL := [(.int (2 : Int32))]) (rest := []) (Wd := 0) (hw _ t_34) (hw _ t_35) (hw _ t_36) (hw _ t_37) (by decide) (rPK l Z a0 hw tp ng ze po bo (2 : Int32) h0 S_TOP S_NEGATIVE S_ZERO S_POSITIVE S_BOTTOM) rfl n0_31 (by rw [hml]; rfl) (lenOf pd_99499 rfl) rfl (by decide) (by decide) (by decide) (by decide) e78) rfl rfl fun T79 X79 e79 => ?_
      rw [show own_pk tp ng ze po bo (2 : Int32) = ze from by simp [own_pk]]
      refine w_astore X79 hx hby #[.val (.int x1), .val (.int x2), .val (.int (2 : Int32)), .val (.int (1 : Int32)), .val (.ref ta), .val (.int (45 : Int32)), .val (.ref ze), .unset, .unset, .unset] n0_34 rfl rfl ?_
      refine w_iloadN X79 hx hby n0_36 rfl ?_
      refine w_calledp (call_S X79 hx hby hZ hown (argsL := [(.int (1 : Int32))]) (rest := []) (Wd := 0) (hw _ t_34) (hw _ t_35) (hw _ t_36) (hw _ t_37) (by decide) (rPK l Z a0 hw tp ng ze po bo (1 : Int32) h0 S_TOP S_NEGATIVE S_ZERO S_POSITIVE S_BOTTOM) rfl n0_37 (by rw [hml]; rfl) (lenOf pd_99499 rfl) rfl (by decide) (by decide) (by decide) (by decide) e79) rfl rfl fun T80 X80 e80 => ?_
      rw [show own_pk tp ng ze po bo (1 : Int32) = ng from by simp [own_pk]]
      refine w_astore X80 hx hby #[.val (.int x1), .val (.int x2), .val (.int (2 : Int32)), .val (.int (1 : Int32)), .val (.ref ta), .val (.int (45 : Int32)), .val (.ref ze), .val (.ref ng), .unset, .unset] n0_40 rfl rfl ?_
      refine w_aload X80 hx hby n0_42 rfl rfl ?_
      refine w_aload X80 hx hby n0_44 rfl rfl ?_
      refine w_calledp (call_V X80 hx hby hZ hown (argsL := [(.ref ng)]) (rest := []) (Wd := 0) (a := ze) (hw _ t_43) (hw _ t_44) (hw _ t_46) (hw _ t_45) (hw _ t_39) (hw _ t_47) (by decide) E_ZERO (rAD l Z a0 hw tp ng ze po bo ze ng h0 S_TOP S_NEGATIVE S_ZERO S_POSITIVE S_BOTTOM) rfl n0_46 (by rw [hml]; rfl) (lenOf pd_318983 rfl) rfl (by decide) (by decide) (by decide) (by decide) e80) rfl rfl fun T81 X81 e81 => ?_
      rw [show own_add tp ze bo ze ng = ng from by simp [own_add, d1, d1.symm, d2, d2.symm, d3, d3.symm, d4, d4.symm, d5, d5.symm, d6, d6.symm, d7, d7.symm, d8, d8.symm, d9, d9.symm, d10, d10.symm]]
      refine w_astore X81 hx hby #[.val (.int x1), .val (.int x2), .val (.int (2 : Int32)), .val (.int (1 : Int32)), .val (.ref ta), .val (.int (45 : Int32)), .val (.ref ze), .val (.ref ng), .val (.ref ng), .unset] n0_49 rfl rfl ?_
      refine w_aload X81 hx hby n0_51 rfl rfl ?_
      refine w_ifnonnullRef X81 hx hby n0_53 ?_
      refine w_aload X81 hx hby n0_58 rfl rfl ?_
      refine w_calledp (call_V X81 hx hby hZ hown (argsL := []) (rest := []) (Wd := 0) (a := ng) (hw _ t_49) (hw _ t_50) (hw _ t_52) (hw _ t_51) (hw _ t_39) (hw _ t_53) (by decide) E_NEGATIVE (rSY l Z a0 hw ng sy_ng h0 Y_NEGATIVE) rfl n0_60 (by rw [hml]; rfl) (lenOf pd_30311 rfl) rfl (by decide) (by decide) (by decide) (by decide) e81) rfl rfl fun T82 X82 e82 => ?_
      refine w_astore X82 hx hby #[.val (.int x1), .val (.int x2), .val (.int (2 : Int32)), .val (.int (1 : Int32)), .val (.ref ta), .val (.int (45 : Int32)), .val (.ref ze), .val (.ref ng), .val (.ref ng), .val (.ref sy_ng)] n0_63 rfl rfl ?_
      refine w_aload X82 hx hby n0_65 rfl rfl ?_
      refine w_calledp (call_V X82 hx hby hZ hown (argsL := []) (rest := []) (Wd := 0) (a := sy_ng) (hw _ t_56) (hw _ t_57) (hw _ t_59) (hw _ t_58) (hw _ t_2) (hw _ t_60) (by decide) R_NEGATIVE.1 (rLN l Z a0 hw sy_ng vb_ng cl_ng (1 : Int32) zc h0 R_NEGATIVE S_C P3) rfl n0_67 (by rw [hml]; rfl) (lenOf pd_1265 rfl) rfl (by decide) (by decide) (by decide) (by decide) e82) rfl rfl fun T83 X83 e83 => ?_
      rw [show own_len (1 : Int32) = (1 : Int32) from by decide]
      refine w_iconst X83 hx hby (1 : Int32) n0_70 rfl ?_
      refine f_icmp_ne X83 hx hby n0_71 (fun q71 => by exact absurd q71 (by decide)) (fun q71 => ?_)
      refine w_aload X83 hx hby n0_74 rfl rfl ?_
      refine w_iconst X83 hx hby (0 : Int32) n0_76 rfl ?_
      refine w_calledp (call_V X83 hx hby hZ hown (argsL := [(.int (0 : Int32))]) (rest := []) (Wd := 0) (a := sy_ng) (hw _ t_9) (hw _ t_10) (hw _ t_12) (hw _ t_11) (hw _ t_2) (hw _ t_13) (by decide) R_NEGATIVE.1 (rCH l Z a0 hw sy_ng vb_ng cl_ng (1 : Int32) (0 : Int32) (45 : Int32) zc fv h0 R_NEGATIVE S_C P3 S_F rF (by decide) (by decide) G_NEGATIVE) rfl n0_77 (by rw [hml]; rfl) (lenOf pd_1903 rfl) rfl (by decide) (by decide) (by decide) (by decide) e83) rfl rfl fun T84 X84 e84 => ?_
      rw [show own_ch (45 : Int32) = (45 : Int32) from by decide]
      refine w_iload X84 hx hby n0_80 rfl ?_
      refine f_icmp_ne X84 hx hby n0_82 (fun q82 => by exact absurd q82 (by decide)) (fun q82 => ?_)
      refine w_iconst X84 hx hby (1 : Int32) n0_85 rfl ?_
      refine w_goto X84 hx hby n0_86 ?_
      refine w_retN X84 hx hby e84 hlk hret (by simp) n0_90 (by decide) (by decide) ?_
      exact ⟨rfl, rfl, rfl⟩
    · rw [hj]
      refine w_astore X0 hx hby #[.val (.int x1), .val (.int x2), .val (.int (2 : Int32)), .val (.int (2 : Int32)), .val (.ref ta), .unset, .unset, .unset, .unset, .unset] n0_16 rfl rfl ?_
      refine w_aload X0 hx hby n0_18 rfl rfl ?_
      refine w_iloadN X0 hx hby n0_20 rfl ?_
      refine w_iconst X0 hx hby (5 : Int32) n0_21 rfl ?_
      refine w_imul X0 hx hby n0_22 ?_
      refine w_iloadN X0 hx hby n0_23 rfl ?_
      refine w_iadd X0 hx hby n0_24 ?_
      refine w_calledp (call_V X0 hx hby hZ hown (argsL := [(.int (((2 : Int32) * (5 : Int32)) + (2 : Int32)))]) (rest := []) (Wd := 0) (a := ta) (hw _ t_9) (hw _ t_10) (hw _ t_12) (hw _ t_11) (hw _ t_2) (hw _ t_13) (by decide) RT.1 (rCH l Z a0 hw ta tb clT (25 : Int32) (((2 : Int32) * (5 : Int32)) + (2 : Int32)) (48 : Int32) zc fv h0 RT S_C P3 S_F rF (by decide) (by decide) ⟨inb_of SzT ⟨by decide, by decide⟩, HaT.at (inb_of SzT ⟨by decide, by decide⟩) rfl⟩) rfl n0_25 (by rw [hml]; rfl) (lenOf pd_1903 rfl) rfl (by decide) (by decide) (by decide) (by decide) e0) rfl rfl fun T85 X85 e85 => ?_
      rw [show own_ch (48 : Int32) = (48 : Int32) from by decide]
      refine w_istore X85 hx hby #[.val (.int x1), .val (.int x2), .val (.int (2 : Int32)), .val (.int (2 : Int32)), .val (.ref ta), .val (.int (48 : Int32)), .unset, .unset, .unset, .unset] n0_28 rfl ?_
      refine w_iloadN X85 hx hby n0_30 rfl ?_
      refine w_calledp (call_S X85 hx hby hZ hown (argsL := [(.int (2 : Int32))]) (rest := []) (Wd := 0) (hw _ t_34) (hw _ t_35) (hw _ t_36) (hw _ t_37) (by decide) (rPK l Z a0 hw tp ng ze po bo (2 : Int32) h0 S_TOP S_NEGATIVE S_ZERO S_POSITIVE S_BOTTOM) rfl n0_31 (by rw [hml]; rfl) (lenOf pd_99499 rfl) rfl (by decide) (by decide) (by decide) (by decide) e85) rfl rfl fun T86 X86 e86 => ?_
      rw [show own_pk tp ng ze po bo (2 : Int32) = ze from by simp [own_pk]]
      refine w_astore X86 hx hby #[.val (.int x1), .val (.int x2), .val (.int (2 : Int32)), .val (.int (2 : Int32)), .val (.ref ta), .val (.int (48 : Int32)), .val (.ref ze), .unset, .unset, .unset] n0_34 rfl rfl ?_
      refine w_iloadN X86 hx hby n0_36 rfl ?_
      refine w_calledp (call_S X86 hx hby hZ hown (argsL := [(.int (2 : Int32))]) (rest := []) (Wd := 0) (hw _ t_34) (hw _ t_35) (hw _ t_36) (hw _ t_37) (by decide) (rPK l Z a0 hw tp ng ze po bo (2 : Int32) h0 S_TOP S_NEGATIVE S_ZERO S_POSITIVE S_BOTTOM) rfl n0_37 (by rw [hml]; rfl) (lenOf pd_99499 rfl) rfl (by decide) (by decide) (by decide) (by decide) e86) rfl rfl fun T87 X87 e87 => ?_
      rw [show own_pk tp ng ze po bo (2 : Int32) = ze from by simp [own_pk]]
      refine w_astore X87 hx hby #[.val (.int x1), .val (.int x2), .val (.int (2 : Int32)), .val (.int (2 : Int32)), .val (.ref ta), .val (.int (48 : Int32)), .val (.ref ze), .val (.ref ze), .unset, .unset] n0_40 rfl rfl ?_
      refine w_aload X87 hx hby n0_42 rfl rfl ?_
      refine w_aload X87 hx hby n0_44 rfl rfl ?_
      refine w_calledp (call_V X87 hx hby hZ hown (argsL := [(.ref ze)]) (rest := []) (Wd := 0) (a := ze) (hw _ t_43) (hw _ t_44) (hw _ t_46) (hw _ t_45) (hw _ t_39) (hw _ t_47) (by decide) E_ZERO (rAD l Z a0 hw tp ng ze po bo ze ze h0 S_TOP S_NEGATIVE S_ZERO S_POSITIVE S_BOTTOM) rfl n0_46 (by rw [hml]; rfl) (lenOf pd_318983 rfl) rfl (by decide) (by decide) (by decide) (by decide) e87) rfl rfl fun T88 X88 e88 => ?_
      rw [show own_add tp ze bo ze ze = ze from by simp [own_add, d1, d1.symm, d2, d2.symm, d3, d3.symm, d4, d4.symm, d5, d5.symm, d6, d6.symm, d7, d7.symm, d8, d8.symm, d9, d9.symm, d10, d10.symm]]
      refine w_astore X88 hx hby #[.val (.int x1), .val (.int x2), .val (.int (2 : Int32)), .val (.int (2 : Int32)), .val (.ref ta), .val (.int (48 : Int32)), .val (.ref ze), .val (.ref ze), .val (.ref ze), .unset] n0_49 rfl rfl ?_
      refine w_aload X88 hx hby n0_51 rfl rfl ?_
      refine w_ifnonnullRef X88 hx hby n0_53 ?_
      refine w_aload X88 hx hby n0_58 rfl rfl ?_
      refine w_calledp (call_V X88 hx hby hZ hown (argsL := []) (rest := []) (Wd := 0) (a := ze) (hw _ t_49) (hw _ t_50) (hw _ t_52) (hw _ t_51) (hw _ t_39) (hw _ t_53) (by decide) E_ZERO (rSY l Z a0 hw ze sy_ze h0 Y_ZERO) rfl n0_60 (by rw [hml]; rfl) (lenOf pd_30311 rfl) rfl (by decide) (by decide) (by decide) (by decide) e88) rfl rfl fun T89 X89 e89 => ?_
      refine w_astore X89 hx hby #[.val (.int x1), .val (.int x2), .val (.int (2 : Int32)), .val (.int (2 : Int32)), .val (.ref ta), .val (.int (48 : Int32)), .val (.ref ze), .val (.ref ze), .val (.ref ze), .val (.ref sy_ze)] n0_63 rfl rfl ?_
      refine w_aload X89 hx hby n0_65 rfl rfl ?_
      refine w_calledp (call_V X89 hx hby hZ hown (argsL := []) (rest := []) (Wd := 0) (a := sy_ze) (hw _ t_56) (hw _ t_57) (hw _ t_59) (hw _ t_58) (hw _ t_2) (hw _ t_60) (by decide) R_ZERO.1 (rLN l Z a0 hw sy_ze vb_ze cl_ze (1 : Int32) zc h0 R_ZERO S_C P3) rfl n0_67 (by rw [hml]; rfl) (lenOf pd_1265 rfl) rfl (by decide) (by decide) (by decide) (by decide) e89) rfl rfl fun T90 X90 e90 => ?_
      rw [show own_len (1 : Int32) = (1 : Int32) from by decide]
      refine w_iconst X90 hx hby (1 : Int32) n0_70 rfl ?_
      refine f_icmp_ne X90 hx hby n0_71 (fun q71 => by exact absurd q71 (by decide)) (fun q71 => ?_)
      refine w_aload X90 hx hby n0_74 rfl rfl ?_
      refine w_iconst X90 hx hby (0 : Int32) n0_76 rfl ?_
      refine w_calledp (call_V X90 hx hby hZ hown (argsL := [(.int (0 : Int32))]) (rest := []) (Wd := 0) (a := sy_ze) (hw _ t_9) (hw _ t_10) (hw _ t_12) (hw _ t_11) (hw _ t_2) (hw _ t_13) (by decide) R_ZERO.1 (rCH l Z a0 hw sy_ze vb_ze cl_ze (1 : Int32) (0 : Int32) (48 : Int32) zc fv h0 R_ZERO S_C P3 S_F rF (by decide) (by decide) G_ZERO) rfl n0_77 (by rw [hml]; rfl) (lenOf pd_1903 rfl) rfl (by decide) (by decide) (by decide) (by decide) e90) rfl rfl fun T91 X91 e91 => ?_
      rw [show own_ch (48 : Int32) = (48 : Int32) from by decide]
      refine w_iload X91 hx hby n0_80 rfl ?_
      refine f_icmp_ne X91 hx hby n0_82 (fun q82 => by exact absurd q82 (by decide)) (fun q82 => ?_)
      refine w_iconst X91 hx hby (1 : Int32) n0_85 rfl ?_
      refine w_goto X91 hx hby n0_86 ?_
      refine w_retN X91 hx hby e91 hlk hret (by simp) n0_90 (by decide) (by decide) ?_
      exact ⟨rfl, rfl, rfl⟩
    · rw [hj]
      refine w_astore X0 hx hby #[.val (.int x1), .val (.int x2), .val (.int (2 : Int32)), .val (.int (3 : Int32)), .val (.ref ta), .unset, .unset, .unset, .unset, .unset] n0_16 rfl rfl ?_
      refine w_aload X0 hx hby n0_18 rfl rfl ?_
      refine w_iloadN X0 hx hby n0_20 rfl ?_
      refine w_iconst X0 hx hby (5 : Int32) n0_21 rfl ?_
      refine w_imul X0 hx hby n0_22 ?_
      refine w_iloadN X0 hx hby n0_23 rfl ?_
      refine w_iadd X0 hx hby n0_24 ?_
      refine w_calledp (call_V X0 hx hby hZ hown (argsL := [(.int (((2 : Int32) * (5 : Int32)) + (3 : Int32)))]) (rest := []) (Wd := 0) (a := ta) (hw _ t_9) (hw _ t_10) (hw _ t_12) (hw _ t_11) (hw _ t_2) (hw _ t_13) (by decide) RT.1 (rCH l Z a0 hw ta tb clT (25 : Int32) (((2 : Int32) * (5 : Int32)) + (3 : Int32)) (43 : Int32) zc fv h0 RT S_C P3 S_F rF (by decide) (by decide) ⟨inb_of SzT ⟨by decide, by decide⟩, HaT.at (inb_of SzT ⟨by decide, by decide⟩) rfl⟩) rfl n0_25 (by rw [hml]; rfl) (lenOf pd_1903 rfl) rfl (by decide) (by decide) (by decide) (by decide) e0) rfl rfl fun T92 X92 e92 => ?_
      rw [show own_ch (43 : Int32) = (43 : Int32) from by decide]
      refine w_istore X92 hx hby #[.val (.int x1), .val (.int x2), .val (.int (2 : Int32)), .val (.int (3 : Int32)), .val (.ref ta), .val (.int (43 : Int32)), .unset, .unset, .unset, .unset] n0_28 rfl ?_
      refine w_iloadN X92 hx hby n0_30 rfl ?_
      refine w_calledp (call_S X92 hx hby hZ hown (argsL := [(.int (2 : Int32))]) (rest := []) (Wd := 0) (hw _ t_34) (hw _ t_35) (hw _ t_36) (hw _ t_37) (by decide) (rPK l Z a0 hw tp ng ze po bo (2 : Int32) h0 S_TOP S_NEGATIVE S_ZERO S_POSITIVE S_BOTTOM) rfl n0_31 (by rw [hml]; rfl) (lenOf pd_99499 rfl) rfl (by decide) (by decide) (by decide) (by decide) e92) rfl rfl fun T93 X93 e93 => ?_
      rw [show own_pk tp ng ze po bo (2 : Int32) = ze from by simp [own_pk]]
      refine w_astore X93 hx hby #[.val (.int x1), .val (.int x2), .val (.int (2 : Int32)), .val (.int (3 : Int32)), .val (.ref ta), .val (.int (43 : Int32)), .val (.ref ze), .unset, .unset, .unset] n0_34 rfl rfl ?_
      refine w_iloadN X93 hx hby n0_36 rfl ?_
      refine w_calledp (call_S X93 hx hby hZ hown (argsL := [(.int (3 : Int32))]) (rest := []) (Wd := 0) (hw _ t_34) (hw _ t_35) (hw _ t_36) (hw _ t_37) (by decide) (rPK l Z a0 hw tp ng ze po bo (3 : Int32) h0 S_TOP S_NEGATIVE S_ZERO S_POSITIVE S_BOTTOM) rfl n0_37 (by rw [hml]; rfl) (lenOf pd_99499 rfl) rfl (by decide) (by decide) (by decide) (by decide) e93) rfl rfl fun T94 X94 e94 => ?_
      rw [show own_pk tp ng ze po bo (3 : Int32) = po from by simp [own_pk]]
      refine w_astore X94 hx hby #[.val (.int x1), .val (.int x2), .val (.int (2 : Int32)), .val (.int (3 : Int32)), .val (.ref ta), .val (.int (43 : Int32)), .val (.ref ze), .val (.ref po), .unset, .unset] n0_40 rfl rfl ?_
      refine w_aload X94 hx hby n0_42 rfl rfl ?_
      refine w_aload X94 hx hby n0_44 rfl rfl ?_
      refine w_calledp (call_V X94 hx hby hZ hown (argsL := [(.ref po)]) (rest := []) (Wd := 0) (a := ze) (hw _ t_43) (hw _ t_44) (hw _ t_46) (hw _ t_45) (hw _ t_39) (hw _ t_47) (by decide) E_ZERO (rAD l Z a0 hw tp ng ze po bo ze po h0 S_TOP S_NEGATIVE S_ZERO S_POSITIVE S_BOTTOM) rfl n0_46 (by rw [hml]; rfl) (lenOf pd_318983 rfl) rfl (by decide) (by decide) (by decide) (by decide) e94) rfl rfl fun T95 X95 e95 => ?_
      rw [show own_add tp ze bo ze po = po from by simp [own_add, d1, d1.symm, d2, d2.symm, d3, d3.symm, d4, d4.symm, d5, d5.symm, d6, d6.symm, d7, d7.symm, d8, d8.symm, d9, d9.symm, d10, d10.symm]]
      refine w_astore X95 hx hby #[.val (.int x1), .val (.int x2), .val (.int (2 : Int32)), .val (.int (3 : Int32)), .val (.ref ta), .val (.int (43 : Int32)), .val (.ref ze), .val (.ref po), .val (.ref po), .unset] n0_49 rfl rfl ?_
      refine w_aload X95 hx hby n0_51 rfl rfl ?_
      refine w_ifnonnullRef X95 hx hby n0_53 ?_
      refine w_aload X95 hx hby n0_58 rfl rfl ?_
      refine w_calledp (call_V X95 hx hby hZ hown (argsL := []) (rest := []) (Wd := 0) (a := po) (hw _ t_49) (hw _ t_50) (hw _ t_52) (hw _ t_51) (hw _ t_39) (hw _ t_53) (by decide) E_POSITIVE (rSY l Z a0 hw po sy_po h0 Y_POSITIVE) rfl n0_60 (by rw [hml]; rfl) (lenOf pd_30311 rfl) rfl (by decide) (by decide) (by decide) (by decide) e95) rfl rfl fun T96 X96 e96 => ?_
      refine w_astore X96 hx hby #[.val (.int x1), .val (.int x2), .val (.int (2 : Int32)), .val (.int (3 : Int32)), .val (.ref ta), .val (.int (43 : Int32)), .val (.ref ze), .val (.ref po), .val (.ref po), .val (.ref sy_po)] n0_63 rfl rfl ?_
      refine w_aload X96 hx hby n0_65 rfl rfl ?_
      refine w_calledp (call_V X96 hx hby hZ hown (argsL := []) (rest := []) (Wd := 0) (a := sy_po) (hw _ t_56) (hw _ t_57) (hw _ t_59) (hw _ t_58) (hw _ t_2) (hw _ t_60) (by decide) R_POSITIVE.1 (rLN l Z a0 hw sy_po vb_po cl_po (1 : Int32) zc h0 R_POSITIVE S_C P3) rfl n0_67 (by rw [hml]; rfl) (lenOf pd_1265 rfl) rfl (by decide) (by decide) (by decide) (by decide) e96) rfl rfl fun T97 X97 e97 => ?_
      rw [show own_len (1 : Int32) = (1 : Int32) from by decide]
      refine w_iconst X97 hx hby (1 : Int32) n0_70 rfl ?_
      refine f_icmp_ne X97 hx hby n0_71 (fun q71 => by exact absurd q71 (by decide)) (fun q71 => ?_)
      refine w_aload X97 hx hby n0_74 rfl rfl ?_
      refine w_iconst X97 hx hby (0 : Int32) n0_76 rfl ?_
      refine w_calledp (call_V X97 hx hby hZ hown (argsL := [(.int (0 : Int32))]) (rest := []) (Wd := 0) (a := sy_po) (hw _ t_9) (hw _ t_10) (hw _ t_12) (hw _ t_11) (hw _ t_2) (hw _ t_13) (by decide) R_POSITIVE.1 (rCH l Z a0 hw sy_po vb_po cl_po (1 : Int32) (0 : Int32) (43 : Int32) zc fv h0 R_POSITIVE S_C P3 S_F rF (by decide) (by decide) G_POSITIVE) rfl n0_77 (by rw [hml]; rfl) (lenOf pd_1903 rfl) rfl (by decide) (by decide) (by decide) (by decide) e97) rfl rfl fun T98 X98 e98 => ?_
      rw [show own_ch (43 : Int32) = (43 : Int32) from by decide]
      refine w_iload X98 hx hby n0_80 rfl ?_
      refine f_icmp_ne X98 hx hby n0_82 (fun q82 => by exact absurd q82 (by decide)) (fun q82 => ?_)
      refine w_iconst X98 hx hby (1 : Int32) n0_85 rfl ?_
      refine w_goto X98 hx hby n0_86 ?_
      refine w_retN X98 hx hby e98 hlk hret (by simp) n0_90 (by decide) (by decide) ?_
      exact ⟨rfl, rfl, rfl⟩
    · rw [hj]
      refine w_astore X0 hx hby #[.val (.int x1), .val (.int x2), .val (.int (2 : Int32)), .val (.int (4 : Int32)), .val (.ref ta), .unset, .unset, .unset, .unset, .unset] n0_16 rfl rfl ?_
      refine w_aload X0 hx hby n0_18 rfl rfl ?_
      refine w_iloadN X0 hx hby n0_20 rfl ?_
      refine w_iconst X0 hx hby (5 : Int32) n0_21 rfl ?_
      refine w_imul X0 hx hby n0_22 ?_
      refine w_iloadN X0 hx hby n0_23 rfl ?_
      refine w_iadd X0 hx hby n0_24 ?_
      refine w_calledp (call_V X0 hx hby hZ hown (argsL := [(.int (((2 : Int32) * (5 : Int32)) + (4 : Int32)))]) (rest := []) (Wd := 0) (a := ta) (hw _ t_9) (hw _ t_10) (hw _ t_12) (hw _ t_11) (hw _ t_2) (hw _ t_13) (by decide) RT.1 (rCH l Z a0 hw ta tb clT (25 : Int32) (((2 : Int32) * (5 : Int32)) + (4 : Int32)) (42 : Int32) zc fv h0 RT S_C P3 S_F rF (by decide) (by decide) ⟨inb_of SzT ⟨by decide, by decide⟩, HaT.at (inb_of SzT ⟨by decide, by decide⟩) rfl⟩) rfl n0_25 (by rw [hml]; rfl) (lenOf pd_1903 rfl) rfl (by decide) (by decide) (by decide) (by decide) e0) rfl rfl fun T99 X99 e99 => ?_
      rw [show own_ch (42 : Int32) = (42 : Int32) from by decide]
      refine w_istore X99 hx hby #[.val (.int x1), .val (.int x2), .val (.int (2 : Int32)), .val (.int (4 : Int32)), .val (.ref ta), .val (.int (42 : Int32)), .unset, .unset, .unset, .unset] n0_28 rfl ?_
      refine w_iloadN X99 hx hby n0_30 rfl ?_
      refine w_calledp (call_S X99 hx hby hZ hown (argsL := [(.int (2 : Int32))]) (rest := []) (Wd := 0) (hw _ t_34) (hw _ t_35) (hw _ t_36) (hw _ t_37) (by decide) (rPK l Z a0 hw tp ng ze po bo (2 : Int32) h0 S_TOP S_NEGATIVE S_ZERO S_POSITIVE S_BOTTOM) rfl n0_31 (by rw [hml]; rfl) (lenOf pd_99499 rfl) rfl (by decide) (by decide) (by decide) (by decide) e99) rfl rfl fun T100 X100 e100 => ?_
      rw [show own_pk tp ng ze po bo (2 : Int32) = ze from by simp [own_pk]]
      refine w_astore X100 hx hby #[.val (.int x1), .val (.int x2), .val (.int (2 : Int32)), .val (.int (4 : Int32)), .val (.ref ta), .val (.int (42 : Int32)), .val (.ref ze), .unset, .unset, .unset] n0_34 rfl rfl ?_
      refine w_iloadN X100 hx hby n0_36 rfl ?_
      refine w_calledp (call_S X100 hx hby hZ hown (argsL := [(.int (4 : Int32))]) (rest := []) (Wd := 0) (hw _ t_34) (hw _ t_35) (hw _ t_36) (hw _ t_37) (by decide) (rPK l Z a0 hw tp ng ze po bo (4 : Int32) h0 S_TOP S_NEGATIVE S_ZERO S_POSITIVE S_BOTTOM) rfl n0_37 (by rw [hml]; rfl) (lenOf pd_99499 rfl) rfl (by decide) (by decide) (by decide) (by decide) e100) rfl rfl fun T101 X101 e101 => ?_
      rw [show own_pk tp ng ze po bo (4 : Int32) = bo from by simp [own_pk]]
      refine w_astore X101 hx hby #[.val (.int x1), .val (.int x2), .val (.int (2 : Int32)), .val (.int (4 : Int32)), .val (.ref ta), .val (.int (42 : Int32)), .val (.ref ze), .val (.ref bo), .unset, .unset] n0_40 rfl rfl ?_
      refine w_aload X101 hx hby n0_42 rfl rfl ?_
      refine w_aload X101 hx hby n0_44 rfl rfl ?_
      refine w_calledp (call_V X101 hx hby hZ hown (argsL := [(.ref bo)]) (rest := []) (Wd := 0) (a := ze) (hw _ t_43) (hw _ t_44) (hw _ t_46) (hw _ t_45) (hw _ t_39) (hw _ t_47) (by decide) E_ZERO (rAD l Z a0 hw tp ng ze po bo ze bo h0 S_TOP S_NEGATIVE S_ZERO S_POSITIVE S_BOTTOM) rfl n0_46 (by rw [hml]; rfl) (lenOf pd_318983 rfl) rfl (by decide) (by decide) (by decide) (by decide) e101) rfl rfl fun T102 X102 e102 => ?_
      rw [show own_add tp ze bo ze bo = bo from by simp [own_add, d1, d1.symm, d2, d2.symm, d3, d3.symm, d4, d4.symm, d5, d5.symm, d6, d6.symm, d7, d7.symm, d8, d8.symm, d9, d9.symm, d10, d10.symm]]
      refine w_astore X102 hx hby #[.val (.int x1), .val (.int x2), .val (.int (2 : Int32)), .val (.int (4 : Int32)), .val (.ref ta), .val (.int (42 : Int32)), .val (.ref ze), .val (.ref bo), .val (.ref bo), .unset] n0_49 rfl rfl ?_
      refine w_aload X102 hx hby n0_51 rfl rfl ?_
      refine w_ifnonnullRef X102 hx hby n0_53 ?_
      refine w_aload X102 hx hby n0_58 rfl rfl ?_
      refine w_calledp (call_V X102 hx hby hZ hown (argsL := []) (rest := []) (Wd := 0) (a := bo) (hw _ t_49) (hw _ t_50) (hw _ t_52) (hw _ t_51) (hw _ t_39) (hw _ t_53) (by decide) E_BOTTOM (rSY l Z a0 hw bo sy_bo h0 Y_BOTTOM) rfl n0_60 (by rw [hml]; rfl) (lenOf pd_30311 rfl) rfl (by decide) (by decide) (by decide) (by decide) e102) rfl rfl fun T103 X103 e103 => ?_
      refine w_astore X103 hx hby #[.val (.int x1), .val (.int x2), .val (.int (2 : Int32)), .val (.int (4 : Int32)), .val (.ref ta), .val (.int (42 : Int32)), .val (.ref ze), .val (.ref bo), .val (.ref bo), .val (.ref sy_bo)] n0_63 rfl rfl ?_
      refine w_aload X103 hx hby n0_65 rfl rfl ?_
      refine w_calledp (call_V X103 hx hby hZ hown (argsL := []) (rest := []) (Wd := 0) (a := sy_bo) (hw _ t_56) (hw _ t_57) (hw _ t_59) (hw _ t_58) (hw _ t_2) (hw _ t_60) (by decide) R_BOTTOM.1 (rLN l Z a0 hw sy_bo vb_bo cl_bo (1 : Int32) zc h0 R_BOTTOM S_C P3) rfl n0_67 (by rw [hml]; rfl) (lenOf pd_1265 rfl) rfl (by decide) (by decide) (by decide) (by decide) e103) rfl rfl fun T104 X104 e104 => ?_
      rw [show own_len (1 : Int32) = (1 : Int32) from by decide]
      refine w_iconst X104 hx hby (1 : Int32) n0_70 rfl ?_
      refine f_icmp_ne X104 hx hby n0_71 (fun q71 => by exact absurd q71 (by decide)) (fun q71 => ?_)
      refine w_aload X104 hx hby n0_74 rfl rfl ?_
      refine w_iconst X104 hx hby (0 : Int32) n0_76 rfl ?_
      refine w_calledp (call_V X104 hx hby hZ hown (argsL := [(.int (0 : Int32))]) (rest := []) (Wd := 0) (a := sy_bo) (hw _ t_9) (hw _ t_10) (hw _ t_12) (hw _ t_11) (hw _ t_2) (hw _ t_13) (by decide) R_BOTTOM.1 (rCH l Z a0 hw sy_bo vb_bo cl_bo (1 : Int32) (0 : Int32) (42 : Int32) zc fv h0 R_BOTTOM S_C P3 S_F rF (by decide) (by decide) G_BOTTOM) rfl n0_77 (by rw [hml]; rfl) (lenOf pd_1903 rfl) rfl (by decide) (by decide) (by decide) (by decide) e104) rfl rfl fun T105 X105 e105 => ?_
      rw [show own_ch (42 : Int32) = (42 : Int32) from by decide]
      refine w_iload X105 hx hby n0_80 rfl ?_
      refine f_icmp_ne X105 hx hby n0_82 (fun q82 => by exact absurd q82 (by decide)) (fun q82 => ?_)
      refine w_iconst X105 hx hby (1 : Int32) n0_85 rfl ?_
      refine w_goto X105 hx hby n0_86 ?_
      refine w_retN X105 hx hby e105 hlk hret (by simp) n0_90 (by decide) (by decide) ?_
      exact ⟨rfl, rfl, rfl⟩
  · rw [hi]
    rcases own_five x2 with hj | hj | hj | hj | hj
    · rw [hj]
      refine w_astore X0 hx hby #[.val (.int x1), .val (.int x2), .val (.int (3 : Int32)), .val (.int (0 : Int32)), .val (.ref ta), .unset, .unset, .unset, .unset, .unset] n0_16 rfl rfl ?_
      refine w_aload X0 hx hby n0_18 rfl rfl ?_
      refine w_iloadN X0 hx hby n0_20 rfl ?_
      refine w_iconst X0 hx hby (5 : Int32) n0_21 rfl ?_
      refine w_imul X0 hx hby n0_22 ?_
      refine w_iloadN X0 hx hby n0_23 rfl ?_
      refine w_iadd X0 hx hby n0_24 ?_
      refine w_calledp (call_V X0 hx hby hZ hown (argsL := [(.int (((3 : Int32) * (5 : Int32)) + (0 : Int32)))]) (rest := []) (Wd := 0) (a := ta) (hw _ t_9) (hw _ t_10) (hw _ t_12) (hw _ t_11) (hw _ t_2) (hw _ t_13) (by decide) RT.1 (rCH l Z a0 hw ta tb clT (25 : Int32) (((3 : Int32) * (5 : Int32)) + (0 : Int32)) (84 : Int32) zc fv h0 RT S_C P3 S_F rF (by decide) (by decide) ⟨inb_of SzT ⟨by decide, by decide⟩, HaT.at (inb_of SzT ⟨by decide, by decide⟩) rfl⟩) rfl n0_25 (by rw [hml]; rfl) (lenOf pd_1903 rfl) rfl (by decide) (by decide) (by decide) (by decide) e0) rfl rfl fun T106 X106 e106 => ?_
      rw [show own_ch (84 : Int32) = (84 : Int32) from by decide]
      refine w_istore X106 hx hby #[.val (.int x1), .val (.int x2), .val (.int (3 : Int32)), .val (.int (0 : Int32)), .val (.ref ta), .val (.int (84 : Int32)), .unset, .unset, .unset, .unset] n0_28 rfl ?_
      refine w_iloadN X106 hx hby n0_30 rfl ?_
      refine w_calledp (call_S X106 hx hby hZ hown (argsL := [(.int (3 : Int32))]) (rest := []) (Wd := 0) (hw _ t_34) (hw _ t_35) (hw _ t_36) (hw _ t_37) (by decide) (rPK l Z a0 hw tp ng ze po bo (3 : Int32) h0 S_TOP S_NEGATIVE S_ZERO S_POSITIVE S_BOTTOM) rfl n0_31 (by rw [hml]; rfl) (lenOf pd_99499 rfl) rfl (by decide) (by decide) (by decide) (by decide) e106) rfl rfl fun T107 X107 e107 => ?_
      rw [show own_pk tp ng ze po bo (3 : Int32) = po from by simp [own_pk]]
      refine w_astore X107 hx hby #[.val (.int x1), .val (.int x2), .val (.int (3 : Int32)), .val (.int (0 : Int32)), .val (.ref ta), .val (.int (84 : Int32)), .val (.ref po), .unset, .unset, .unset] n0_34 rfl rfl ?_
      refine w_iloadN X107 hx hby n0_36 rfl ?_
      refine w_calledp (call_S X107 hx hby hZ hown (argsL := [(.int (0 : Int32))]) (rest := []) (Wd := 0) (hw _ t_34) (hw _ t_35) (hw _ t_36) (hw _ t_37) (by decide) (rPK l Z a0 hw tp ng ze po bo (0 : Int32) h0 S_TOP S_NEGATIVE S_ZERO S_POSITIVE S_BOTTOM) rfl n0_37 (by rw [hml]; rfl) (lenOf pd_99499 rfl) rfl (by decide) (by decide) (by decide) (by decide) e107) rfl rfl fun T108 X108 e108 => ?_
      rw [show own_pk tp ng ze po bo (0 : Int32) = tp from by simp [own_pk]]
      refine w_astore X108 hx hby #[.val (.int x1), .val (.int x2), .val (.int (3 : Int32)), .val (.int (0 : Int32)), .val (.ref ta), .val (.int (84 : Int32)), .val (.ref po), .val (.ref tp), .unset, .unset] n0_40 rfl rfl ?_
      refine w_aload X108 hx hby n0_42 rfl rfl ?_
      refine w_aload X108 hx hby n0_44 rfl rfl ?_
      refine w_calledp (call_V X108 hx hby hZ hown (argsL := [(.ref tp)]) (rest := []) (Wd := 0) (a := po) (hw _ t_43) (hw _ t_44) (hw _ t_46) (hw _ t_45) (hw _ t_39) (hw _ t_47) (by decide) E_POSITIVE (rAD l Z a0 hw tp ng ze po bo po tp h0 S_TOP S_NEGATIVE S_ZERO S_POSITIVE S_BOTTOM) rfl n0_46 (by rw [hml]; rfl) (lenOf pd_318983 rfl) rfl (by decide) (by decide) (by decide) (by decide) e108) rfl rfl fun T109 X109 e109 => ?_
      rw [show own_add tp ze bo po tp = tp from by simp [own_add, d1, d1.symm, d2, d2.symm, d3, d3.symm, d4, d4.symm, d5, d5.symm, d6, d6.symm, d7, d7.symm, d8, d8.symm, d9, d9.symm, d10, d10.symm]]
      refine w_astore X109 hx hby #[.val (.int x1), .val (.int x2), .val (.int (3 : Int32)), .val (.int (0 : Int32)), .val (.ref ta), .val (.int (84 : Int32)), .val (.ref po), .val (.ref tp), .val (.ref tp), .unset] n0_49 rfl rfl ?_
      refine w_aload X109 hx hby n0_51 rfl rfl ?_
      refine w_ifnonnullRef X109 hx hby n0_53 ?_
      refine w_aload X109 hx hby n0_58 rfl rfl ?_
      refine w_calledp (call_V X109 hx hby hZ hown (argsL := []) (rest := []) (Wd := 0) (a := tp) (hw _ t_49) (hw _ t_50) (hw _ t_52) (hw _ t_51) (hw _ t_39) (hw _ t_53) (by decide) E_TOP (rSY l Z a0 hw tp sy_tp h0 Y_TOP) rfl n0_60 (by rw [hml]; rfl) (lenOf pd_30311 rfl) rfl (by decide) (by decide) (by decide) (by decide) e109) rfl rfl fun T110 X110 e110 => ?_
      refine w_astore X110 hx hby #[.val (.int x1), .val (.int x2), .val (.int (3 : Int32)), .val (.int (0 : Int32)), .val (.ref ta), .val (.int (84 : Int32)), .val (.ref po), .val (.ref tp), .val (.ref tp), .val (.ref sy_tp)] n0_63 rfl rfl ?_
      refine w_aload X110 hx hby n0_65 rfl rfl ?_
      refine w_calledp (call_V X110 hx hby hZ hown (argsL := []) (rest := []) (Wd := 0) (a := sy_tp) (hw _ t_56) (hw _ t_57) (hw _ t_59) (hw _ t_58) (hw _ t_2) (hw _ t_60) (by decide) R_TOP.1 (rLN l Z a0 hw sy_tp vb_tp cl_tp (1 : Int32) zc h0 R_TOP S_C P3) rfl n0_67 (by rw [hml]; rfl) (lenOf pd_1265 rfl) rfl (by decide) (by decide) (by decide) (by decide) e110) rfl rfl fun T111 X111 e111 => ?_
      rw [show own_len (1 : Int32) = (1 : Int32) from by decide]
      refine w_iconst X111 hx hby (1 : Int32) n0_70 rfl ?_
      refine f_icmp_ne X111 hx hby n0_71 (fun q71 => by exact absurd q71 (by decide)) (fun q71 => ?_)
      refine w_aload X111 hx hby n0_74 rfl rfl ?_
      refine w_iconst X111 hx hby (0 : Int32) n0_76 rfl ?_
      refine w_calledp (call_V X111 hx hby hZ hown (argsL := [(.int (0 : Int32))]) (rest := []) (Wd := 0) (a := sy_tp) (hw _ t_9) (hw _ t_10) (hw _ t_12) (hw _ t_11) (hw _ t_2) (hw _ t_13) (by decide) R_TOP.1 (rCH l Z a0 hw sy_tp vb_tp cl_tp (1 : Int32) (0 : Int32) (84 : Int32) zc fv h0 R_TOP S_C P3 S_F rF (by decide) (by decide) G_TOP) rfl n0_77 (by rw [hml]; rfl) (lenOf pd_1903 rfl) rfl (by decide) (by decide) (by decide) (by decide) e111) rfl rfl fun T112 X112 e112 => ?_
      rw [show own_ch (84 : Int32) = (84 : Int32) from by decide]
      refine w_iload X112 hx hby n0_80 rfl ?_
      refine f_icmp_ne X112 hx hby n0_82 (fun q82 => by exact absurd q82 (by decide)) (fun q82 => ?_)
      refine w_iconst X112 hx hby (1 : Int32) n0_85 rfl ?_
      refine w_goto X112 hx hby n0_86 ?_
      refine w_retN X112 hx hby e112 hlk hret (by simp) n0_90 (by decide) (by decide) ?_
      exact ⟨rfl, rfl, rfl⟩
    · rw [hj]
      refine w_astore X0 hx hby #[.val (.int x1), .val (.int x2), .val (.int (3 : Int32)), .val (.int (1 : Int32)), .val (.ref ta), .unset, .unset, .unset, .unset, .unset] n0_16 rfl rfl ?_
      refine w_aload X0 hx hby n0_18 rfl rfl ?_
      refine w_iloadN X0 hx hby n0_20 rfl ?_
      refine w_iconst X0 hx hby (5 : Int32) n0_21 rfl ?_
      refine w_imul X0 hx hby n0_22 ?_
      refine w_iloadN X0 hx hby n0_23 rfl ?_
      refine w_iadd X0 hx hby n0_24 ?_
      refine w_calledp (call_V X0 hx hby hZ hown (argsL := [(.int (((3 : Int32) * (5 : Int32)) + (1 : Int32)))]) (rest := []) (Wd := 0) (a := ta) (hw _ t_9) (hw _ t_10) (hw _ t_12) (hw _ t_11) (hw _ t_2) (hw _ t_13) (by decide) RT.1 (rCH l Z a0 hw ta tb clT (25 : Int32) (((3 : Int32) * (5 : Int32)) + (1 : Int32)) (42 : Int32) zc fv h0 RT S_C P3 S_F rF (by decide) (by decide) ⟨inb_of SzT ⟨by decide, by decide⟩, HaT.at (inb_of SzT ⟨by decide, by decide⟩) rfl⟩) rfl n0_25 (by rw [hml]; rfl) (lenOf pd_1903 rfl) rfl (by decide) (by decide) (by decide) (by decide) e0) rfl rfl fun T113 X113 e113 => ?_
      rw [show own_ch (42 : Int32) = (42 : Int32) from by decide]
      refine w_istore X113 hx hby #[.val (.int x1), .val (.int x2), .val (.int (3 : Int32)), .val (.int (1 : Int32)), .val (.ref ta), .val (.int (42 : Int32)), .unset, .unset, .unset, .unset] n0_28 rfl ?_
      refine w_iloadN X113 hx hby n0_30 rfl ?_
      refine w_calledp (call_S X113 hx hby hZ hown (argsL := [(.int (3 : Int32))]) (rest := []) (Wd := 0) (hw _ t_34) (hw _ t_35) (hw _ t_36) (hw _ t_37) (by decide) (rPK l Z a0 hw tp ng ze po bo (3 : Int32) h0 S_TOP S_NEGATIVE S_ZERO S_POSITIVE S_BOTTOM) rfl n0_31 (by rw [hml]; rfl) (lenOf pd_99499 rfl) rfl (by decide) (by decide) (by decide) (by decide) e113) rfl rfl fun T114 X114 e114 => ?_
      rw [show own_pk tp ng ze po bo (3 : Int32) = po from by simp [own_pk]]
      refine w_astore X114 hx hby #[.val (.int x1), .val (.int x2), .val (.int (3 : Int32)), .val (.int (1 : Int32)), .val (.ref ta), .val (.int (42 : Int32)), .val (.ref po), .unset, .unset, .unset] n0_34 rfl rfl ?_
      refine w_iloadN X114 hx hby n0_36 rfl ?_
      refine w_calledp (call_S X114 hx hby hZ hown (argsL := [(.int (1 : Int32))]) (rest := []) (Wd := 0) (hw _ t_34) (hw _ t_35) (hw _ t_36) (hw _ t_37) (by decide) (rPK l Z a0 hw tp ng ze po bo (1 : Int32) h0 S_TOP S_NEGATIVE S_ZERO S_POSITIVE S_BOTTOM) rfl n0_37 (by rw [hml]; rfl) (lenOf pd_99499 rfl) rfl (by decide) (by decide) (by decide) (by decide) e114) rfl rfl fun T115 X115 e115 => ?_
      rw [show own_pk tp ng ze po bo (1 : Int32) = ng from by simp [own_pk]]
      refine w_astore X115 hx hby #[.val (.int x1), .val (.int x2), .val (.int (3 : Int32)), .val (.int (1 : Int32)), .val (.ref ta), .val (.int (42 : Int32)), .val (.ref po), .val (.ref ng), .unset, .unset] n0_40 rfl rfl ?_
      refine w_aload X115 hx hby n0_42 rfl rfl ?_
      refine w_aload X115 hx hby n0_44 rfl rfl ?_
      refine w_calledp (call_V X115 hx hby hZ hown (argsL := [(.ref ng)]) (rest := []) (Wd := 0) (a := po) (hw _ t_43) (hw _ t_44) (hw _ t_46) (hw _ t_45) (hw _ t_39) (hw _ t_47) (by decide) E_POSITIVE (rAD l Z a0 hw tp ng ze po bo po ng h0 S_TOP S_NEGATIVE S_ZERO S_POSITIVE S_BOTTOM) rfl n0_46 (by rw [hml]; rfl) (lenOf pd_318983 rfl) rfl (by decide) (by decide) (by decide) (by decide) e115) rfl rfl fun T116 X116 e116 => ?_
      rw [show own_add tp ze bo po ng = bo from by simp [own_add, d1, d1.symm, d2, d2.symm, d3, d3.symm, d4, d4.symm, d5, d5.symm, d6, d6.symm, d7, d7.symm, d8, d8.symm, d9, d9.symm, d10, d10.symm]]
      refine w_astore X116 hx hby #[.val (.int x1), .val (.int x2), .val (.int (3 : Int32)), .val (.int (1 : Int32)), .val (.ref ta), .val (.int (42 : Int32)), .val (.ref po), .val (.ref ng), .val (.ref bo), .unset] n0_49 rfl rfl ?_
      refine w_aload X116 hx hby n0_51 rfl rfl ?_
      refine w_ifnonnullRef X116 hx hby n0_53 ?_
      refine w_aload X116 hx hby n0_58 rfl rfl ?_
      refine w_calledp (call_V X116 hx hby hZ hown (argsL := []) (rest := []) (Wd := 0) (a := bo) (hw _ t_49) (hw _ t_50) (hw _ t_52) (hw _ t_51) (hw _ t_39) (hw _ t_53) (by decide) E_BOTTOM (rSY l Z a0 hw bo sy_bo h0 Y_BOTTOM) rfl n0_60 (by rw [hml]; rfl) (lenOf pd_30311 rfl) rfl (by decide) (by decide) (by decide) (by decide) e116) rfl rfl fun T117 X117 e117 => ?_
      refine w_astore X117 hx hby #[.val (.int x1), .val (.int x2), .val (.int (3 : Int32)), .val (.int (1 : Int32)), .val (.ref ta), .val (.int (42 : Int32)), .val (.ref po), .val (.ref ng), .val (.ref bo), .val (.ref sy_bo)] n0_63 rfl rfl ?_
      refine w_aload X117 hx hby n0_65 rfl rfl ?_
      refine w_calledp (call_V X117 hx hby hZ hown (argsL := []) (rest := []) (Wd := 0) (a := sy_bo) (hw _ t_56) (hw _ t_57) (hw _ t_59) (hw _ t_58) (hw _ t_2) (hw _ t_60) (by decide) R_BOTTOM.1 (rLN l Z a0 hw sy_bo vb_bo cl_bo (1 : Int32) zc h0 R_BOTTOM S_C P3) rfl n0_67 (by rw [hml]; rfl) (lenOf pd_1265 rfl) rfl (by decide) (by decide) (by decide) (by decide) e117) rfl rfl fun T118 X118 e118 => ?_
      rw [show own_len (1 : Int32) = (1 : Int32) from by decide]
      refine w_iconst X118 hx hby (1 : Int32) n0_70 rfl ?_
      refine f_icmp_ne X118 hx hby n0_71 (fun q71 => by exact absurd q71 (by decide)) (fun q71 => ?_)
      refine w_aload X118 hx hby n0_74 rfl rfl ?_
      refine w_iconst X118 hx hby (0 : Int32) n0_76 rfl ?_
      refine w_calledp (call_V X118 hx hby hZ hown (argsL := [(.int (0 : Int32))]) (rest := []) (Wd := 0) (a := sy_bo) (hw _ t_9) (hw _ t_10) (hw _ t_12) (hw _ t_11) (hw _ t_2) (hw _ t_13) (by decide) R_BOTTOM.1 (rCH l Z a0 hw sy_bo vb_bo cl_bo (1 : Int32) (0 : Int32) (42 : Int32) zc fv h0 R_BOTTOM S_C P3 S_F rF (by decide) (by decide) G_BOTTOM) rfl n0_77 (by rw [hml]; rfl) (lenOf pd_1903 rfl) rfl (by decide) (by decide) (by decide) (by decide) e118) rfl rfl fun T119 X119 e119 => ?_
      rw [show own_ch (42 : Int32) = (42 : Int32) from by decide]
      refine w_iload X119 hx hby n0_80 rfl ?_
      refine f_icmp_ne X119 hx hby n0_82 (fun q82 => by exact absurd q82 (by decide)) (fun q82 => ?_)
      refine w_iconst X119 hx hby (1 : Int32) n0_85 rfl ?_
      refine w_goto X119 hx hby n0_86 ?_
      refine w_retN X119 hx hby e119 hlk hret (by simp) n0_90 (by decide) (by decide) ?_
      exact ⟨rfl, rfl, rfl⟩
    · rw [hj]
      refine w_astore X0 hx hby #[.val (.int x1), .val (.int x2), .val (.int (3 : Int32)), .val (.int (2 : Int32)), .val (.ref ta), .unset, .unset, .unset, .unset, .unset] n0_16 rfl rfl ?_
      refine w_aload X0 hx hby n0_18 rfl rfl ?_
      refine w_iloadN X0 hx hby n0_20 rfl ?_
      refine w_iconst X0 hx hby (5 : Int32) n0_21 rfl ?_
      refine w_imul X0 hx hby n0_22 ?_
      refine w_iloadN X0 hx hby n0_23 rfl ?_
      refine w_iadd X0 hx hby n0_24 ?_
      refine w_calledp (call_V X0 hx hby hZ hown (argsL := [(.int (((3 : Int32) * (5 : Int32)) + (2 : Int32)))]) (rest := []) (Wd := 0) (a := ta) (hw _ t_9) (hw _ t_10) (hw _ t_12) (hw _ t_11) (hw _ t_2) (hw _ t_13) (by decide) RT.1 (rCH l Z a0 hw ta tb clT (25 : Int32) (((3 : Int32) * (5 : Int32)) + (2 : Int32)) (43 : Int32) zc fv h0 RT S_C P3 S_F rF (by decide) (by decide) ⟨inb_of SzT ⟨by decide, by decide⟩, HaT.at (inb_of SzT ⟨by decide, by decide⟩) rfl⟩) rfl n0_25 (by rw [hml]; rfl) (lenOf pd_1903 rfl) rfl (by decide) (by decide) (by decide) (by decide) e0) rfl rfl fun T120 X120 e120 => ?_
      rw [show own_ch (43 : Int32) = (43 : Int32) from by decide]
      refine w_istore X120 hx hby #[.val (.int x1), .val (.int x2), .val (.int (3 : Int32)), .val (.int (2 : Int32)), .val (.ref ta), .val (.int (43 : Int32)), .unset, .unset, .unset, .unset] n0_28 rfl ?_
      refine w_iloadN X120 hx hby n0_30 rfl ?_
      refine w_calledp (call_S X120 hx hby hZ hown (argsL := [(.int (3 : Int32))]) (rest := []) (Wd := 0) (hw _ t_34) (hw _ t_35) (hw _ t_36) (hw _ t_37) (by decide) (rPK l Z a0 hw tp ng ze po bo (3 : Int32) h0 S_TOP S_NEGATIVE S_ZERO S_POSITIVE S_BOTTOM) rfl n0_31 (by rw [hml]; rfl) (lenOf pd_99499 rfl) rfl (by decide) (by decide) (by decide) (by decide) e120) rfl rfl fun T121 X121 e121 => ?_
      rw [show own_pk tp ng ze po bo (3 : Int32) = po from by simp [own_pk]]
      refine w_astore X121 hx hby #[.val (.int x1), .val (.int x2), .val (.int (3 : Int32)), .val (.int (2 : Int32)), .val (.ref ta), .val (.int (43 : Int32)), .val (.ref po), .unset, .unset, .unset] n0_34 rfl rfl ?_
      refine w_iloadN X121 hx hby n0_36 rfl ?_
      refine w_calledp (call_S X121 hx hby hZ hown (argsL := [(.int (2 : Int32))]) (rest := []) (Wd := 0) (hw _ t_34) (hw _ t_35) (hw _ t_36) (hw _ t_37) (by decide) (rPK l Z a0 hw tp ng ze po bo (2 : Int32) h0 S_TOP S_NEGATIVE S_ZERO S_POSITIVE S_BOTTOM) rfl n0_37 (by rw [hml]; rfl) (lenOf pd_99499 rfl) rfl (by decide) (by decide) (by decide) (by decide) e121) rfl rfl fun T122 X122 e122 => ?_
      rw [show own_pk tp ng ze po bo (2 : Int32) = ze from by simp [own_pk]]
      refine w_astore X122 hx hby #[.val (.int x1), .val (.int x2), .val (.int (3 : Int32)), .val (.int (2 : Int32)), .val (.ref ta), .val (.int (43 : Int32)), .val (.ref po), .val (.ref ze), .unset, .unset] n0_40 rfl rfl ?_
      refine w_aload X122 hx hby n0_42 rfl rfl ?_
      refine w_aload X122 hx hby n0_44 rfl rfl ?_
      refine w_calledp (call_V X122 hx hby hZ hown (argsL := [(.ref ze)]) (rest := []) (Wd := 0) (a := po) (hw _ t_43) (hw _ t_44) (hw _ t_46) (hw _ t_45) (hw _ t_39) (hw _ t_47) (by decide) E_POSITIVE (rAD l Z a0 hw tp ng ze po bo po ze h0 S_TOP S_NEGATIVE S_ZERO S_POSITIVE S_BOTTOM) rfl n0_46 (by rw [hml]; rfl) (lenOf pd_318983 rfl) rfl (by decide) (by decide) (by decide) (by decide) e122) rfl rfl fun T123 X123 e123 => ?_
      rw [show own_add tp ze bo po ze = po from by simp [own_add, d1, d1.symm, d2, d2.symm, d3, d3.symm, d4, d4.symm, d5, d5.symm, d6, d6.symm, d7, d7.symm, d8, d8.symm, d9, d9.symm, d10, d10.symm]]
      refine w_astore X123 hx hby #[.val (.int x1), .val (.int x2), .val (.int (3 : Int32)), .val (.int (2 : Int32)), .val (.ref ta), .val (.int (43 : Int32)), .val (.ref po), .val (.ref ze), .val (.ref po), .unset] n0_49 rfl rfl ?_
      refine w_aload X123 hx hby n0_51 rfl rfl ?_
      refine w_ifnonnullRef X123 hx hby n0_53 ?_
      refine w_aload X123 hx hby n0_58 rfl rfl ?_
      refine w_calledp (call_V X123 hx hby hZ hown (argsL := []) (rest := []) (Wd := 0) (a := po) (hw _ t_49) (hw _ t_50) (hw _ t_52) (hw _ t_51) (hw _ t_39) (hw _ t_53) (by decide) E_POSITIVE (rSY l Z a0 hw po sy_po h0 Y_POSITIVE) rfl n0_60 (by rw [hml]; rfl) (lenOf pd_30311 rfl) rfl (by decide) (by decide) (by decide) (by decide) e123) rfl rfl fun T124 X124 e124 => ?_
      refine w_astore X124 hx hby #[.val (.int x1), .val (.int x2), .val (.int (3 : Int32)), .val (.int (2 : Int32)), .val (.ref ta), .val (.int (43 : Int32)), .val (.ref po), .val (.ref ze), .val (.ref po), .val (.ref sy_po)] n0_63 rfl rfl ?_
      refine w_aload X124 hx hby n0_65 rfl rfl ?_
      refine w_calledp (call_V X124 hx hby hZ hown (argsL := []) (rest := []) (Wd := 0) (a := sy_po) (hw _ t_56) (hw _ t_57) (hw _ t_59) (hw _ t_58) (hw _ t_2) (hw _ t_60) (by decide) R_POSITIVE.1 (rLN l Z a0 hw sy_po vb_po cl_po (1 : Int32) zc h0 R_POSITIVE S_C P3) rfl n0_67 (by rw [hml]; rfl) (lenOf pd_1265 rfl) rfl (by decide) (by decide) (by decide) (by decide) e124) rfl rfl fun T125 X125 e125 => ?_
      rw [show own_len (1 : Int32) = (1 : Int32) from by decide]
      refine w_iconst X125 hx hby (1 : Int32) n0_70 rfl ?_
      refine f_icmp_ne X125 hx hby n0_71 (fun q71 => by exact absurd q71 (by decide)) (fun q71 => ?_)
      refine w_aload X125 hx hby n0_74 rfl rfl ?_
      refine w_iconst X125 hx hby (0 : Int32) n0_76 rfl ?_
      refine w_calledp (call_V X125 hx hby hZ hown (argsL := [(.int (0 : Int32))]) (rest := []) (Wd := 0) (a := sy_po) (hw _ t_9) (hw _ t_10) (hw _ t_12) (hw _ t_11) (hw _ t_2) (hw _ t_13) (by decide) R_POSITIVE.1 (rCH l Z a0 hw sy_po vb_po cl_po (1 : Int32) (0 : Int32) (43 : Int32) zc fv h0 R_POSITIVE S_C P3 S_F rF (by decide) (by decide) G_POSITIVE) rfl n0_77 (by rw [hml]; rfl) (lenOf pd_1903 rfl) rfl (by decide) (by decide) (by decide) (by decide) e125) rfl rfl fun T126 X126 e126 => ?_
      rw [show own_ch (43 : Int32) = (43 : Int32) from by decide]
      refine w_iload X126 hx hby n0_80 rfl ?_
      refine f_icmp_ne X126 hx hby n0_82 (fun q82 => by exact absurd q82 (by decide)) (fun q82 => ?_)
      refine w_iconst X126 hx hby (1 : Int32) n0_85 rfl ?_
      refine w_goto X126 hx hby n0_86 ?_
      refine w_retN X126 hx hby e126 hlk hret (by simp) n0_90 (by decide) (by decide) ?_
      exact ⟨rfl, rfl, rfl⟩
    · rw [hj]
      refine w_astore X0 hx hby #[.val (.int x1), .val (.int x2), .val (.int (3 : Int32)), .val (.int (3 : Int32)), .val (.ref ta), .unset, .unset, .unset, .unset, .unset] n0_16 rfl rfl ?_
      refine w_aload X0 hx hby n0_18 rfl rfl ?_
      refine w_iloadN X0 hx hby n0_20 rfl ?_
      refine w_iconst X0 hx hby (5 : Int32) n0_21 rfl ?_
      refine w_imul X0 hx hby n0_22 ?_
      refine w_iloadN X0 hx hby n0_23 rfl ?_
      refine w_iadd X0 hx hby n0_24 ?_
      refine w_calledp (call_V X0 hx hby hZ hown (argsL := [(.int (((3 : Int32) * (5 : Int32)) + (3 : Int32)))]) (rest := []) (Wd := 0) (a := ta) (hw _ t_9) (hw _ t_10) (hw _ t_12) (hw _ t_11) (hw _ t_2) (hw _ t_13) (by decide) RT.1 (rCH l Z a0 hw ta tb clT (25 : Int32) (((3 : Int32) * (5 : Int32)) + (3 : Int32)) (43 : Int32) zc fv h0 RT S_C P3 S_F rF (by decide) (by decide) ⟨inb_of SzT ⟨by decide, by decide⟩, HaT.at (inb_of SzT ⟨by decide, by decide⟩) rfl⟩) rfl n0_25 (by rw [hml]; rfl) (lenOf pd_1903 rfl) rfl (by decide) (by decide) (by decide) (by decide) e0) rfl rfl fun T127 X127 e127 => ?_
      rw [show own_ch (43 : Int32) = (43 : Int32) from by decide]
      refine w_istore X127 hx hby #[.val (.int x1), .val (.int x2), .val (.int (3 : Int32)), .val (.int (3 : Int32)), .val (.ref ta), .val (.int (43 : Int32)), .unset, .unset, .unset, .unset] n0_28 rfl ?_
      refine w_iloadN X127 hx hby n0_30 rfl ?_
      refine w_calledp (call_S X127 hx hby hZ hown (argsL := [(.int (3 : Int32))]) (rest := []) (Wd := 0) (hw _ t_34) (hw _ t_35) (hw _ t_36) (hw _ t_37) (by decide) (rPK l Z a0 hw tp ng ze po bo (3 : Int32) h0 S_TOP S_NEGATIVE S_ZERO S_POSITIVE S_BOTTOM) rfl n0_31 (by rw [hml]; rfl) (lenOf pd_99499 rfl) rfl (by decide) (by decide) (by decide) (by decide) e127) rfl rfl fun T128 X128 e128 => ?_
      rw [show own_pk tp ng ze po bo (3 : Int32) = po from by simp [own_pk]]
      refine w_astore X128 hx hby #[.val (.int x1), .val (.int x2), .val (.int (3 : Int32)), .val (.int (3 : Int32)), .val (.ref ta), .val (.int (43 : Int32)), .val (.ref po), .unset, .unset, .unset] n0_34 rfl rfl ?_
      refine w_iloadN X128 hx hby n0_36 rfl ?_
      refine w_calledp (call_S X128 hx hby hZ hown (argsL := [(.int (3 : Int32))]) (rest := []) (Wd := 0) (hw _ t_34) (hw _ t_35) (hw _ t_36) (hw _ t_37) (by decide) (rPK l Z a0 hw tp ng ze po bo (3 : Int32) h0 S_TOP S_NEGATIVE S_ZERO S_POSITIVE S_BOTTOM) rfl n0_37 (by rw [hml]; rfl) (lenOf pd_99499 rfl) rfl (by decide) (by decide) (by decide) (by decide) e128) rfl rfl fun T129 X129 e129 => ?_
      rw [show own_pk tp ng ze po bo (3 : Int32) = po from by simp [own_pk]]
      refine w_astore X129 hx hby #[.val (.int x1), .val (.int x2), .val (.int (3 : Int32)), .val (.int (3 : Int32)), .val (.ref ta), .val (.int (43 : Int32)), .val (.ref po), .val (.ref po), .unset, .unset] n0_40 rfl rfl ?_
      refine w_aload X129 hx hby n0_42 rfl rfl ?_
      refine w_aload X129 hx hby n0_44 rfl rfl ?_
      refine w_calledp (call_V X129 hx hby hZ hown (argsL := [(.ref po)]) (rest := []) (Wd := 0) (a := po) (hw _ t_43) (hw _ t_44) (hw _ t_46) (hw _ t_45) (hw _ t_39) (hw _ t_47) (by decide) E_POSITIVE (rAD l Z a0 hw tp ng ze po bo po po h0 S_TOP S_NEGATIVE S_ZERO S_POSITIVE S_BOTTOM) rfl n0_46 (by rw [hml]; rfl) (lenOf pd_318983 rfl) rfl (by decide) (by decide) (by decide) (by decide) e129) rfl rfl fun T130 X130 e130 => ?_
      rw [show own_add tp ze bo po po = po from by simp [own_add, d1, d1.symm, d2, d2.symm, d3, d3.symm, d4, d4.symm, d5, d5.symm, d6, d6.symm, d7, d7.symm, d8, d8.symm, d9, d9.symm, d10, d10.symm]]
      refine w_astore X130 hx hby #[.val (.int x1), .val (.int x2), .val (.int (3 : Int32)), .val (.int (3 : Int32)), .val (.ref ta), .val (.int (43 : Int32)), .val (.ref po), .val (.ref po), .val (.ref po), .unset] n0_49 rfl rfl ?_
      refine w_aload X130 hx hby n0_51 rfl rfl ?_
      refine w_ifnonnullRef X130 hx hby n0_53 ?_
      refine w_aload X130 hx hby n0_58 rfl rfl ?_
      refine w_calledp (call_V X130 hx hby hZ hown (argsL := []) (rest := []) (Wd := 0) (a := po) (hw _ t_49) (hw _ t_50) (hw _ t_52) (hw _ t_51) (hw _ t_39) (hw _ t_53) (by decide) E_POSITIVE (rSY l Z a0 hw po sy_po h0 Y_POSITIVE) rfl n0_60 (by rw [hml]; rfl) (lenOf pd_30311 rfl) rfl (by decide) (by decide) (by decide) (by decide) e130) rfl rfl fun T131 X131 e131 => ?_
      refine w_astore X131 hx hby #[.val (.int x1), .val (.int x2), .val (.int (3 : Int32)), .val (.int (3 : Int32)), .val (.ref ta), .val (.int (43 : Int32)), .val (.ref po), .val (.ref po), .val (.ref po), .val (.ref sy_po)] n0_63 rfl rfl ?_
      refine w_aload X131 hx hby n0_65 rfl rfl ?_
      refine w_calledp (call_V X131 hx hby hZ hown (argsL := []) (rest := []) (Wd := 0) (a := sy_po) (hw _ t_56) (hw _ t_57) (hw _ t_59) (hw _ t_58) (hw _ t_2) (hw _ t_60) (by decide) R_POSITIVE.1 (rLN l Z a0 hw sy_po vb_po cl_po (1 : Int32) zc h0 R_POSITIVE S_C P3) rfl n0_67 (by rw [hml]; rfl) (lenOf pd_1265 rfl) rfl (by decide) (by decide) (by decide) (by decide) e131) rfl rfl fun T132 X132 e132 => ?_
      rw [show own_len (1 : Int32) = (1 : Int32) from by decide]
      refine w_iconst X132 hx hby (1 : Int32) n0_70 rfl ?_
      refine f_icmp_ne X132 hx hby n0_71 (fun q71 => by exact absurd q71 (by decide)) (fun q71 => ?_)
      refine w_aload X132 hx hby n0_74 rfl rfl ?_
      refine w_iconst X132 hx hby (0 : Int32) n0_76 rfl ?_
      refine w_calledp (call_V X132 hx hby hZ hown (argsL := [(.int (0 : Int32))]) (rest := []) (Wd := 0) (a := sy_po) (hw _ t_9) (hw _ t_10) (hw _ t_12) (hw _ t_11) (hw _ t_2) (hw _ t_13) (by decide) R_POSITIVE.1 (rCH l Z a0 hw sy_po vb_po cl_po (1 : Int32) (0 : Int32) (43 : Int32) zc fv h0 R_POSITIVE S_C P3 S_F rF (by decide) (by decide) G_POSITIVE) rfl n0_77 (by rw [hml]; rfl) (lenOf pd_1903 rfl) rfl (by decide) (by decide) (by decide) (by decide) e132) rfl rfl fun T133 X133 e133 => ?_
      rw [show own_ch (43 : Int32) = (43 : Int32) from by decide]
      refine w_iload X133 hx hby n0_80 rfl ?_
      refine f_icmp_ne X133 hx hby n0_82 (fun q82 => by exact absurd q82 (by decide)) (fun q82 => ?_)
      refine w_iconst X133 hx hby (1 : Int32) n0_85 rfl ?_
      refine w_goto X133 hx hby n0_86 ?_
      refine w_retN X133 hx hby e133 hlk hret (by simp) n0_90 (by decide) (by decide) ?_
      exact ⟨rfl, rfl, rfl⟩
    · rw [hj]
      refine w_astore X0 hx hby #[.val (.int x1), .val (.int x2), .val (.int (3 : Int32)), .val (.int (4 : Int32)), .val (.ref ta), .unset, .unset, .unset, .unset, .unset] n0_16 rfl rfl ?_
      refine w_aload X0 hx hby n0_18 rfl rfl ?_
      refine w_iloadN X0 hx hby n0_20 rfl ?_
      refine w_iconst X0 hx hby (5 : Int32) n0_21 rfl ?_
      refine w_imul X0 hx hby n0_22 ?_
      refine w_iloadN X0 hx hby n0_23 rfl ?_
      refine w_iadd X0 hx hby n0_24 ?_
      refine w_calledp (call_V X0 hx hby hZ hown (argsL := [(.int (((3 : Int32) * (5 : Int32)) + (4 : Int32)))]) (rest := []) (Wd := 0) (a := ta) (hw _ t_9) (hw _ t_10) (hw _ t_12) (hw _ t_11) (hw _ t_2) (hw _ t_13) (by decide) RT.1 (rCH l Z a0 hw ta tb clT (25 : Int32) (((3 : Int32) * (5 : Int32)) + (4 : Int32)) (42 : Int32) zc fv h0 RT S_C P3 S_F rF (by decide) (by decide) ⟨inb_of SzT ⟨by decide, by decide⟩, HaT.at (inb_of SzT ⟨by decide, by decide⟩) rfl⟩) rfl n0_25 (by rw [hml]; rfl) (lenOf pd_1903 rfl) rfl (by decide) (by decide) (by decide) (by decide) e0) rfl rfl fun T134 X134 e134 => ?_
      rw [show own_ch (42 : Int32) = (42 : Int32) from by decide]
      refine w_istore X134 hx hby #[.val (.int x1), .val (.int x2), .val (.int (3 : Int32)), .val (.int (4 : Int32)), .val (.ref ta), .val (.int (42 : Int32)), .unset, .unset, .unset, .unset] n0_28 rfl ?_
      refine w_iloadN X134 hx hby n0_30 rfl ?_
      refine w_calledp (call_S X134 hx hby hZ hown (argsL := [(.int (3 : Int32))]) (rest := []) (Wd := 0) (hw _ t_34) (hw _ t_35) (hw _ t_36) (hw _ t_37) (by decide) (rPK l Z a0 hw tp ng ze po bo (3 : Int32) h0 S_TOP S_NEGATIVE S_ZERO S_POSITIVE S_BOTTOM) rfl n0_31 (by rw [hml]; rfl) (lenOf pd_99499 rfl) rfl (by decide) (by decide) (by decide) (by decide) e134) rfl rfl fun T135 X135 e135 => ?_
      rw [show own_pk tp ng ze po bo (3 : Int32) = po from by simp [own_pk]]
      refine w_astore X135 hx hby #[.val (.int x1), .val (.int x2), .val (.int (3 : Int32)), .val (.int (4 : Int32)), .val (.ref ta), .val (.int (42 : Int32)), .val (.ref po), .unset, .unset, .unset] n0_34 rfl rfl ?_
      refine w_iloadN X135 hx hby n0_36 rfl ?_
      refine w_calledp (call_S X135 hx hby hZ hown (argsL := [(.int (4 : Int32))]) (rest := []) (Wd := 0) (hw _ t_34) (hw _ t_35) (hw _ t_36) (hw _ t_37) (by decide) (rPK l Z a0 hw tp ng ze po bo (4 : Int32) h0 S_TOP S_NEGATIVE S_ZERO S_POSITIVE S_BOTTOM) rfl n0_37 (by rw [hml]; rfl) (lenOf pd_99499 rfl) rfl (by decide) (by decide) (by decide) (by decide) e135) rfl rfl fun T136 X136 e136 => ?_
      rw [show own_pk tp ng ze po bo (4 : Int32) = bo from by simp [own_pk]]
      refine w_astore X136 hx hby #[.val (.int x1), .val (.int x2), .val (.int (3 : Int32)), .val (.int (4 : Int32)), .val (.ref ta), .val (.int (42 : Int32)), .val (.ref po), .val (.ref bo), .unset, .unset] n0_40 rfl rfl ?_
      refine w_aload X136 hx hby n0_42 rfl rfl ?_
      refine w_aload X136 hx hby n0_44 rfl rfl ?_
      refine w_calledp (call_V X136 hx hby hZ hown (argsL := [(.ref bo)]) (rest := []) (Wd := 0) (a := po) (hw _ t_43) (hw _ t_44) (hw _ t_46) (hw _ t_45) (hw _ t_39) (hw _ t_47) (by decide) E_POSITIVE (rAD l Z a0 hw tp ng ze po bo po bo h0 S_TOP S_NEGATIVE S_ZERO S_POSITIVE S_BOTTOM) rfl n0_46 (by rw [hml]; rfl) (lenOf pd_318983 rfl) rfl (by decide) (by decide) (by decide) (by decide) e136) rfl rfl fun T137 X137 e137 => ?_
      rw [show own_add tp ze bo po bo = bo from by simp [own_add, d1, d1.symm, d2, d2.symm, d3, d3.symm, d4, d4.symm, d5, d5.symm, d6, d6.symm, d7, d7.symm, d8, d8.symm, d9, d9.symm, d10, d10.symm]]
      refine w_astore X137 hx hby #[.val (.int x1), .val (.int x2), .val (.int (3 : Int32)), .val (.int (4 : Int32)), .val (.ref ta), .val (.int (42 : Int32)), .val (.ref po), .val (.ref bo), .val (.ref bo), .unset] n0_49 rfl rfl ?_
      refine w_aload X137 hx hby n0_51 rfl rfl ?_
      refine w_ifnonnullRef X137 hx hby n0_53 ?_
      refine w_aload X137 hx hby n0_58 rfl rfl ?_
      refine w_calledp (call_V X137 hx hby hZ hown (argsL := []) (rest := []) (Wd := 0) (a := bo) (hw _ t_49) (hw _ t_50) (hw _ t_52) (hw _ t_51) (hw _ t_39) (hw _ t_53) (by decide) E_BOTTOM (rSY l Z a0 hw bo sy_bo h0 Y_BOTTOM) rfl n0_60 (by rw [hml]; rfl) (lenOf pd_30311 rfl) rfl (by decide) (by decide) (by decide) (by decide) e137) rfl rfl fun T138 X138 e138 => ?_
      refine w_astore X138 hx hby #[.val (.int x1), .val (.int x2), .val (.int (3 : Int32)), .val (.int (4 : Int32)), .val (.ref ta), .val (.int (42 : Int32)), .val (.ref po), .val (.ref bo), .val (.ref bo), .val (.ref sy_bo)] n0_63 rfl rfl ?_
      refine w_aload X138 hx hby n0_65 rfl rfl ?_
      refine w_calledp (call_V X138 hx hby hZ hown (argsL := []) (rest := []) (Wd := 0) (a := sy_bo) (hw _ t_56) (hw _ t_57) (hw _ t_59) (hw _ t_58) (hw _ t_2) (hw _ t_60) (by decide) R_BOTTOM.1 (rLN l Z a0 hw sy_bo vb_bo cl_bo (1 : Int32) zc h0 R_BOTTOM S_C P3) rfl n0_67 (by rw [hml]; rfl) (lenOf pd_1265 rfl) rfl (by decide) (by decide) (by decide) (by decide) e138) rfl rfl fun T139 X139 e139 => ?_
      rw [show own_len (1 : Int32) = (1 : Int32) from by decide]
      refine w_iconst X139 hx hby (1 : Int32) n0_70 rfl ?_
      refine f_icmp_ne X139 hx hby n0_71 (fun q71 => by exact absurd q71 (by decide)) (fun q71 => ?_)
      refine w_aload X139 hx hby n0_74 rfl rfl ?_
      refine w_iconst X139 hx hby (0 : Int32) n0_76 rfl ?_
      refine w_calledp (call_V X139 hx hby hZ hown (argsL := [(.int (0 : Int32))]) (rest := []) (Wd := 0) (a := sy_bo) (hw _ t_9) (hw _ t_10) (hw _ t_12) (hw _ t_11) (hw _ t_2) (hw _ t_13) (by decide) R_BOTTOM.1 (rCH l Z a0 hw sy_bo vb_bo cl_bo (1 : Int32) (0 : Int32) (42 : Int32) zc fv h0 R_BOTTOM S_C P3 S_F rF (by decide) (by decide) G_BOTTOM) rfl n0_77 (by rw [hml]; rfl) (lenOf pd_1903 rfl) rfl (by decide) (by decide) (by decide) (by decide) e139) rfl rfl fun T140 X140 e140 => ?_
      rw [show own_ch (42 : Int32) = (42 : Int32) from by decide]
      refine w_iload X140 hx hby n0_80 rfl ?_
      refine f_icmp_ne X140 hx hby n0_82 (fun q82 => by exact absurd q82 (by decide)) (fun q82 => ?_)
      refine w_iconst X140 hx hby (1 : Int32) n0_85 rfl ?_
      refine w_goto X140 hx hby n0_86 ?_
      refine w_retN X140 hx hby e140 hlk hret (by simp) n0_90 (by decide) (by decide) ?_
      exact ⟨rfl, rfl, rfl⟩
  · rw [hi]
    rcases own_five x2 with hj | hj | hj | hj | hj
    · rw [hj]
      refine w_astore X0 hx hby #[.val (.int x1), .val (.int x2), .val (.int (4 : Int32)), .val (.int (0 : Int32)), .val (.ref ta), .unset, .unset, .unset, .unset, .unset] n0_16 rfl rfl ?_
      refine w_aload X0 hx hby n0_18 rfl rfl ?_
      refine w_iloadN X0 hx hby n0_20 rfl ?_
      refine w_iconst X0 hx hby (5 : Int32) n0_21 rfl ?_
      refine w_imul X0 hx hby n0_22 ?_
      refine w_iloadN X0 hx hby n0_23 rfl ?_
      refine w_iadd X0 hx hby n0_24 ?_
      refine w_calledp (call_V X0 hx hby hZ hown (argsL := [(.int (((4 : Int32) * (5 : Int32)) + (0 : Int32)))]) (rest := []) (Wd := 0) (a := ta) (hw _ t_9) (hw _ t_10) (hw _ t_12) (hw _ t_11) (hw _ t_2) (hw _ t_13) (by decide) RT.1 (rCH l Z a0 hw ta tb clT (25 : Int32) (((4 : Int32) * (5 : Int32)) + (0 : Int32)) (84 : Int32) zc fv h0 RT S_C P3 S_F rF (by decide) (by decide) ⟨inb_of SzT ⟨by decide, by decide⟩, HaT.at (inb_of SzT ⟨by decide, by decide⟩) rfl⟩) rfl n0_25 (by rw [hml]; rfl) (lenOf pd_1903 rfl) rfl (by decide) (by decide) (by decide) (by decide) e0) rfl rfl fun T141 X141 e141 => ?_
      rw [show own_ch (84 : Int32) = (84 : Int32) from by decide]
      refine w_istore X141 hx hby #[.val (.int x1), .val (.int x2), .val (.int (4 : Int32)), .val (.int (0 : Int32)), .val (.ref ta), .val (.int (84 : Int32)), .unset, .unset, .unset, .unset] n0_28 rfl ?_
      refine w_iloadN X141 hx hby n0_30 rfl ?_
      refine w_calledp (call_S X141 hx hby hZ hown (argsL := [(.int (4 : Int32))]) (rest := []) (Wd := 0) (hw _ t_34) (hw _ t_35) (hw _ t_36) (hw _ t_37) (by decide) (rPK l Z a0 hw tp ng ze po bo (4 : Int32) h0 S_TOP S_NEGATIVE S_ZERO S_POSITIVE S_BOTTOM) rfl n0_31 (by rw [hml]; rfl) (lenOf pd_99499 rfl) rfl (by decide) (by decide) (by decide) (by decide) e141) rfl rfl fun T142 X142 e142 => ?_
      rw [show own_pk tp ng ze po bo (4 : Int32) = bo from by simp [own_pk]]
      refine w_astore X142 hx hby #[.val (.int x1), .val (.int x2), .val (.int (4 : Int32)), .val (.int (0 : Int32)), .val (.ref ta), .val (.int (84 : Int32)), .val (.ref bo), .unset, .unset, .unset] n0_34 rfl rfl ?_
      refine w_iloadN X142 hx hby n0_36 rfl ?_
      refine w_calledp (call_S X142 hx hby hZ hown (argsL := [(.int (0 : Int32))]) (rest := []) (Wd := 0) (hw _ t_34) (hw _ t_35) (hw _ t_36) (hw _ t_37) (by decide) (rPK l Z a0 hw tp ng ze po bo (0 : Int32) h0 S_TOP S_NEGATIVE S_ZERO S_POSITIVE S_BOTTOM) rfl n0_37 (by rw [hml]; rfl) (lenOf pd_99499 rfl) rfl (by decide) (by decide) (by decide) (by decide) e142) rfl rfl fun T143 X143 e143 => ?_
      rw [show own_pk tp ng ze po bo (0 : Int32) = tp from by simp [own_pk]]
      refine w_astore X143 hx hby #[.val (.int x1), .val (.int x2), .val (.int (4 : Int32)), .val (.int (0 : Int32)), .val (.ref ta), .val (.int (84 : Int32)), .val (.ref bo), .val (.ref tp), .unset, .unset] n0_40 rfl rfl ?_
      refine w_aload X143 hx hby n0_42 rfl rfl ?_
      refine w_aload X143 hx hby n0_44 rfl rfl ?_
      refine w_calledp (call_V X143 hx hby hZ hown (argsL := [(.ref tp)]) (rest := []) (Wd := 0) (a := bo) (hw _ t_43) (hw _ t_44) (hw _ t_46) (hw _ t_45) (hw _ t_39) (hw _ t_47) (by decide) E_BOTTOM (rAD l Z a0 hw tp ng ze po bo bo tp h0 S_TOP S_NEGATIVE S_ZERO S_POSITIVE S_BOTTOM) rfl n0_46 (by rw [hml]; rfl) (lenOf pd_318983 rfl) rfl (by decide) (by decide) (by decide) (by decide) e143) rfl rfl fun T144 X144 e144 => ?_
      rw [show own_add tp ze bo bo tp = tp from by simp [own_add, d1, d1.symm, d2, d2.symm, d3, d3.symm, d4, d4.symm, d5, d5.symm, d6, d6.symm, d7, d7.symm, d8, d8.symm, d9, d9.symm, d10, d10.symm]]
      refine w_astore X144 hx hby #[.val (.int x1), .val (.int x2), .val (.int (4 : Int32)), .val (.int (0 : Int32)), .val (.ref ta), .val (.int (84 : Int32)), .val (.ref bo), .val (.ref tp), .val (.ref tp), .unset] n0_49 rfl rfl ?_
      refine w_aload X144 hx hby n0_51 rfl rfl ?_
      refine w_ifnonnullRef X144 hx hby n0_53 ?_
      refine w_aload X144 hx hby n0_58 rfl rfl ?_
      refine w_calledp (call_V X144 hx hby hZ hown (argsL := []) (rest := []) (Wd := 0) (a := tp) (hw _ t_49) (hw _ t_50) (hw _ t_52) (hw _ t_51) (hw _ t_39) (hw _ t_53) (by decide) E_TOP (rSY l Z a0 hw tp sy_tp h0 Y_TOP) rfl n0_60 (by rw [hml]; rfl) (lenOf pd_30311 rfl) rfl (by decide) (by decide) (by decide) (by decide) e144) rfl rfl fun T145 X145 e145 => ?_
      refine w_astore X145 hx hby #[.val (.int x1), .val (.int x2), .val (.int (4 : Int32)), .val (.int (0 : Int32)), .val (.ref ta), .val (.int (84 : Int32)), .val (.ref bo), .val (.ref tp), .val (.ref tp), .val (.ref sy_tp)] n0_63 rfl rfl ?_
      refine w_aload X145 hx hby n0_65 rfl rfl ?_
      refine w_calledp (call_V X145 hx hby hZ hown (argsL := []) (rest := []) (Wd := 0) (a := sy_tp) (hw _ t_56) (hw _ t_57) (hw _ t_59) (hw _ t_58) (hw _ t_2) (hw _ t_60) (by decide) R_TOP.1 (rLN l Z a0 hw sy_tp vb_tp cl_tp (1 : Int32) zc h0 R_TOP S_C P3) rfl n0_67 (by rw [hml]; rfl) (lenOf pd_1265 rfl) rfl (by decide) (by decide) (by decide) (by decide) e145) rfl rfl fun T146 X146 e146 => ?_
      rw [show own_len (1 : Int32) = (1 : Int32) from by decide]
      refine w_iconst X146 hx hby (1 : Int32) n0_70 rfl ?_
      refine f_icmp_ne X146 hx hby n0_71 (fun q71 => by exact absurd q71 (by decide)) (fun q71 => ?_)
      refine w_aload X146 hx hby n0_74 rfl rfl ?_
      refine w_iconst X146 hx hby (0 : Int32) n0_76 rfl ?_
      refine w_calledp (call_V X146 hx hby hZ hown (argsL := [(.int (0 : Int32))]) (rest := []) (Wd := 0) (a := sy_tp) (hw _ t_9) (hw _ t_10) (hw _ t_12) (hw _ t_11) (hw _ t_2) (hw _ t_13) (by decide) R_TOP.1 (rCH l Z a0 hw sy_tp vb_tp cl_tp (1 : Int32) (0 : Int32) (84 : Int32) zc fv h0 R_TOP S_C P3 S_F rF (by decide) (by decide) G_TOP) rfl n0_77 (by rw [hml]; rfl) (lenOf pd_1903 rfl) rfl (by decide) (by decide) (by decide) (by decide) e146) rfl rfl fun T147 X147 e147 => ?_
      rw [show own_ch (84 : Int32) = (84 : Int32) from by decide]
      refine w_iload X147 hx hby n0_80 rfl ?_
      refine f_icmp_ne X147 hx hby n0_82 (fun q82 => by exact absurd q82 (by decide)) (fun q82 => ?_)
      refine w_iconst X147 hx hby (1 : Int32) n0_85 rfl ?_
      refine w_goto X147 hx hby n0_86 ?_
      refine w_retN X147 hx hby e147 hlk hret (by simp) n0_90 (by decide) (by decide) ?_
      exact ⟨rfl, rfl, rfl⟩
    · rw [hj]
      refine w_astore X0 hx hby #[.val (.int x1), .val (.int x2), .val (.int (4 : Int32)), .val (.int (1 : Int32)), .val (.ref ta), .unset, .unset, .unset, .unset, .unset] n0_16 rfl rfl ?_
      refine w_aload X0 hx hby n0_18 rfl rfl ?_
      refine w_iloadN X0 hx hby n0_20 rfl ?_
      refine w_iconst X0 hx hby (5 : Int32) n0_21 rfl ?_
      refine w_imul X0 hx hby n0_22 ?_
      refine w_iloadN X0 hx hby n0_23 rfl ?_
      refine w_iadd X0 hx hby n0_24 ?_
      refine w_calledp (call_V X0 hx hby hZ hown (argsL := [(.int (((4 : Int32) * (5 : Int32)) + (1 : Int32)))]) (rest := []) (Wd := 0) (a := ta) (hw _ t_9) (hw _ t_10) (hw _ t_12) (hw _ t_11) (hw _ t_2) (hw _ t_13) (by decide) RT.1 (rCH l Z a0 hw ta tb clT (25 : Int32) (((4 : Int32) * (5 : Int32)) + (1 : Int32)) (42 : Int32) zc fv h0 RT S_C P3 S_F rF (by decide) (by decide) ⟨inb_of SzT ⟨by decide, by decide⟩, HaT.at (inb_of SzT ⟨by decide, by decide⟩) rfl⟩) rfl n0_25 (by rw [hml]; rfl) (lenOf pd_1903 rfl) rfl (by decide) (by decide) (by decide) (by decide) e0) rfl rfl fun T148 X148 e148 => ?_
      rw [show own_ch (42 : Int32) = (42 : Int32) from by decide]
      refine w_istore X148 hx hby #[.val (.int x1), .val (.int x2), .val (.int (4 : Int32)), .val (.int (1 : Int32)), .val (.ref ta), .val (.int (42 : Int32)), .unset, .unset, .unset, .unset] n0_28 rfl ?_
      refine w_iloadN X148 hx hby n0_30 rfl ?_
      refine w_calledp (call_S X148 hx hby hZ hown (argsL := [(.int (4 : Int32))]) (rest := []) (Wd := 0) (hw _ t_34) (hw _ t_35) (hw _ t_36) (hw _ t_37) (by decide) (rPK l Z a0 hw tp ng ze po bo (4 : Int32) h0 S_TOP S_NEGATIVE S_ZERO S_POSITIVE S_BOTTOM) rfl n0_31 (by rw [hml]; rfl) (lenOf pd_99499 rfl) rfl (by decide) (by decide) (by decide) (by decide) e148) rfl rfl fun T149 X149 e149 => ?_
      rw [show own_pk tp ng ze po bo (4 : Int32) = bo from by simp [own_pk]]
      refine w_astore X149 hx hby #[.val (.int x1), .val (.int x2), .val (.int (4 : Int32)), .val (.int (1 : Int32)), .val (.ref ta), .val (.int (42 : Int32)), .val (.ref bo), .unset, .unset, .unset] n0_34 rfl rfl ?_
      refine w_iloadN X149 hx hby n0_36 rfl ?_
      refine w_calledp (call_S X149 hx hby hZ hown (argsL := [(.int (1 : Int32))]) (rest := []) (Wd := 0) (hw _ t_34) (hw _ t_35) (hw _ t_36) (hw _ t_37) (by decide) (rPK l Z a0 hw tp ng ze po bo (1 : Int32) h0 S_TOP S_NEGATIVE S_ZERO S_POSITIVE S_BOTTOM) rfl n0_37 (by rw [hml]; rfl) (lenOf pd_99499 rfl) rfl (by decide) (by decide) (by decide) (by decide) e149) rfl rfl fun T150 X150 e150 => ?_
      rw [show own_pk tp ng ze po bo (1 : Int32) = ng from by simp [own_pk]]
      refine w_astore X150 hx hby #[.val (.int x1), .val (.int x2), .val (.int (4 : Int32)), .val (.int (1 : Int32)), .val (.ref ta), .val (.int (42 : Int32)), .val (.ref bo), .val (.ref ng), .unset, .unset] n0_40 rfl rfl ?_
      refine w_aload X150 hx hby n0_42 rfl rfl ?_
      refine w_aload X150 hx hby n0_44 rfl rfl ?_
      refine w_calledp (call_V X150 hx hby hZ hown (argsL := [(.ref ng)]) (rest := []) (Wd := 0) (a := bo) (hw _ t_43) (hw _ t_44) (hw _ t_46) (hw _ t_45) (hw _ t_39) (hw _ t_47) (by decide) E_BOTTOM (rAD l Z a0 hw tp ng ze po bo bo ng h0 S_TOP S_NEGATIVE S_ZERO S_POSITIVE S_BOTTOM) rfl n0_46 (by rw [hml]; rfl) (lenOf pd_318983 rfl) rfl (by decide) (by decide) (by decide) (by decide) e150) rfl rfl fun T151 X151 e151 => ?_
      rw [show own_add tp ze bo bo ng = bo from by simp [own_add, d1, d1.symm, d2, d2.symm, d3, d3.symm, d4, d4.symm, d5, d5.symm, d6, d6.symm, d7, d7.symm, d8, d8.symm, d9, d9.symm, d10, d10.symm]]
      refine w_astore X151 hx hby #[.val (.int x1), .val (.int x2), .val (.int (4 : Int32)), .val (.int (1 : Int32)), .val (.ref ta), .val (.int (42 : Int32)), .val (.ref bo), .val (.ref ng), .val (.ref bo), .unset] n0_49 rfl rfl ?_
      refine w_aload X151 hx hby n0_51 rfl rfl ?_
      refine w_ifnonnullRef X151 hx hby n0_53 ?_
      refine w_aload X151 hx hby n0_58 rfl rfl ?_
      refine w_calledp (call_V X151 hx hby hZ hown (argsL := []) (rest := []) (Wd := 0) (a := bo) (hw _ t_49) (hw _ t_50) (hw _ t_52) (hw _ t_51) (hw _ t_39) (hw _ t_53) (by decide) E_BOTTOM (rSY l Z a0 hw bo sy_bo h0 Y_BOTTOM) rfl n0_60 (by rw [hml]; rfl) (lenOf pd_30311 rfl) rfl (by decide) (by decide) (by decide) (by decide) e151) rfl rfl fun T152 X152 e152 => ?_
      refine w_astore X152 hx hby #[.val (.int x1), .val (.int x2), .val (.int (4 : Int32)), .val (.int (1 : Int32)), .val (.ref ta), .val (.int (42 : Int32)), .val (.ref bo), .val (.ref ng), .val (.ref bo), .val (.ref sy_bo)] n0_63 rfl rfl ?_
      refine w_aload X152 hx hby n0_65 rfl rfl ?_
      refine w_calledp (call_V X152 hx hby hZ hown (argsL := []) (rest := []) (Wd := 0) (a := sy_bo) (hw _ t_56) (hw _ t_57) (hw _ t_59) (hw _ t_58) (hw _ t_2) (hw _ t_60) (by decide) R_BOTTOM.1 (rLN l Z a0 hw sy_bo vb_bo cl_bo (1 : Int32) zc h0 R_BOTTOM S_C P3) rfl n0_67 (by rw [hml]; rfl) (lenOf pd_1265 rfl) rfl (by decide) (by decide) (by decide) (by decide) e152) rfl rfl fun T153 X153 e153 => ?_
      rw [show own_len (1 : Int32) = (1 : Int32) from by decide]
      refine w_iconst X153 hx hby (1 : Int32) n0_70 rfl ?_
      refine f_icmp_ne X153 hx hby n0_71 (fun q71 => by exact absurd q71 (by decide)) (fun q71 => ?_)
      refine w_aload X153 hx hby n0_74 rfl rfl ?_
      refine w_iconst X153 hx hby (0 : Int32) n0_76 rfl ?_
      refine w_calledp (call_V X153 hx hby hZ hown (argsL := [(.int (0 : Int32))]) (rest := []) (Wd := 0) (a := sy_bo) (hw _ t_9) (hw _ t_10) (hw _ t_12) (hw _ t_11) (hw _ t_2) (hw _ t_13) (by decide) R_BOTTOM.1 (rCH l Z a0 hw sy_bo vb_bo cl_bo (1 : Int32) (0 : Int32) (42 : Int32) zc fv h0 R_BOTTOM S_C P3 S_F rF (by decide) (by decide) G_BOTTOM) rfl n0_77 (by rw [hml]; rfl) (lenOf pd_1903 rfl) rfl (by decide) (by decide) (by decide) (by decide) e153) rfl rfl fun T154 X154 e154 => ?_
      rw [show own_ch (42 : Int32) = (42 : Int32) from by decide]
      refine w_iload X154 hx hby n0_80 rfl ?_
      refine f_icmp_ne X154 hx hby n0_82 (fun q82 => by exact absurd q82 (by decide)) (fun q82 => ?_)
      refine w_iconst X154 hx hby (1 : Int32) n0_85 rfl ?_
      refine w_goto X154 hx hby n0_86 ?_
      refine w_retN X154 hx hby e154 hlk hret (by simp) n0_90 (by decide) (by decide) ?_
      exact ⟨rfl, rfl, rfl⟩
    · rw [hj]
      refine w_astore X0 hx hby #[.val (.int x1), .val (.int x2), .val (.int (4 : Int32)), .val (.int (2 : Int32)), .val (.ref ta), .unset, .unset, .unset, .unset, .unset] n0_16 rfl rfl ?_
      refine w_aload X0 hx hby n0_18 rfl rfl ?_
      refine w_iloadN X0 hx hby n0_20 rfl ?_
      refine w_iconst X0 hx hby (5 : Int32) n0_21 rfl ?_
      refine w_imul X0 hx hby n0_22 ?_
      refine w_iloadN X0 hx hby n0_23 rfl ?_
      refine w_iadd X0 hx hby n0_24 ?_
      refine w_calledp (call_V X0 hx hby hZ hown (argsL := [(.int (((4 : Int32) * (5 : Int32)) + (2 : Int32)))]) (rest := []) (Wd := 0) (a := ta) (hw _ t_9) (hw _ t_10) (hw _ t_12) (hw _ t_11) (hw _ t_2) (hw _ t_13) (by decide) RT.1 (rCH l Z a0 hw ta tb clT (25 : Int32) (((4 : Int32) * (5 : Int32)) + (2 : Int32)) (42 : Int32) zc fv h0 RT S_C P3 S_F rF (by decide) (by decide) ⟨inb_of SzT ⟨by decide, by decide⟩, HaT.at (inb_of SzT ⟨by decide, by decide⟩) rfl⟩) rfl n0_25 (by rw [hml]; rfl) (lenOf pd_1903 rfl) rfl (by decide) (by decide) (by decide) (by decide) e0) rfl rfl fun T155 X155 e155 => ?_
      rw [show own_ch (42 : Int32) = (42 : Int32) from by decide]
      refine w_istore X155 hx hby #[.val (.int x1), .val (.int x2), .val (.int (4 : Int32)), .val (.int (2 : Int32)), .val (.ref ta), .val (.int (42 : Int32)), .unset, .unset, .unset, .unset] n0_28 rfl ?_
      refine w_iloadN X155 hx hby n0_30 rfl ?_
      refine w_calledp (call_S X155 hx hby hZ hown (argsL := [(.int (4 : Int32))]) (rest := []) (Wd := 0) (hw _ t_34) (hw _ t_35) (hw _ t_36) (hw _ t_37) (by decide) (rPK l Z a0 hw tp ng ze po bo (4 : Int32) h0 S_TOP S_NEGATIVE S_ZERO S_POSITIVE S_BOTTOM) rfl n0_31 (by rw [hml]; rfl) (lenOf pd_99499 rfl) rfl (by decide) (by decide) (by decide) (by decide) e155) rfl rfl fun T156 X156 e156 => ?_
      rw [show own_pk tp ng ze po bo (4 : Int32) = bo from by simp [own_pk]]
      refine w_astore X156 hx hby #[.val (.int x1), .val (.int x2), .val (.int (4 : Int32)), .val (.int (2 : Int32)), .val (.ref ta), .val (.int (42 : Int32)), .val (.ref bo), .unset, .unset, .unset] n0_34 rfl rfl ?_
      refine w_iloadN X156 hx hby n0_36 rfl ?_
      refine w_calledp (call_S X156 hx hby hZ hown (argsL := [(.int (2 : Int32))]) (rest := []) (Wd := 0) (hw _ t_34) (hw _ t_35) (hw _ t_36) (hw _ t_37) (by decide) (rPK l Z a0 hw tp ng ze po bo (2 : Int32) h0 S_TOP S_NEGATIVE S_ZERO S_POSITIVE S_BOTTOM) rfl n0_37 (by rw [hml]; rfl) (lenOf pd_99499 rfl) rfl (by decide) (by decide) (by decide) (by decide) e156) rfl rfl fun T157 X157 e157 => ?_
      rw [show own_pk tp ng ze po bo (2 : Int32) = ze from by simp [own_pk]]
      refine w_astore X157 hx hby #[.val (.int x1), .val (.int x2), .val (.int (4 : Int32)), .val (.int (2 : Int32)), .val (.ref ta), .val (.int (42 : Int32)), .val (.ref bo), .val (.ref ze), .unset, .unset] n0_40 rfl rfl ?_
      refine w_aload X157 hx hby n0_42 rfl rfl ?_
      refine w_aload X157 hx hby n0_44 rfl rfl ?_
      refine w_calledp (call_V X157 hx hby hZ hown (argsL := [(.ref ze)]) (rest := []) (Wd := 0) (a := bo) (hw _ t_43) (hw _ t_44) (hw _ t_46) (hw _ t_45) (hw _ t_39) (hw _ t_47) (by decide) E_BOTTOM (rAD l Z a0 hw tp ng ze po bo bo ze h0 S_TOP S_NEGATIVE S_ZERO S_POSITIVE S_BOTTOM) rfl n0_46 (by rw [hml]; rfl) (lenOf pd_318983 rfl) rfl (by decide) (by decide) (by decide) (by decide) e157) rfl rfl fun T158 X158 e158 => ?_
      rw [show own_add tp ze bo bo ze = bo from by simp [own_add, d1, d1.symm, d2, d2.symm, d3, d3.symm, d4, d4.symm, d5, d5.symm, d6, d6.symm, d7, d7.symm, d8, d8.symm, d9, d9.symm, d10, d10.symm]]
      refine w_astore X158 hx hby #[.val (.int x1), .val (.int x2), .val (.int (4 : Int32)), .val (.int (2 : Int32)), .val (.ref ta), .val (.int (42 : Int32)), .val (.ref bo), .val (.ref ze), .val (.ref bo), .unset] n0_49 rfl rfl ?_
      refine w_aload X158 hx hby n0_51 rfl rfl ?_
      refine w_ifnonnullRef X158 hx hby n0_53 ?_
      refine w_aload X158 hx hby n0_58 rfl rfl ?_
      refine w_calledp (call_V X158 hx hby hZ hown (argsL := []) (rest := []) (Wd := 0) (a := bo) (hw _ t_49) (hw _ t_50) (hw _ t_52) (hw _ t_51) (hw _ t_39) (hw _ t_53) (by decide) E_BOTTOM (rSY l Z a0 hw bo sy_bo h0 Y_BOTTOM) rfl n0_60 (by rw [hml]; rfl) (lenOf pd_30311 rfl) rfl (by decide) (by decide) (by decide) (by decide) e158) rfl rfl fun T159 X159 e159 => ?_
      refine w_astore X159 hx hby #[.val (.int x1), .val (.int x2), .val (.int (4 : Int32)), .val (.int (2 : Int32)), .val (.ref ta), .val (.int (42 : Int32)), .val (.ref bo), .val (.ref ze), .val (.ref bo), .val (.ref sy_bo)] n0_63 rfl rfl ?_
      refine w_aload X159 hx hby n0_65 rfl rfl ?_
      refine w_calledp (call_V X159 hx hby hZ hown (argsL := []) (rest := []) (Wd := 0) (a := sy_bo) (hw _ t_56) (hw _ t_57) (hw _ t_59) (hw _ t_58) (hw _ t_2) (hw _ t_60) (by decide) R_BOTTOM.1 (rLN l Z a0 hw sy_bo vb_bo cl_bo (1 : Int32) zc h0 R_BOTTOM S_C P3) rfl n0_67 (by rw [hml]; rfl) (lenOf pd_1265 rfl) rfl (by decide) (by decide) (by decide) (by decide) e159) rfl rfl fun T160 X160 e160 => ?_
      rw [show own_len (1 : Int32) = (1 : Int32) from by decide]
      refine w_iconst X160 hx hby (1 : Int32) n0_70 rfl ?_
      refine f_icmp_ne X160 hx hby n0_71 (fun q71 => by exact absurd q71 (by decide)) (fun q71 => ?_)
      refine w_aload X160 hx hby n0_74 rfl rfl ?_
      refine w_iconst X160 hx hby (0 : Int32) n0_76 rfl ?_
      refine w_calledp (call_V X160 hx hby hZ hown (argsL := [(.int (0 : Int32))]) (rest := []) (Wd := 0) (a := sy_bo) (hw _ t_9) (hw _ t_10) (hw _ t_12) (hw _ t_11) (hw _ t_2) (hw _ t_13) (by decide) R_BOTTOM.1 (rCH l Z a0 hw sy_bo vb_bo cl_bo (1 : Int32) (0 : Int32) (42 : Int32) zc fv h0 R_BOTTOM S_C P3 S_F rF (by decide) (by decide) G_BOTTOM) rfl n0_77 (by rw [hml]; rfl) (lenOf pd_1903 rfl) rfl (by decide) (by decide) (by decide) (by decide) e160) rfl rfl fun T161 X161 e161 => ?_
      rw [show own_ch (42 : Int32) = (42 : Int32) from by decide]
      refine w_iload X161 hx hby n0_80 rfl ?_
      refine f_icmp_ne X161 hx hby n0_82 (fun q82 => by exact absurd q82 (by decide)) (fun q82 => ?_)
      refine w_iconst X161 hx hby (1 : Int32) n0_85 rfl ?_
      refine w_goto X161 hx hby n0_86 ?_
      refine w_retN X161 hx hby e161 hlk hret (by simp) n0_90 (by decide) (by decide) ?_
      exact ⟨rfl, rfl, rfl⟩
    · rw [hj]
      refine w_astore X0 hx hby #[.val (.int x1), .val (.int x2), .val (.int (4 : Int32)), .val (.int (3 : Int32)), .val (.ref ta), .unset, .unset, .unset, .unset, .unset] n0_16 rfl rfl ?_
      refine w_aload X0 hx hby n0_18 rfl rfl ?_
      refine w_iloadN X0 hx hby n0_20 rfl ?_
      refine w_iconst X0 hx hby (5 : Int32) n0_21 rfl ?_
      refine w_imul X0 hx hby n0_22 ?_
      refine w_iloadN X0 hx hby n0_23 rfl ?_
      refine w_iadd X0 hx hby n0_24 ?_
      refine w_calledp (call_V X0 hx hby hZ hown (argsL := [(.int (((4 : Int32) * (5 : Int32)) + (3 : Int32)))]) (rest := []) (Wd := 0) (a := ta) (hw _ t_9) (hw _ t_10) (hw _ t_12) (hw _ t_11) (hw _ t_2) (hw _ t_13) (by decide) RT.1 (rCH l Z a0 hw ta tb clT (25 : Int32) (((4 : Int32) * (5 : Int32)) + (3 : Int32)) (42 : Int32) zc fv h0 RT S_C P3 S_F rF (by decide) (by decide) ⟨inb_of SzT ⟨by decide, by decide⟩, HaT.at (inb_of SzT ⟨by decide, by decide⟩) rfl⟩) rfl n0_25 (by rw [hml]; rfl) (lenOf pd_1903 rfl) rfl (by decide) (by decide) (by decide) (by decide) e0) rfl rfl fun T162 X162 e162 => ?_
      rw [show own_ch (42 : Int32) = (42 : Int32) from by decide]
      refine w_istore X162 hx hby #[.val (.int x1), .val (.int x2), .val (.int (4 : Int32)), .val (.int (3 : Int32)), .val (.ref ta), .val (.int (42 : Int32)), .unset, .unset, .unset, .unset] n0_28 rfl ?_
      refine w_iloadN X162 hx hby n0_30 rfl ?_
      refine w_calledp (call_S X162 hx hby hZ hown (argsL := [(.int (4 : Int32))]) (rest := []) (Wd := 0) (hw _ t_34) (hw _ t_35) (hw _ t_36) (hw _ t_37) (by decide) (rPK l Z a0 hw tp ng ze po bo (4 : Int32) h0 S_TOP S_NEGATIVE S_ZERO S_POSITIVE S_BOTTOM) rfl n0_31 (by rw [hml]; rfl) (lenOf pd_99499 rfl) rfl (by decide) (by decide) (by decide) (by decide) e162) rfl rfl fun T163 X163 e163 => ?_
      rw [show own_pk tp ng ze po bo (4 : Int32) = bo from by simp [own_pk]]
      refine w_astore X163 hx hby #[.val (.int x1), .val (.int x2), .val (.int (4 : Int32)), .val (.int (3 : Int32)), .val (.ref ta), .val (.int (42 : Int32)), .val (.ref bo), .unset, .unset, .unset] n0_34 rfl rfl ?_
      refine w_iloadN X163 hx hby n0_36 rfl ?_
      refine w_calledp (call_S X163 hx hby hZ hown (argsL := [(.int (3 : Int32))]) (rest := []) (Wd := 0) (hw _ t_34) (hw _ t_35) (hw _ t_36) (hw _ t_37) (by decide) (rPK l Z a0 hw tp ng ze po bo (3 : Int32) h0 S_TOP S_NEGATIVE S_ZERO S_POSITIVE S_BOTTOM) rfl n0_37 (by rw [hml]; rfl) (lenOf pd_99499 rfl) rfl (by decide) (by decide) (by decide) (by decide) e163) rfl rfl fun T164 X164 e164 => ?_
      rw [show own_pk tp ng ze po bo (3 : Int32) = po from by simp [own_pk]]
      refine w_astore X164 hx hby #[.val (.int x1), .val (.int x2), .val (.int (4 : Int32)), .val (.int (3 : Int32)), .val (.ref ta), .val (.int (42 : Int32)), .val (.ref bo), .val (.ref po), .unset, .unset] n0_40 rfl rfl ?_
      refine w_aload X164 hx hby n0_42 rfl rfl ?_
      refine w_aload X164 hx hby n0_44 rfl rfl ?_
      refine w_calledp (call_V X164 hx hby hZ hown (argsL := [(.ref po)]) (rest := []) (Wd := 0) (a := bo) (hw _ t_43) (hw _ t_44) (hw _ t_46) (hw _ t_45) (hw _ t_39) (hw _ t_47) (by decide) E_BOTTOM (rAD l Z a0 hw tp ng ze po bo bo po h0 S_TOP S_NEGATIVE S_ZERO S_POSITIVE S_BOTTOM) rfl n0_46 (by rw [hml]; rfl) (lenOf pd_318983 rfl) rfl (by decide) (by decide) (by decide) (by decide) e164) rfl rfl fun T165 X165 e165 => ?_
      rw [show own_add tp ze bo bo po = bo from by simp [own_add, d1, d1.symm, d2, d2.symm, d3, d3.symm, d4, d4.symm, d5, d5.symm, d6, d6.symm, d7, d7.symm, d8, d8.symm, d9, d9.symm, d10, d10.symm]]
      refine w_astore X165 hx hby #[.val (.int x1), .val (.int x2), .val (.int (4 : Int32)), .val (.int (3 : Int32)), .val (.ref ta), .val (.int (42 : Int32)), .val (.ref bo), .val (.ref po), .val (.ref bo), .unset] n0_49 rfl rfl ?_
      refine w_aload X165 hx hby n0_51 rfl rfl ?_
      refine w_ifnonnullRef X165 hx hby n0_53 ?_
      refine w_aload X165 hx hby n0_58 rfl rfl ?_
      refine w_calledp (call_V X165 hx hby hZ hown (argsL := []) (rest := []) (Wd := 0) (a := bo) (hw _ t_49) (hw _ t_50) (hw _ t_52) (hw _ t_51) (hw _ t_39) (hw _ t_53) (by decide) E_BOTTOM (rSY l Z a0 hw bo sy_bo h0 Y_BOTTOM) rfl n0_60 (by rw [hml]; rfl) (lenOf pd_30311 rfl) rfl (by decide) (by decide) (by decide) (by decide) e165) rfl rfl fun T166 X166 e166 => ?_
      refine w_astore X166 hx hby #[.val (.int x1), .val (.int x2), .val (.int (4 : Int32)), .val (.int (3 : Int32)), .val (.ref ta), .val (.int (42 : Int32)), .val (.ref bo), .val (.ref po), .val (.ref bo), .val (.ref sy_bo)] n0_63 rfl rfl ?_
      refine w_aload X166 hx hby n0_65 rfl rfl ?_
      refine w_calledp (call_V X166 hx hby hZ hown (argsL := []) (rest := []) (Wd := 0) (a := sy_bo) (hw _ t_56) (hw _ t_57) (hw _ t_59) (hw _ t_58) (hw _ t_2) (hw _ t_60) (by decide) R_BOTTOM.1 (rLN l Z a0 hw sy_bo vb_bo cl_bo (1 : Int32) zc h0 R_BOTTOM S_C P3) rfl n0_67 (by rw [hml]; rfl) (lenOf pd_1265 rfl) rfl (by decide) (by decide) (by decide) (by decide) e166) rfl rfl fun T167 X167 e167 => ?_
      rw [show own_len (1 : Int32) = (1 : Int32) from by decide]
      refine w_iconst X167 hx hby (1 : Int32) n0_70 rfl ?_
      refine f_icmp_ne X167 hx hby n0_71 (fun q71 => by exact absurd q71 (by decide)) (fun q71 => ?_)
      refine w_aload X167 hx hby n0_74 rfl rfl ?_
      refine w_iconst X167 hx hby (0 : Int32) n0_76 rfl ?_
      refine w_calledp (call_V X167 hx hby hZ hown (argsL := [(.int (0 : Int32))]) (rest := []) (Wd := 0) (a := sy_bo) (hw _ t_9) (hw _ t_10) (hw _ t_12) (hw _ t_11) (hw _ t_2) (hw _ t_13) (by decide) R_BOTTOM.1 (rCH l Z a0 hw sy_bo vb_bo cl_bo (1 : Int32) (0 : Int32) (42 : Int32) zc fv h0 R_BOTTOM S_C P3 S_F rF (by decide) (by decide) G_BOTTOM) rfl n0_77 (by rw [hml]; rfl) (lenOf pd_1903 rfl) rfl (by decide) (by decide) (by decide) (by decide) e167) rfl rfl fun T168 X168 e168 => ?_
      rw [show own_ch (42 : Int32) = (42 : Int32) from by decide]
      refine w_iload X168 hx hby n0_80 rfl ?_
      refine f_icmp_ne X168 hx hby n0_82 (fun q82 => by exact absurd q82 (by decide)) (fun q82 => ?_)
      refine w_iconst X168 hx hby (1 : Int32) n0_85 rfl ?_
      refine w_goto X168 hx hby n0_86 ?_
      refine w_retN X168 hx hby e168 hlk hret (by simp) n0_90 (by decide) (by decide) ?_
      exact ⟨rfl, rfl, rfl⟩
    · rw [hj]
      refine w_astore X0 hx hby #[.val (.int x1), .val (.int x2), .val (.int (4 : Int32)), .val (.int (4 : Int32)), .val (.ref ta), .unset, .unset, .unset, .unset, .unset] n0_16 rfl rfl ?_
      refine w_aload X0 hx hby n0_18 rfl rfl ?_
      refine w_iloadN X0 hx hby n0_20 rfl ?_
      refine w_iconst X0 hx hby (5 : Int32) n0_21 rfl ?_
      refine w_imul X0 hx hby n0_22 ?_
      refine w_iloadN X0 hx hby n0_23 rfl ?_
      refine w_iadd X0 hx hby n0_24 ?_
      refine w_calledp (call_V X0 hx hby hZ hown (argsL := [(.int (((4 : Int32) * (5 : Int32)) + (4 : Int32)))]) (rest := []) (Wd := 0) (a := ta) (hw _ t_9) (hw _ t_10) (hw _ t_12) (hw _ t_11) (hw _ t_2) (hw _ t_13) (by decide) RT.1 (rCH l Z a0 hw ta tb clT (25 : Int32) (((4 : Int32) * (5 : Int32)) + (4 : Int32)) (42 : Int32) zc fv h0 RT S_C P3 S_F rF (by decide) (by decide) ⟨inb_of SzT ⟨by decide, by decide⟩, HaT.at (inb_of SzT ⟨by decide, by decide⟩) rfl⟩) rfl n0_25 (by rw [hml]; rfl) (lenOf pd_1903 rfl) rfl (by decide) (by decide) (by decide) (by decide) e0) rfl rfl fun T169 X169 e169 => ?_
      rw [show own_ch (42 : Int32) = (42 : Int32) from by decide]
      refine w_istore X169 hx hby #[.val (.int x1), .val (.int x2), .val (.int (4 : Int32)), .val (.int (4 : Int32)), .val (.ref ta), .val (.int (42 : Int32)), .unset, .unset, .unset, .unset] n0_28 rfl ?_
      refine w_iloadN X169 hx hby n0_30 rfl ?_
      refine w_calledp (call_S X169 hx hby hZ hown (argsL := [(.int (4 : Int32))]) (rest := []) (Wd := 0) (hw _ t_34) (hw _ t_35) (hw _ t_36) (hw _ t_37) (by decide) (rPK l Z a0 hw tp ng ze po bo (4 : Int32) h0 S_TOP S_NEGATIVE S_ZERO S_POSITIVE S_BOTTOM) rfl n0_31 (by rw [hml]; rfl) (lenOf pd_99499 rfl) rfl (by decide) (by decide) (by decide) (by decide) e169) rfl rfl fun T170 X170 e170 => ?_
      rw [show own_pk tp ng ze po bo (4 : Int32) = bo from by simp [own_pk]]
      refine w_astore X170 hx hby #[.val (.int x1), .val (.int x2), .val (.int (4 : Int32)), .val (.int (4 : Int32)), .val (.ref ta), .val (.int (42 : Int32)), .val (.ref bo), .unset, .unset, .unset] n0_34 rfl rfl ?_
      refine w_iloadN X170 hx hby n0_36 rfl ?_
      refine w_calledp (call_S X170 hx hby hZ hown (argsL := [(.int (4 : Int32))]) (rest := []) (Wd := 0) (hw _ t_34) (hw _ t_35) (hw _ t_36) (hw _ t_37) (by decide) (rPK l Z a0 hw tp ng ze po bo (4 : Int32) h0 S_TOP S_NEGATIVE S_ZERO S_POSITIVE S_BOTTOM) rfl n0_37 (by rw [hml]; rfl) (lenOf pd_99499 rfl) rfl (by decide) (by decide) (by decide) (by decide) e170) rfl rfl fun T171 X171 e171 => ?_
      rw [show own_pk tp ng ze po bo (4 : Int32) = bo from by simp [own_pk]]
      refine w_astore X171 hx hby #[.val (.int x1), .val (.int x2), .val (.int (4 : Int32)), .val (.int (4 : Int32)), .val (.ref ta), .val (.int (42 : Int32)), .val (.ref bo), .val (.ref bo), .unset, .unset] n0_40 rfl rfl ?_
      refine w_aload X171 hx hby n0_42 rfl rfl ?_
      refine w_aload X171 hx hby n0_44 rfl rfl ?_
      refine w_calledp (call_V X171 hx hby hZ hown (argsL := [(.ref bo)]) (rest := []) (Wd := 0) (a := bo) (hw _ t_43) (hw _ t_44) (hw _ t_46) (hw _ t_45) (hw _ t_39) (hw _ t_47) (by decide) E_BOTTOM (rAD l Z a0 hw tp ng ze po bo bo bo h0 S_TOP S_NEGATIVE S_ZERO S_POSITIVE S_BOTTOM) rfl n0_46 (by rw [hml]; rfl) (lenOf pd_318983 rfl) rfl (by decide) (by decide) (by decide) (by decide) e171) rfl rfl fun T172 X172 e172 => ?_
      rw [show own_add tp ze bo bo bo = bo from by simp [own_add, d1, d1.symm, d2, d2.symm, d3, d3.symm, d4, d4.symm, d5, d5.symm, d6, d6.symm, d7, d7.symm, d8, d8.symm, d9, d9.symm, d10, d10.symm]]
      refine w_astore X172 hx hby #[.val (.int x1), .val (.int x2), .val (.int (4 : Int32)), .val (.int (4 : Int32)), .val (.ref ta), .val (.int (42 : Int32)), .val (.ref bo), .val (.ref bo), .val (.ref bo), .unset] n0_49 rfl rfl ?_
      refine w_aload X172 hx hby n0_51 rfl rfl ?_
      refine w_ifnonnullRef X172 hx hby n0_53 ?_
      refine w_aload X172 hx hby n0_58 rfl rfl ?_
      refine w_calledp (call_V X172 hx hby hZ hown (argsL := []) (rest := []) (Wd := 0) (a := bo) (hw _ t_49) (hw _ t_50) (hw _ t_52) (hw _ t_51) (hw _ t_39) (hw _ t_53) (by decide) E_BOTTOM (rSY l Z a0 hw bo sy_bo h0 Y_BOTTOM) rfl n0_60 (by rw [hml]; rfl) (lenOf pd_30311 rfl) rfl (by decide) (by decide) (by decide) (by decide) e172) rfl rfl fun T173 X173 e173 => ?_
      refine w_astore X173 hx hby #[.val (.int x1), .val (.int x2), .val (.int (4 : Int32)), .val (.int (4 : Int32)), .val (.ref ta), .val (.int (42 : Int32)), .val (.ref bo), .val (.ref bo), .val (.ref bo), .val (.ref sy_bo)] n0_63 rfl rfl ?_
      refine w_aload X173 hx hby n0_65 rfl rfl ?_
      refine w_calledp (call_V X173 hx hby hZ hown (argsL := []) (rest := []) (Wd := 0) (a := sy_bo) (hw _ t_56) (hw _ t_57) (hw _ t_59) (hw _ t_58) (hw _ t_2) (hw _ t_60) (by decide) R_BOTTOM.1 (rLN l Z a0 hw sy_bo vb_bo cl_bo (1 : Int32) zc h0 R_BOTTOM S_C P3) rfl n0_67 (by rw [hml]; rfl) (lenOf pd_1265 rfl) rfl (by decide) (by decide) (by decide) (by decide) e173) rfl rfl fun T174 X174 e174 => ?_
      rw [show own_len (1 : Int32) = (1 : Int32) from by decide]
      refine w_iconst X174 hx hby (1 : Int32) n0_70 rfl ?_
      refine f_icmp_ne X174 hx hby n0_71 (fun q71 => by exact absurd q71 (by decide)) (fun q71 => ?_)
      refine w_aload X174 hx hby n0_74 rfl rfl ?_
      refine w_iconst X174 hx hby (0 : Int32) n0_76 rfl ?_
      refine w_calledp (call_V X174 hx hby hZ hown (argsL := [(.int (0 : Int32))]) (rest := []) (Wd := 0) (a := sy_bo) (hw _ t_9) (hw _ t_10) (hw _ t_12) (hw _ t_11) (hw _ t_2) (hw _ t_13) (by decide) R_BOTTOM.1 (rCH l Z a0 hw sy_bo vb_bo cl_bo (1 : Int32) (0 : Int32) (42 : Int32) zc fv h0 R_BOTTOM S_C P3 S_F rF (by decide) (by decide) G_BOTTOM) rfl n0_77 (by rw [hml]; rfl) (lenOf pd_1903 rfl) rfl (by decide) (by decide) (by decide) (by decide) e174) rfl rfl fun T175 X175 e175 => ?_
      rw [show own_ch (42 : Int32) = (42 : Int32) from by decide]
      refine w_iload X175 hx hby n0_80 rfl ?_
      refine f_icmp_ne X175 hx hby n0_82 (fun q82 => by exact absurd q82 (by decide)) (fun q82 => ?_)
      refine w_iconst X175 hx hby (1 : Int32) n0_85 rfl ?_
      refine w_goto X175 hx hby n0_86 ?_
      refine w_retN X175 hx hby e175 hlk hret (by simp) n0_90 (by decide) (by decide) ?_
      exact ⟨rfl, rfl, rfl⟩
theorem ef_law (m : MethodId) (x0 : Int32) (x1 : Int32) : entryFrame m #[(.int x0), (.int x1)] maxLocals = mkF m 0 #[.val (.int x0), .val (.int x1), .unset, .unset, .unset, .unset, .unset, .unset, .unset, .unset] [] := by first | (simp [entryFrame, mkF, argsToLocals, Value.category, maxLocals]; done) | rfl
set_option maxRecDepth 65536 in
set_option maxHeartbeats 40000000 in
theorem law0 (l : Launch) (Z : State) (a0 : Array Value) (hw : ∀ d ∈ tables_1, d.before a0 Z = true) (tp ng ze po bo sy_tp sy_ng sy_ze sy_po sy_bo vb_tp vb_ng vb_ze vb_po vb_bo : Addr) (cl_tp cl_ng cl_ze cl_po cl_bo : Cell) (zc x1 x2 : Int32) (fv : Value) (S_TOP : Sta Z Z.heap "com/example/valtab/valtab/sign/Sign" "TOP" "Lcom/example/valtab/valtab/sign/Sign;" (.ref tp)) (S_NEGATIVE : Sta Z Z.heap "com/example/valtab/valtab/sign/Sign" "NEGATIVE" "Lcom/example/valtab/valtab/sign/Sign;" (.ref ng)) (S_ZERO : Sta Z Z.heap "com/example/valtab/valtab/sign/Sign" "ZERO" "Lcom/example/valtab/valtab/sign/Sign;" (.ref ze)) (S_POSITIVE : Sta Z Z.heap "com/example/valtab/valtab/sign/Sign" "POSITIVE" "Lcom/example/valtab/valtab/sign/Sign;" (.ref po)) (S_BOTTOM : Sta Z Z.heap "com/example/valtab/valtab/sign/Sign" "BOTTOM" "Lcom/example/valtab/valtab/sign/Sign;" (.ref bo)) (E_TOP : Exa Z Z.heap tp "com/example/valtab/valtab/sign/Sign") (E_NEGATIVE : Exa Z Z.heap ng "com/example/valtab/valtab/sign/Sign") (E_ZERO : Exa Z Z.heap ze "com/example/valtab/valtab/sign/Sign") (E_POSITIVE : Exa Z Z.heap po "com/example/valtab/valtab/sign/Sign") (E_BOTTOM : Exa Z Z.heap bo "com/example/valtab/valtab/sign/Sign") (Y_TOP : Fld Z Z.heap tp "com/example/valtab/valtab/sign/Sign" "symbol" "Ljava/lang/String;" (.ref sy_tp)) (Y_NEGATIVE : Fld Z Z.heap ng "com/example/valtab/valtab/sign/Sign" "symbol" "Ljava/lang/String;" (.ref sy_ng)) (Y_ZERO : Fld Z Z.heap ze "com/example/valtab/valtab/sign/Sign" "symbol" "Ljava/lang/String;" (.ref sy_ze)) (Y_POSITIVE : Fld Z Z.heap po "com/example/valtab/valtab/sign/Sign" "symbol" "Ljava/lang/String;" (.ref sy_po)) (Y_BOTTOM : Fld Z Z.heap bo "com/example/valtab/valtab/sign/Sign" "symbol" "Ljava/lang/String;" (.ref sy_bo)) (R_TOP : own_str Z Z.heap sy_tp vb_tp cl_tp (1 : Int32)) (R_NEGATIVE : own_str Z Z.heap sy_ng vb_ng cl_ng (1 : Int32)) (R_ZERO : own_str Z Z.heap sy_ze vb_ze cl_ze (1 : Int32)) (R_POSITIVE : own_str Z Z.heap sy_po vb_po cl_po (1 : Int32)) (R_BOTTOM : own_str Z Z.heap sy_bo vb_bo cl_bo (1 : Int32)) (G_TOP : ¬ ((0 : Int32) < 0 ∨ cl_tp.slots.size ≤ (0 : Int32).toNatClampNeg) ∧ cl_tp.slots[(0 : Int32).toNatClampNeg]? = some (.int (84 : Int32))) (G_NEGATIVE : ¬ ((0 : Int32) < 0 ∨ cl_ng.slots.size ≤ (0 : Int32).toNatClampNeg) ∧ cl_ng.slots[(0 : Int32).toNatClampNeg]? = some (.int (45 : Int32))) (G_ZERO : ¬ ((0 : Int32) < 0 ∨ cl_ze.slots.size ≤ (0 : Int32).toNatClampNeg) ∧ cl_ze.slots[(0 : Int32).toNatClampNeg]? = some (.int (48 : Int32))) (G_POSITIVE : ¬ ((0 : Int32) < 0 ∨ cl_po.slots.size ≤ (0 : Int32).toNatClampNeg) ∧ cl_po.slots[(0 : Int32).toNatClampNeg]? = some (.int (43 : Int32))) (G_BOTTOM : ¬ ((0 : Int32) < 0 ∨ cl_bo.slots.size ≤ (0 : Int32).toNatClampNeg) ∧ cl_bo.slots[(0 : Int32).toNatClampNeg]? = some (.int (42 : Int32))) (D : own_diff tp ng ze po bo) (S_C : Sta Z Z.heap "java/lang/String" "COMPACT_STRINGS" "Z" (.int zc)) (P3 : ¬ zc = 0) (S_F : Sta Z Z.heap "jdk/internal/util/Preconditions" "SIOOBE_FORMATTER" "Ljava/util/function/BiFunction;" fv) (rF : fv.isRef = true) (hh : Jvm.Lit.constHeld Z "com/example/valtab/valtab/sign/SignAddPinLaw" 26) (hcw : Jvm.Lit.compactW.before a0 Z = true) (ws : List Jvm.Cond) : MetFree l x (head1 (Jvm.Cond.code x code maxLocals ret :: ws) room_1) (fun a U => a = #[(.int x1), (.int x2)] ∧ U = Z) (fun _ _ _ _ _ => True) (fun _ U o U' => ∃ v L, o = .returned v ∧ (v = some (.int 1) ∧ Fr U.heap.size L) ∧ U.Warmed39 U'.vm ∧ U.Booked U'.vm U'.heap.size ∧ U.sameButNew ({ U' with vm := U.vm } : State) L room_1.cells room_1.slots) := by
  refine MetFree.of_bodySF pn_0 hisR ?_
  intro p e s m args below meth c s₁ Bd hml0 hP hK
  obtain ⟨rfl, rfl⟩ := hP
  have hx := Bd.exec
  have hby : c.code = code := Bd.bytes
  have hml : c.maxLocals = 10 := hml0
  have hown : s.vm.findClass "com/example/valtab/valtab/sign/SignAddPinLaw" = some m.cls := findClass_of_methodNamed Bd.named
  have hZ : s.Warmed39 s.vm := State.Warmed39.refl s
  have X0 : Stand p l e room_1 s m #[(.int x1), (.int x2)] below meth c s₁ [] 0 0 := Stand.of_body Bd
  have e0 : s₁.heap = s.heap := by rw [Bd.state]; rfl
  show WpW p e below s room_1.cells room_1.slots (fun v L => v = some (.int 1) ∧ Fr s.heap.size L) s₁ (entryFrame m #[(.int x1), (.int x2)] maxLocals)
  rw [ef_law m x1 x2]
  refine WpW.go (fun t kk => XS.iloadN X0.here hx rfl (hb hby n0_0.1) rfl kk) ?_
  show WpW p e below s _ _ _ s₁ (mkF m 1 #[.val (.int x1), .val (.int x2), .unset, .unset, .unset, .unset, .unset, .unset, .unset, .unset] [(.int x1)])
  refine WpW.go (fun t kk => X0.ldcInt hx hown (mvT hZ (hw _ t_0)) (g := mkF m 1 #[.val (.int x1), .val (.int x2), .unset, .unset, .unset, .unset, .unset, .unset, .unset, .unset] [(.int x1)]) rfl (hb hby n0_1.1) t kk) ?_
  show WpW p e below s _ _ _ s₁ (mkF m 3 #[.val (.int x1), .val (.int x2), .unset, .unset, .unset, .unset, .unset, .unset, .unset, .unset] [(.int (2147483647 : Int32)), (.int x1)])
  refine WpW.go (fun t kk => XS.iand X0.here hx rfl (hb hby n0_3.1) rfl kk) ?_
  show WpW p e below s _ _ _ s₁ (mkF m 4 #[.val (.int x1), .val (.int x2), .unset, .unset, .unset, .unset, .unset, .unset, .unset, .unset] [(.int (x1 &&& (2147483647 : Int32)))])
  refine WpW.go (fun t kk => XT.iconstV X0.here hx rfl (5 : Int32) (hb hby n0_4.1) rfl kk) ?_
  show WpW p e below s _ _ _ s₁ (mkF m 5 #[.val (.int x1), .val (.int x2), .unset, .unset, .unset, .unset, .unset, .unset, .unset, .unset] [(.int (5 : Int32)), (.int (x1 &&& (2147483647 : Int32)))])
  refine WpW.go (fun t kk => iremM X0 hx rfl (hb hby n0_5.1) rfl (by decide) kk) ?_
  show WpW p e below s _ _ _ s₁ (mkF m 6 #[.val (.int x1), .val (.int x2), .unset, .unset, .unset, .unset, .unset, .unset, .unset, .unset] [(.int ((x1 &&& (2147483647 : Int32)) % (5 : Int32)))])
  refine WpW.go (fun t kk => XS.istoreN X0.here hx rfl (hb hby n0_6.1) rfl (l' := #[.val (.int x1), .val (.int x2), .val (.int ((x1 &&& (2147483647 : Int32)) % (5 : Int32))), .unset, .unset, .unset, .unset, .unset, .unset, .unset]) rfl kk) ?_
  show WpW p e below s _ _ _ s₁ (mkF m 7 #[.val (.int x1), .val (.int x2), .val (.int ((x1 &&& (2147483647 : Int32)) % (5 : Int32))), .unset, .unset, .unset, .unset, .unset, .unset, .unset] [])
  refine WpW.go (fun t kk => XS.iloadN X0.here hx rfl (hb hby n0_7.1) rfl kk) ?_
  show WpW p e below s _ _ _ s₁ (mkF m 8 #[.val (.int x1), .val (.int x2), .val (.int ((x1 &&& (2147483647 : Int32)) % (5 : Int32))), .unset, .unset, .unset, .unset, .unset, .unset, .unset] [(.int x2)])
  refine WpW.go (fun t kk => X0.ldcInt hx hown (mvT hZ (hw _ t_0)) (g := mkF m 8 #[.val (.int x1), .val (.int x2), .val (.int ((x1 &&& (2147483647 : Int32)) % (5 : Int32))), .unset, .unset, .unset, .unset, .unset, .unset, .unset] [(.int x2)]) rfl (hb hby n0_8.1) t kk) ?_
  show WpW p e below s _ _ _ s₁ (mkF m 10 #[.val (.int x1), .val (.int x2), .val (.int ((x1 &&& (2147483647 : Int32)) % (5 : Int32))), .unset, .unset, .unset, .unset, .unset, .unset, .unset] [(.int (2147483647 : Int32)), (.int x2)])
  refine WpW.go (fun t kk => XS.iand X0.here hx rfl (hb hby n0_10.1) rfl kk) ?_
  show WpW p e below s _ _ _ s₁ (mkF m 11 #[.val (.int x1), .val (.int x2), .val (.int ((x1 &&& (2147483647 : Int32)) % (5 : Int32))), .unset, .unset, .unset, .unset, .unset, .unset, .unset] [(.int (x2 &&& (2147483647 : Int32)))])
  refine WpW.go (fun t kk => XT.iconstV X0.here hx rfl (5 : Int32) (hb hby n0_11.1) rfl kk) ?_
  show WpW p e below s _ _ _ s₁ (mkF m 12 #[.val (.int x1), .val (.int x2), .val (.int ((x1 &&& (2147483647 : Int32)) % (5 : Int32))), .unset, .unset, .unset, .unset, .unset, .unset, .unset] [(.int (5 : Int32)), (.int (x2 &&& (2147483647 : Int32)))])
  refine WpW.go (fun t kk => iremM X0 hx rfl (hb hby n0_12.1) rfl (by decide) kk) ?_
  show WpW p e below s _ _ _ s₁ (mkF m 13 #[.val (.int x1), .val (.int x2), .val (.int ((x1 &&& (2147483647 : Int32)) % (5 : Int32))), .unset, .unset, .unset, .unset, .unset, .unset, .unset] [(.int ((x2 &&& (2147483647 : Int32)) % (5 : Int32)))])
  refine WpW.go (fun t kk => XS.istoreN X0.here hx rfl (hb hby n0_13.1) rfl (l' := #[.val (.int x1), .val (.int x2), .val (.int ((x1 &&& (2147483647 : Int32)) % (5 : Int32))), .val (.int ((x2 &&& (2147483647 : Int32)) % (5 : Int32))), .unset, .unset, .unset, .unset, .unset, .unset]) rfl kk) ?_
  show WpW p e below s _ _ _ s₁ (mkF m 14 #[.val (.int x1), .val (.int x2), .val (.int ((x1 &&& (2147483647 : Int32)) % (5 : Int32))), .val (.int ((x2 &&& (2147483647 : Int32)) % (5 : Int32))), .unset, .unset, .unset, .unset, .unset, .unset] [])
  obtain ⟨ta, T1, h1, k1, tb, kT, X1, e1, E1, hS, hk1, hZ1, hown1, ET, CT, FT, VT, -, -, -, st1⟩ := ldcSV (vm0 := s.vm) (s := s) (Ts := []) (show Stand p l e room_1 (s.setVm s.vm) m #[(.int x1), (.int x2)] below meth c s₁ [] 0 0 from X0) hx hZ hown (hw _ (List.mem_of_getElem? (i := 1) rfl)) (fun d hd => hw d ((by decide +kernel : ∀ d ∈ Bundle.stringAtoms, d ∈ tables_1) d hd)) e0 ((State.WarmedH.refl s).since 0) (Nat.zero_le _) (Fr.nil _) (fun _ _ q => q) IB.start (by simp) hh hcw (vs := [(.int (84 : Int32)), (.int (84 : Int32)), (.int (84 : Int32)), (.int (84 : Int32)), (.int (84 : Int32)), (.int (84 : Int32)), (.int (45 : Int32)), (.int (45 : Int32)), (.int (42 : Int32)), (.int (42 : Int32)), (.int (84 : Int32)), (.int (45 : Int32)), (.int (48 : Int32)), (.int (43 : Int32)), (.int (42 : Int32)), (.int (84 : Int32)), (.int (42 : Int32)), (.int (43 : Int32)), (.int (43 : Int32)), (.int (42 : Int32)), (.int (84 : Int32)), (.int (42 : Int32)), (.int (42 : Int32)), (.int (42 : Int32)), (.int (42 : Int32))]) (z := (25 : Int32)) ⟨by decide +kernel, by decide +kernel⟩ (by decide) rfl (g := mkF m 14 #[.val (.int x1), .val (.int x2), .val (.int ((x1 &&& (2147483647 : Int32)) % (5 : Int32))), .val (.int ((x2 &&& (2147483647 : Int32)) % (5 : Int32))), .unset, .unset, .unset, .unset, .unset, .unset] []) rfl (hb hby n0_14.1) (n := 100) (by decide +kernel) (by decide) (by decide) (by decide)
  refine WpW.go st1 ?_
  refine WpW.of hS ?_
  refine Wp.mono (Q := fun v h L => v = some (.int 1) ∧ h = h1 ∧ L = []) (fun v h L q => ?_) (tail16 l s _ hw tp ng ze po bo sy_tp sy_ng sy_ze sy_po sy_bo vb_tp vb_ng vb_ze vb_po vb_bo cl_tp cl_ng cl_ze cl_po cl_bo zc x1 x2 fv ta tb kT h1 X1 hx hby hml hown1 Bd.returns (BodyLoose.notSynchronized Bd) hZ1 e1 (S_TOP.ext E1) (S_NEGATIVE.ext E1) (S_ZERO.ext E1) (S_POSITIVE.ext E1) (S_BOTTOM.ext E1) (E_TOP.ext E1) (E_NEGATIVE.ext E1) (E_ZERO.ext E1) (E_POSITIVE.ext E1) (E_BOTTOM.ext E1) (Y_TOP.ext E1) (Y_NEGATIVE.ext E1) (Y_ZERO.ext E1) (Y_POSITIVE.ext E1) (Y_BOTTOM.ext E1) (own_str_ext E1 R_TOP) (own_str_ext E1 R_NEGATIVE) (own_str_ext E1 R_ZERO) (own_str_ext E1 R_POSITIVE) (own_str_ext E1 R_BOTTOM) G_TOP G_NEGATIVE G_ZERO G_POSITIVE G_BOTTOM D (S_C.ext E1) P3 (S_F.ext E1) rF ET CT FT VT)
  obtain ⟨rfl, rfl, rfl⟩ := q
  exact ⟨⟨rfl, Fr.nil _⟩, hk1⟩
set_option maxRecDepth 65536 in
set_option maxHeartbeats 40000000 in
theorem comes_1 {Post : Tables → Env → Array Value → State → Outcome → State → Prop} (hpost : ∀ tb e args s v u, (limb_1_1.after args s (.returned v) u = true ∧ limb_1_2.after args s (.returned v) u = true) → FramedW s (.returned v) u (Jvm.fieldLocs frame_1_writes args s ++ Jvm.arrayLocs frame_1_arrays args s ++ Jvm.staticLocs frame_1_statics s) 8 1088 → Post tb e args s (.returned v) u) :
    ArmFor flags0 classFile x code maxLocals ret World_1 tables_1 room_1 Calls_1 rest_1 Pre_1 Post := by
  intro l hfl _ _ p e ha hc hk s m args below hf hA hF happ hP
  obtain ⟨hcalls, hrest, hpre⟩ := hP
  obtain ⟨-, -, -, hnamed, -, -, -, hat⟩ := (Spec.applies_iff hf).mp happ
  obtain ⟨hg, hn⟩ := and_e (Cond.before_iff.mp (show (Jvm.Cond.and given_1 narrow_1).before args s = true from hpre))
  obtain ⟨hcnt, hg⟩ := and_e hg
  obtain ⟨hg0, hg⟩ := and_e hg
  have hg1 := hg
  obtain ⟨w0, w1, rfl⟩ : ∃ w0 w1 : Value, args = #[w0, w1] := by
    have hs : args.size = 2 := by simpa [Cond.value, given_1] using hcnt
    obtain ⟨L⟩ := args
    match L, hs with
    | [w0, w1], _ => exact ⟨w0, w1, rfl⟩
  have hw := fun d (hd : d ∈ tables_1) => atoms_spec (ws := Jvm.Cond.code x code maxLocals ret :: tables_1) hat d (List.mem_cons_of_mem _ hd)
  have hfit : Fit s := fun {y c} hc i hi => by
    obtain ⟨ha, rfl⟩ := Array.getElem?_eq_some_iff.mp hc
    have q := List.all_eq_true.mp ((Array.all_eq_true_iff_forall_mem.mp hF) _ (Array.getElem_mem ha)) i (List.mem_range.mpr hi)
    simpa [Array.getElem?_eq_getElem hi] using q
  obtain ⟨hsets, hown0⟩ := atoms_of _ (rest_1_c_eq ▸ (show rest_1_c.before _ s = true from hrest))
  obtain ⟨i0, ei0⟩ := is_v hg0
  obtain rfl : w0 = (.int i0) := Option.some.inj ei0
  obtain ⟨i1, ei1⟩ := is_v hg1
  obtain rfl : w1 = (.int i1) := Option.some.inj ei1
  obtain ⟨hn0, hn⟩ := and_e hn
  obtain ⟨hn1, hn⟩ := and_e hn
  obtain ⟨hn2, hn⟩ := and_e hn
  obtain ⟨hn3, hn⟩ := and_e hn
  obtain ⟨hn4, hn⟩ := and_e hn
  obtain ⟨hn5, hn⟩ := and_e hn
  obtain ⟨hn6, hn⟩ := and_e hn
  obtain ⟨hn7, hn⟩ := and_e hn
  obtain ⟨hn8, hn⟩ := and_e hn
  obtain ⟨hn9, hn⟩ := and_e hn
  obtain ⟨hn10, hn⟩ := and_e hn
  obtain ⟨hn11, hn⟩ := and_e hn
  obtain ⟨hn12, hn⟩ := and_e hn
  obtain ⟨hn13, hn⟩ := and_e hn
  obtain ⟨hn14, hn⟩ := and_e hn
  obtain ⟨hn15, hn⟩ := and_e hn
  obtain ⟨hn16, hn⟩ := and_e hn
  obtain ⟨hn17, hn⟩ := and_e hn
  obtain ⟨hn18, hn⟩ := and_e hn
  obtain ⟨hn19, hn⟩ := and_e hn
  obtain ⟨hn20, hn⟩ := and_e hn
  obtain ⟨hn21, hn⟩ := and_e hn
  obtain ⟨hn22, hn⟩ := and_e hn
  obtain ⟨hn23, hn⟩ := and_e hn
  obtain ⟨hn24, hn⟩ := and_e hn
  obtain ⟨hn25, hn⟩ := and_e hn
  obtain ⟨hn26, hn⟩ := and_e hn
  obtain ⟨hn27, hn⟩ := and_e hn
  obtain ⟨hn28, hn⟩ := and_e hn
  obtain ⟨hn29, hn⟩ := and_e hn
  obtain ⟨hn30, hn⟩ := and_e hn
  obtain ⟨hn31, hn⟩ := and_e hn
  obtain ⟨hn32, hn⟩ := and_e hn
  obtain ⟨hn33, hn⟩ := and_e hn
  have hn34 := hn
  obtain ⟨a_TOP, ev_TOP⟩ := exa_v hn0
  have E_TOP : Exa s s.heap a_TOP "com/example/valtab/valtab/sign/Sign" := Exa.start ev_TOP hn0
  have S_TOP : Sta s s.heap "com/example/valtab/valtab/sign/Sign" "TOP" "Lcom/example/valtab/valtab/sign/Sign;" (.ref a_TOP) := Sta.start ev_TOP (Or.inr ⟨hw _ t_39, hw _ t_40⟩)
  obtain ⟨a_POSITIVE, ev_POSITIVE⟩ := exa_v hn1
  have E_POSITIVE : Exa s s.heap a_POSITIVE "com/example/valtab/valtab/sign/Sign" := Exa.start ev_POSITIVE hn1
  have S_POSITIVE : Sta s s.heap "com/example/valtab/valtab/sign/Sign" "POSITIVE" "Lcom/example/valtab/valtab/sign/Sign;" (.ref a_POSITIVE) := Sta.start ev_POSITIVE (Or.inr ⟨hw _ t_39, hw _ t_42⟩)
  obtain ⟨a_BOTTOM, ev_BOTTOM⟩ := exa_v hn7
  have E_BOTTOM : Exa s s.heap a_BOTTOM "com/example/valtab/valtab/sign/Sign" := Exa.start ev_BOTTOM hn7
  have S_BOTTOM : Sta s s.heap "com/example/valtab/valtab/sign/Sign" "BOTTOM" "Lcom/example/valtab/valtab/sign/Sign;" (.ref a_BOTTOM) := Sta.start ev_BOTTOM (Or.inr ⟨hw _ t_39, hw _ t_67⟩)
  obtain ⟨a_NEGATIVE, ev_NEGATIVE⟩ := exa_v hn8
  have E_NEGATIVE : Exa s s.heap a_NEGATIVE "com/example/valtab/valtab/sign/Sign" := Exa.start ev_NEGATIVE hn8
  have S_NEGATIVE : Sta s s.heap "com/example/valtab/valtab/sign/Sign" "NEGATIVE" "Lcom/example/valtab/valtab/sign/Sign;" (.ref a_NEGATIVE) := Sta.start ev_NEGATIVE (Or.inr ⟨hw _ t_39, hw _ t_69⟩)
  obtain ⟨a_ZERO, ev_ZERO⟩ := exa_v hn12
  have E_ZERO : Exa s s.heap a_ZERO "com/example/valtab/valtab/sign/Sign" := Exa.start ev_ZERO hn12
  have S_ZERO : Sta s s.heap "com/example/valtab/valtab/sign/Sign" "ZERO" "Lcom/example/valtab/valtab/sign/Sign;" (.ref a_ZERO) := Sta.start ev_ZERO (Or.inr ⟨hw _ t_39, hw _ t_71⟩)
  have F_BOTTOM_ordinal : Fld s s.heap a_BOTTOM "java/lang/Enum" "ordinal" "I" (.int (4 : Int32)) := Fld.start ((fld_at ev_BOTTOM).symm.trans (own_eqI hn9))
  have F_TOP_ordinal : Fld s s.heap a_TOP "java/lang/Enum" "ordinal" "I" (.int (0 : Int32)) := Fld.start ((fld_at ev_TOP).symm.trans (own_eqI hn10))
  have F_NEGATIVE_ordinal : Fld s s.heap a_NEGATIVE "java/lang/Enum" "ordinal" "I" (.int (1 : Int32)) := Fld.start ((fld_at ev_NEGATIVE).symm.trans (own_eqI hn11))
  have F_ZERO_ordinal : Fld s s.heap a_ZERO "java/lang/Enum" "ordinal" "I" (.int (2 : Int32)) := Fld.start ((fld_at ev_ZERO).symm.trans (own_eqI hn13))
  have F_POSITIVE_ordinal : Fld s s.heap a_POSITIVE "java/lang/Enum" "ordinal" "I" (.int (3 : Int32)) := Fld.start ((fld_at ev_POSITIVE).symm.trans (own_eqI hn19))
  obtain ⟨sy_tp, es_tp⟩ := exa_v hn2
  have Ey_tp := Exa.start es_tp hn2
  have Y_TOP : Fld s s.heap a_TOP "com/example/valtab/valtab/sign/Sign" "symbol" "Ljava/lang/String;" (.ref sy_tp) := Fld.start ((fld_at ev_TOP).symm.trans es_tp)
  obtain ⟨sy_bo, es_bo⟩ := exa_v hn14
  have Ey_bo := Exa.start es_bo hn14
  have Y_BOTTOM : Fld s s.heap a_BOTTOM "com/example/valtab/valtab/sign/Sign" "symbol" "Ljava/lang/String;" (.ref sy_bo) := Fld.start ((fld_at ev_BOTTOM).symm.trans es_bo)
  obtain ⟨sy_ng, es_ng⟩ := exa_v hn20
  have Ey_ng := Exa.start es_ng hn20
  have Y_NEGATIVE : Fld s s.heap a_NEGATIVE "com/example/valtab/valtab/sign/Sign" "symbol" "Ljava/lang/String;" (.ref sy_ng) := Fld.start ((fld_at ev_NEGATIVE).symm.trans es_ng)
  obtain ⟨sy_po, es_po⟩ := exa_v hn25
  have Ey_po := Exa.start es_po hn25
  have Y_POSITIVE : Fld s s.heap a_POSITIVE "com/example/valtab/valtab/sign/Sign" "symbol" "Ljava/lang/String;" (.ref sy_po) := Fld.start ((fld_at ev_POSITIVE).symm.trans es_po)
  obtain ⟨sy_ze, es_ze⟩ := exa_v hn30
  have Ey_ze := Exa.start es_ze hn30
  have Y_ZERO : Fld s s.heap a_ZERO "com/example/valtab/valtab/sign/Sign" "symbol" "Ljava/lang/String;" (.ref sy_ze) := Fld.start ((fld_at ev_ZERO).symm.trans es_ze)
  obtain ⟨vb_tp, eb_tp⟩ := arr_v hn3
  obtain ⟨cl_tp, Ab_tp⟩ := Arr.start eb_tp hn3
  have Fv_tp : Fld s s.heap sy_tp "java/lang/String" "value" "[B" (.ref vb_tp) := Fld.start ((fld_at es_tp).symm.trans eb_tp)
  obtain ⟨vb_bo, eb_bo⟩ := arr_v hn15
  obtain ⟨cl_bo, Ab_bo⟩ := Arr.start eb_bo hn15
  have Fv_bo : Fld s s.heap sy_bo "java/lang/String" "value" "[B" (.ref vb_bo) := Fld.start ((fld_at es_bo).symm.trans eb_bo)
  obtain ⟨vb_ng, eb_ng⟩ := arr_v hn21
  obtain ⟨cl_ng, Ab_ng⟩ := Arr.start eb_ng hn21
  have Fv_ng : Fld s s.heap sy_ng "java/lang/String" "value" "[B" (.ref vb_ng) := Fld.start ((fld_at es_ng).symm.trans eb_ng)
  obtain ⟨vb_po, eb_po⟩ := arr_v hn26
  obtain ⟨cl_po, Ab_po⟩ := Arr.start eb_po hn26
  have Fv_po : Fld s s.heap sy_po "java/lang/String" "value" "[B" (.ref vb_po) := Fld.start ((fld_at es_po).symm.trans eb_po)
  obtain ⟨vb_ze, eb_ze⟩ := arr_v hn31
  obtain ⟨cl_ze, Ab_ze⟩ := Arr.start eb_ze hn31
  have Fv_ze : Fld s s.heap sy_ze "java/lang/String" "value" "[B" (.ref vb_ze) := Fld.start ((fld_at es_ze).symm.trans eb_ze)
  have Ln_tp : cl_tp.slots.size.toInt32 = (1 : Int32) := by obtain ⟨b, cl, q1, q2, q3⟩ := Term.length_spec (own_eqI hn4); cases eb_tp.symm.trans q1; cases (Ab_tp.fin (Vm.Alike.refl _)).symm.trans q2; exact (Value.int.inj q3).symm
  have Fc_tp : Fld s s.heap sy_tp "java/lang/String" "coder" "B" (.int (0 : Int32)) := Fld.start ((fld_at es_tp).symm.trans (own_eqI hn5))
  have G_TOP := elem_in (own_eqI hn6) eb_tp (Term.int_eval 0) Ab_tp.1
  have Ln_bo : cl_bo.slots.size.toInt32 = (1 : Int32) := by obtain ⟨b, cl, q1, q2, q3⟩ := Term.length_spec (own_eqI hn16); cases eb_bo.symm.trans q1; cases (Ab_bo.fin (Vm.Alike.refl _)).symm.trans q2; exact (Value.int.inj q3).symm
  have Fc_bo : Fld s s.heap sy_bo "java/lang/String" "coder" "B" (.int (0 : Int32)) := Fld.start ((fld_at es_bo).symm.trans (own_eqI hn17))
  have G_BOTTOM := elem_in (own_eqI hn18) eb_bo (Term.int_eval 0) Ab_bo.1
  have Ln_ng : cl_ng.slots.size.toInt32 = (1 : Int32) := by obtain ⟨b, cl, q1, q2, q3⟩ := Term.length_spec (own_eqI hn22); cases eb_ng.symm.trans q1; cases (Ab_ng.fin (Vm.Alike.refl _)).symm.trans q2; exact (Value.int.inj q3).symm
  have Fc_ng : Fld s s.heap sy_ng "java/lang/String" "coder" "B" (.int (0 : Int32)) := Fld.start ((fld_at es_ng).symm.trans (own_eqI hn23))
  have G_NEGATIVE := elem_in (own_eqI hn24) eb_ng (Term.int_eval 0) Ab_ng.1
  have Ln_po : cl_po.slots.size.toInt32 = (1 : Int32) := by obtain ⟨b, cl, q1, q2, q3⟩ := Term.length_spec (own_eqI hn27); cases eb_po.symm.trans q1; cases (Ab_po.fin (Vm.Alike.refl _)).symm.trans q2; exact (Value.int.inj q3).symm
  have Fc_po : Fld s s.heap sy_po "java/lang/String" "coder" "B" (.int (0 : Int32)) := Fld.start ((fld_at es_po).symm.trans (own_eqI hn28))
  have G_POSITIVE := elem_in (own_eqI hn29) eb_po (Term.int_eval 0) Ab_po.1
  have Ln_ze : cl_ze.slots.size.toInt32 = (1 : Int32) := by obtain ⟨b, cl, q1, q2, q3⟩ := Term.length_spec (own_eqI hn32); cases eb_ze.symm.trans q1; cases (Ab_ze.fin (Vm.Alike.refl _)).symm.trans q2; exact (Value.int.inj q3).symm
  have Fc_ze : Fld s s.heap sy_ze "java/lang/String" "coder" "B" (.int (0 : Int32)) := Fld.start ((fld_at es_ze).symm.trans (own_eqI hn33))
  have G_ZERO := elem_in (own_eqI hn34) eb_ze (Term.int_eval 0) Ab_ze.1
  have R_TOP : own_str s s.heap sy_tp vb_tp cl_tp (1 : Int32) := ⟨Ey_tp, Fc_tp, Fv_tp, Ab_tp, Ln_tp⟩
  have R_NEGATIVE : own_str s s.heap sy_ng vb_ng cl_ng (1 : Int32) := ⟨Ey_ng, Fc_ng, Fv_ng, Ab_ng, Ln_ng⟩
  have R_ZERO : own_str s s.heap sy_ze vb_ze cl_ze (1 : Int32) := ⟨Ey_ze, Fc_ze, Fv_ze, Ab_ze, Ln_ze⟩
  have R_POSITIVE : own_str s s.heap sy_po vb_po cl_po (1 : Int32) := ⟨Ey_po, Fc_po, Fv_po, Ab_po, Ln_po⟩
  have R_BOTTOM : own_str s s.heap sy_bo vb_bo cl_bo (1 : Int32) := ⟨Ey_bo, Fc_bo, Fv_bo, Ab_bo, Ln_bo⟩
  have D : own_diff a_TOP a_NEGATIVE a_ZERO a_POSITIVE a_BOTTOM := ⟨Fld.ne F_TOP_ordinal F_NEGATIVE_ordinal (by decide), Fld.ne F_TOP_ordinal F_ZERO_ordinal (by decide), Fld.ne F_TOP_ordinal F_POSITIVE_ordinal (by decide), Fld.ne F_TOP_ordinal F_BOTTOM_ordinal (by decide), Fld.ne F_NEGATIVE_ordinal F_ZERO_ordinal (by decide), Fld.ne F_NEGATIVE_ordinal F_POSITIVE_ordinal (by decide), Fld.ne F_NEGATIVE_ordinal F_BOTTOM_ordinal (by decide), Fld.ne F_ZERO_ordinal F_POSITIVE_ordinal (by decide), Fld.ne F_ZERO_ordinal F_BOTTOM_ordinal (by decide), Fld.ne F_POSITIVE_ordinal F_BOTTOM_ordinal (by decide)⟩
  have n3 := not_v (Cond.before_iff.mp (hsets _ (List.mem_of_getElem? (i := 2) rfl)))
  obtain ⟨zc, ec⟩ := is_v (Cond.before_iff.mp (hsets _ (List.mem_of_getElem? (i := 1) rfl)))
  have S_C : Sta s s.heap "java/lang/String" "COMPACT_STRINGS" "Z" (.int zc) := Sta.start ec (Or.inl (hsets _ (List.mem_of_getElem? (i := 0) rfl)))
  have P3 : ¬ (zc = (0 : Int32)) := gotF (Cond.eq_ints ec (Term.int_eval (0))) n3
  obtain ⟨fv, ef, rF⟩ := isR_v (Cond.before_iff.mp (hsets _ (List.mem_of_getElem? (i := 8) rfl)))
  have S_F : Sta s s.heap "jdk/internal/util/Preconditions" "SIOOBE_FORMATTER" "Ljava/util/function/BiFunction;" fv := Sta.start ef (Or.inl (hsets _ (List.mem_of_getElem? (i := 7) rfl)))
  have hh : Jvm.Lit.constHeld s "com/example/valtab/valtab/sign/SignAddPinLaw" 26 := hcalls.1 ("com/example/valtab/valtab/sign/SignAddPinLaw", 26) (by simp [consts_1])
  have hcw : Jvm.Lit.compactW.before #[(.int i0), (.int i1)] s = true := hsets _ (List.mem_of_getElem? (i := 2) rfl)
  obtain ⟨n, o, h1, h2, h3, _, L, rfl, ⟨rfl, N⟩, hq⟩ := law0 l s _ hw a_TOP a_NEGATIVE a_ZERO a_POSITIVE a_BOTTOM sy_tp sy_ng sy_ze sy_po sy_bo vb_tp vb_ng vb_ze vb_po vb_bo cl_tp cl_ng cl_ze cl_po cl_bo zc i0 i1 fv S_TOP S_NEGATIVE S_ZERO S_POSITIVE S_BOTTOM E_TOP E_NEGATIVE E_ZERO E_POSITIVE E_BOTTOM Y_TOP Y_NEGATIVE Y_ZERO Y_POSITIVE Y_BOTTOM R_TOP R_NEGATIVE R_ZERO R_POSITIVE R_BOTTOM G_TOP G_NEGATIVE G_ZERO G_POSITIVE G_BOTTOM D S_C P3 S_F rF hh hcw tables_1 p e ha hc hk s m _ below hf ((Spec.applies_iff_loose hf).mp happ).1 ⟨rfl, rfl⟩ trivial
  exact ⟨n, _, h1, h2, h3, hpost _ _ _ _ _ _ ⟨Cond.after_iff.mpr rfl, Cond.after_iff.mpr (eq_i res_at (Term.int_eval (1)) rfl)⟩ ⟨⟨_, rfl⟩, hq.1, hq.2.1, (hq.2.2.sift fun y hy => Or.inr (N y hy)).mono (by decide) (by decide)⟩⟩
theorem main_1_1 : Claimed_1_1 := comes_1 fun _ _ _ _ _ _ h hF => ⟨h.1, hF⟩
theorem main_1_2 : Claimed_1_2 := comes_1 fun _ _ _ _ _ _ h hF => ⟨h.2, hF⟩
end Jvm.Pilot.@@N@@
namespace Jvm.Pilot.@@N@@
open Jvm Jvm.ClassFile Sem Op Lib Jvm.Free Jvm.Stand Jvm.Pilot.@@N@@.Jvm.D
/-! MADE BY PROGRAM (witnessworld.py) out of the Statement's table words and the real class files: 18 classes; the members and pool entries that the words name. The judged class is class 1, her method 2. -/
namespace start1
open Jvm.ClassFile
def u (s : String) : CpInfo := .utf8 (stringToUtf16 s)
/-- a pool by its gaps: so many unusable entries, then the entry; so many at the end -/
def gap : Nat → List CpInfo → List CpInfo
  | 0, r => r
  | n + 1, r => .unusable :: gap n r
def poolList (es : List (Nat × CpInfo)) (last : Nat) : List CpInfo := es.foldr (fun e r => gap e.1 (e.2 :: r)) (gap last [])
def pool (es : List (Nat × CpInfo)) (last : Nat) : Array CpInfo := ⟨poolList es last⟩
def fileOf (pool : Array CpInfo) (this : Nat) (attrs : Array Attribute := #[]) (ms : Array MethodInfo := #[]) (fl : Nat := 33) (sup : Nat := 0) (ifs : Array Nat := #[]) (fds : Array FieldInfo := #[]) : ClassFile where
  minorVersion := 0
  majorVersion := 65
  constantPool := pool
  accessFlags := fl
  thisClass := this
  superClass := sup
  interfaces := ifs
  fields := fds
  methods := ms
  attributes := attrs
def plain (name : String) (sup : Option ClassId) : Class where
  name := name
  kind := .ordinary
  loader := none
  accessFlags := 33
  super := sup
  interfaces := #[]
  cf := none
  fields := #[]
  methods := #[]
  instanceTypes := #[]
  staticTypes := #[]
  resolved := #[]
  callSites := []
  init := .initialized
  statics := none
  mirror := none

def pool0 : Array CpInfo := pool [(5, u "<init>"), (0, u "()V"), (1, .class_ 10), (1, u "java/lang/Object")] 113

def k0m0 : Method := { name := "<init>", desc := "()V", sig := { parameters := [], returnType := none }, accessFlags := 1, code := none }
/-- java/lang/Object -/
def k0 : Class := { plain "java/lang/Object" none with
  accessFlags := 33
  interfaces := #[]
  cf := some (fileOf pool0 8 #[] #[{ accessFlags := 1, nameIndex := 5, descriptorIndex := 6, attributes := #[] }] 33 0 #[] #[])
  fields := #[]
  methods := #[k0m0]
  instanceTypes := #[]
  staticTypes := #[]
  resolved := Array.replicate 124 none
  statics := none }

def pool1 : Array CpInfo := pool [(2, .class_ 4), (1, u "java/lang/Object"), (0, u "<init>"), (0, u "()V"), (0, .fieldref 8 9), (0, .class_ 10), (0, .nameAndType 11 12), (0, u "com/example/valtab/valtab/sign/Sign"), (0, u "TOP"), (0, u "Lcom/example/valtab/valtab/sign/Sign;"), (0, .fieldref 8 14), (0, .nameAndType 15 12), (0, u "NEGATIVE"), (0, .fieldref 8 17), (0, .nameAndType 18 12), (0, u "ZERO"), (0, .fieldref 8 20), (0, .nameAndType 21 12), (0, u "POSITIVE"), (0, .fieldref 8 23), (0, .nameAndType 24 12), (0, u "BOTTOM"), (0, .integer 2147483647), (0, .string 27), (0, u "TTTTTT--**T-0+*T*++*T****"), (0, .methodref 29 30), (0, .class_ 31), (0, .nameAndType 32 33), (0, u "java/lang/String"), (0, u "charAt"), (0, u "(I)C"), (0, .methodref 35 36), (0, .class_ 37), (0, .nameAndType 38 39), (0, u "com/example/valtab/valtab/sign/SignAddPinLaw"), (0, u "pick"), (0, u "(I)Lcom/example/valtab/valtab/sign/Sign;"), (0, .methodref 8 41), (0, .nameAndType 42 43), (0, u "add"), (0, u "(Lcom/example/valtab/valtab/sign/Sign;)Lcom/example/valtab/valtab/sign/Sign;"), (0, .methodref 8 45), (0, .nameAndType 46 47), (0, u "symbol"), (0, u "()Ljava/lang/String;"), (0, .methodref 29 49), (0, .nameAndType 50 51), (0, u "length"), (0, u "()I"), (3, u "law"), (0, u "(II)Z")] 2

def k1m0 : Method := { name := "<init>", desc := "()V", sig := { parameters := [], returnType := none }, accessFlags := 2, code := none }
def k1c1 : Code := { maxStack := 2, maxLocals := 1, code := method_2_code, exceptionTable := #[], attributes := #[] }
def k1m1 : Method := { name := "pick", desc := "(I)Lcom/example/valtab/valtab/sign/Sign;", sig := { parameters := [.int], returnType := some (.object "com/example/valtab/valtab/sign/Sign") }, accessFlags := 10, code := some k1c1 }
def k1c2 : Code := { maxStack := 3, maxLocals := 10, code := code, exceptionTable := #[], attributes := #[] }
def k1m2 : Method := { name := "law", desc := "(II)Z", sig := { parameters := [.int, .int], returnType := some .boolean }, accessFlags := 9, code := some k1c2 }
/-- com/example/valtab/valtab/sign/SignAddPinLaw -/
def k1 : Class := { plain "com/example/valtab/valtab/sign/SignAddPinLaw" (some 0) with
  accessFlags := 49
  interfaces := #[]
  cf := some (fileOf pool1 35 #[] #[{ accessFlags := 2, nameIndex := 5, descriptorIndex := 6, attributes := #[] }, { accessFlags := 10, nameIndex := 38, descriptorIndex := 39, attributes := #[] }, { accessFlags := 9, nameIndex := 55, descriptorIndex := 56, attributes := #[] }] 49 2 #[] #[])
  fields := #[]
  methods := #[k1m0, k1m1, k1m2]
  instanceTypes := #[]
  staticTypes := #[]
  resolved := Array.replicate 59 none
  statics := none }

def pool2 : Array CpInfo := pool [(1, .class_ 2), (0, u "java/io/Serializable"), (0, .class_ 4), (0, u "java/lang/Object")] 2

/-- java/io/Serializable -/
def k2 : Class := { plain "java/io/Serializable" (some 0) with
  accessFlags := 1537
  interfaces := #[]
  cf := some (fileOf pool2 1 #[] #[] 1537 3 #[] #[])
  fields := #[]
  methods := #[]
  instanceTypes := #[]
  staticTypes := #[]
  resolved := Array.replicate 7 none
  statics := none }

def pool3 : Array CpInfo := pool [(1, .class_ 2), (0, u "java/lang/Comparable"), (0, .class_ 4), (0, u "java/lang/Object")] 7

/-- java/lang/Comparable -/
def k3 : Class := { plain "java/lang/Comparable" (some 0) with
  accessFlags := 1537
  interfaces := #[]
  cf := some (fileOf pool3 1 #[] #[] 1537 3 #[] #[])
  fields := #[]
  methods := #[]
  instanceTypes := #[]
  staticTypes := #[]
  resolved := Array.replicate 12 none
  statics := none }

def pool4 : Array CpInfo := pool [(2, .class_ 4), (1, u "java/lang/CharSequence"), (42, .class_ 48), (0, u "java/lang/CharSequence$1CodePointIterator"), (10, .class_ 60), (0, u "java/lang/CharSequence$1CharIterator"), (5, .class_ 67), (0, u "java/lang/Object")] 63

/-- java/lang/CharSequence -/
def k4 : Class := { plain "java/lang/CharSequence" (some 0) with
  accessFlags := 1537
  interfaces := #[]
  cf := some (fileOf pool4 2 #[.nestMembers #[47, 59]] #[] 1537 66 #[] #[])
  fields := #[]
  methods := #[]
  instanceTypes := #[]
  staticTypes := #[]
  resolved := Array.replicate 131 none
  statics := none }

def pool5 : Array CpInfo := pool [(1, .class_ 2), (0, u "java/lang/constant/Constable"), (0, .class_ 4), (0, u "java/lang/Object")] 6

/-- java/lang/constant/Constable -/
def k5 : Class := { plain "java/lang/constant/Constable" (some 0) with
  accessFlags := 1537
  interfaces := #[]
  cf := some (fileOf pool5 1 #[] #[] 1537 3 #[] #[])
  fields := #[]
  methods := #[]
  instanceTypes := #[]
  staticTypes := #[]
  resolved := Array.replicate 11 none
  statics := none }

def pool6 : Array CpInfo := pool [(1, .class_ 2), (0, u "java/lang/constant/ConstantDesc"), (0, .class_ 4), (0, u "java/lang/Object")] 32

/-- java/lang/constant/ConstantDesc -/
def k6 : Class := { plain "java/lang/constant/ConstantDesc" (some 0) with
  accessFlags := 1537
  interfaces := #[]
  cf := some (fileOf pool6 1 #[] #[] 1537 3 #[] #[])
  fields := #[]
  methods := #[]
  instanceTypes := #[]
  staticTypes := #[]
  resolved := Array.replicate 37 none
  statics := none }

def pool7 : Array CpInfo := pool [(2, .class_ 4), (1, u "java/lang/Object"), (0, u "<init>"), (0, u "()V"), (2, .fieldref 10 11), (0, .class_ 12), (0, .nameAndType 13 14), (0, u "java/lang/String"), (0, u "value"), (0, u "[B"), (0, .fieldref 10 16), (0, .nameAndType 17 18), (0, u "coder"), (0, u "B"), (2, u "hash"), (0, u "I"), (2, u "hashIsZero"), (0, u "Z"), (11, .fieldref 10 39), (0, .nameAndType 40 26), (0, u "COMPACT_STRINGS"), (66, .class_ 109), (1, u "java/lang/StringLatin1"), (32, u "()Z"), (191, u "()I"), (0, .methodref 10 336), (0, .nameAndType 17 337), (0, u "()B"), (25, u "([BI)C"), (27, u "(II)V"), (35, u "(I)C"), (64, .methodref 10 493), (0, .nameAndType 494 142), (0, u "isLatin1"), (0, .methodref 107 496), (0, .nameAndType 497 363), (0, u "charAt"), (3, u "checkIndex"), (5, u "length"), (67, .class_ 576), (0, u "java/lang/CharSequence"), (22, u "CASE_INSENSITIVE_ORDER"), (0, u "Ljava/util/Comparator;"), (452, .fieldref 1054 1055), (0, .class_ 1056), (0, .nameAndType 1057 1058), (0, u "jdk/internal/util/Preconditions"), (0, u "SIOOBE_FORMATTER"), (0, u "Ljava/util/function/BiFunction;"), (0, .methodref 1054 1060), (0, .nameAndType 501 1061), (0, u "(IILjava/util/function/BiFunction;)I"), (39, u "serialPersistentFields"), (0, u "[Ljava/io/ObjectStreamField;"), (0, .class_ 1104), (0, u "java/lang/String$CaseInsensitiveComparator"), (1, .class_ 1107), (0, u "java/io/Serializable"), (0, .class_ 1109), (0, u "java/lang/Comparable"), (0, .class_ 1111), (0, u "java/lang/constant/Constable"), (0, .class_ 1113), (0, u "java/lang/constant/ConstantDesc"), (2, u "serialVersionUID"), (0, u "J"), (3, u "REPL"), (0, u "C"), (2, u "LATIN1"), (1, u "UTF16")] 323

def k7m0 : Method := { name := "<init>", desc := "()V", sig := { parameters := [], returnType := none }, accessFlags := 1, code := none }
def k7c1 : Code := { maxStack := 2, maxLocals := 1, code := jdk_42_method_54_code, exceptionTable := #[], attributes := #[] }
def k7m1 : Method := { name := "length", desc := "()I", sig := { parameters := [], returnType := some .int }, accessFlags := 1, code := some k7c1 }
def k7c2 : Code := { maxStack := 2, maxLocals := 2, code := jdk_42_method_56_code, exceptionTable := #[], attributes := #[] }
def k7m2 : Method := { name := "charAt", desc := "(I)C", sig := { parameters := [.int], returnType := some .char }, accessFlags := 1, code := some k7c2 }
def k7c3 : Code := { maxStack := 1, maxLocals := 1, code := jdk_42_method_152_code, exceptionTable := #[], attributes := #[] }
def k7m3 : Method := { name := "coder", desc := "()B", sig := { parameters := [], returnType := some .byte }, accessFlags := 0, code := some k7c3 }
def k7c4 : Code := { maxStack := 1, maxLocals := 1, code := jdk_42_method_154_code, exceptionTable := #[], attributes := #[] }
def k7m4 : Method := { name := "isLatin1", desc := "()Z", sig := { parameters := [], returnType := some .boolean }, accessFlags := 0, code := some k7c4 }
def k7c5 : Code := { maxStack := 3, maxLocals := 2, code := jdk_42_method_155_code, exceptionTable := #[], attributes := #[] }
def k7m5 : Method := { name := "checkIndex", desc := "(II)V", sig := { parameters := [.int, .int], returnType := none }, accessFlags := 8, code := some k7c5 }
/-- java/lang/String -/
def k7 : Class := { plain "java/lang/String" (some 0) with
  accessFlags := 49
  interfaces := #[2, 3, 4, 5, 6]
  cf := some (fileOf pool7 10 #[.nestMembers #[1103]] #[{ accessFlags := 1, nameIndex := 5, descriptorIndex := 6, attributes := #[] }, { accessFlags := 1, nameIndex := 507, descriptorIndex := 334, attributes := #[] }, { accessFlags := 1, nameIndex := 497, descriptorIndex := 427, attributes := #[] }, { accessFlags := 0, nameIndex := 17, descriptorIndex := 337, attributes := #[] }, { accessFlags := 0, nameIndex := 494, descriptorIndex := 142, attributes := #[] }, { accessFlags := 8, nameIndex := 501, descriptorIndex := 391, attributes := #[] }] 49 2 #[1106, 1108, 575, 1110, 1112] #[{ accessFlags := 18, nameIndex := 13, descriptorIndex := 14, attributes := #[] }, { accessFlags := 18, nameIndex := 17, descriptorIndex := 18, attributes := #[] }, { accessFlags := 2, nameIndex := 21, descriptorIndex := 22, attributes := #[] }, { accessFlags := 2, nameIndex := 25, descriptorIndex := 26, attributes := #[] }, { accessFlags := 26, nameIndex := 1116, descriptorIndex := 1117, attributes := #[] }, { accessFlags := 24, nameIndex := 40, descriptorIndex := 26, attributes := #[] }, { accessFlags := 26, nameIndex := 1101, descriptorIndex := 1102, attributes := #[] }, { accessFlags := 26, nameIndex := 1121, descriptorIndex := 1122, attributes := #[] }, { accessFlags := 25, nameIndex := 599, descriptorIndex := 600, attributes := #[] }, { accessFlags := 24, nameIndex := 1125, descriptorIndex := 18, attributes := #[] }, { accessFlags := 24, nameIndex := 1127, descriptorIndex := 18, attributes := #[] }])
  fields := #[{ name := "value", type := (.array .byte), accessFlags := 18, slot := 0, constantValue := 0 }, { name := "coder", type := .byte, accessFlags := 18, slot := 1, constantValue := 0 }, { name := "hash", type := .int, accessFlags := 2, slot := 2, constantValue := 0 }, { name := "hashIsZero", type := .boolean, accessFlags := 2, slot := 3, constantValue := 0 }, { name := "serialVersionUID", type := .long, accessFlags := 26, slot := 0, constantValue := 0 }, { name := "COMPACT_STRINGS", type := .boolean, accessFlags := 24, slot := 1, constantValue := 0 }, { name := "serialPersistentFields", type := (.array (.object "java/io/ObjectStreamField")), accessFlags := 26, slot := 2, constantValue := 0 }, { name := "REPL", type := .char, accessFlags := 26, slot := 3, constantValue := 0 }, { name := "CASE_INSENSITIVE_ORDER", type := (.object "java/util/Comparator"), accessFlags := 25, slot := 4, constantValue := 0 }, { name := "LATIN1", type := .byte, accessFlags := 24, slot := 5, constantValue := 0 }, { name := "UTF16", type := .byte, accessFlags := 24, slot := 6, constantValue := 0 }]
  methods := #[k7m0, k7m1, k7m2, k7m3, k7m4, k7m5]
  instanceTypes := #[(.array .byte), .byte, .int, .boolean]
  staticTypes := #[.long, .boolean, (.array (.object "java/io/ObjectStreamField")), .char, (.object "java/util/Comparator"), .byte, .byte]
  resolved := Array.replicate 1451 none
  statics := some 0 }

def pool8 : Array CpInfo := pool [(1, .class_ 2), (0, u "java/lang/String"), (1, .class_ 6), (1, u "java/lang/Object"), (0, u "<init>"), (0, u "()V"), (0, .methodref 1 10), (0, .nameAndType 11 12), (0, u "checkIndex"), (0, u "(II)V"), (1, .class_ 16), (1, u "java/lang/StringLatin1"), (36, u "([BI)C"), (67, u "$assertionsDisabled"), (0, u "Z"), (98, .class_ 223), (1, u "java/lang/StringLatin1$LinesSpliterator"), (28, u "charAt"), (137, .class_ 391), (0, u "java/lang/StringLatin1$CharsSpliterator")] 3

def k8m0 : Method := { name := "<init>", desc := "()V", sig := { parameters := [], returnType := none }, accessFlags := 0, code := none }
def k8c1 : Code := { maxStack := 2, maxLocals := 2, code := jdk_43_method_2_code, exceptionTable := #[], attributes := #[] }
def k8m1 : Method := { name := "charAt", desc := "([BI)C", sig := { parameters := [(.array .byte), .int], returnType := some .char }, accessFlags := 9, code := some k8c1 }
/-- java/lang/StringLatin1 -/
def k8 : Class := { plain "java/lang/StringLatin1" (some 0) with
  accessFlags := 48
  interfaces := #[]
  cf := some (fileOf pool8 14 #[.nestMembers #[390, 221]] #[{ accessFlags := 0, nameIndex := 7, descriptorIndex := 8, attributes := #[] }, { accessFlags := 9, nameIndex := 252, descriptorIndex := 53, attributes := #[] }] 48 4 #[] #[{ accessFlags := 4120, nameIndex := 121, descriptorIndex := 122, attributes := #[] }])
  fields := #[{ name := "$assertionsDisabled", type := .boolean, accessFlags := 4120, slot := 0, constantValue := 0 }]
  methods := #[k8m0, k8m1]
  instanceTypes := #[]
  staticTypes := #[.boolean]
  resolved := Array.replicate 395 none
  statics := none }

def pool9 : Array CpInfo := pool [(2, .class_ 4), (1, u "java/lang/Object"), (0, u "<init>"), (0, u "()V"), (17, .class_ 26), (1, u "jdk/internal/util/Preconditions"), (6, u "checkIndex"), (21, .class_ 56), (0, u "jdk/internal/util/Preconditions$4"), (57, .class_ 115), (0, u "jdk/internal/util/Preconditions$1"), (7, u "SIOOBE_FORMATTER"), (0, u "Ljava/util/function/BiFunction;"), (0, .class_ 126), (0, u "jdk/internal/util/Preconditions$2"), (3, u "AIOOBE_FORMATTER"), (0, .class_ 132), (0, u "jdk/internal/util/Preconditions$3"), (3, u "IOOBE_FORMATTER"), (41, u "(IILjava/util/function/BiFunction;)I")] 15

def k9m0 : Method := { name := "<init>", desc := "()V", sig := { parameters := [], returnType := none }, accessFlags := 1, code := none }
def k9c1 : Code := { maxStack := 3, maxLocals := 3, code := jdk_41_method_11_code, exceptionTable := #[], attributes := #[] }
def k9m1 : Method := { name := "checkIndex", desc := "(IILjava/util/function/BiFunction;)I", sig := { parameters := [.int, .int, (.object "java/util/function/BiFunction")], returnType := some .int }, accessFlags := 9, code := some k9c1 }
/-- jdk/internal/util/Preconditions -/
def k9 : Class := { plain "jdk/internal/util/Preconditions" (some 0) with
  accessFlags := 33
  interfaces := #[]
  cf := some (fileOf pool9 24 #[.nestMembers #[55, 131, 125, 114]] #[{ accessFlags := 1, nameIndex := 5, descriptorIndex := 6, attributes := #[] }, { accessFlags := 9, nameIndex := 33, descriptorIndex := 178, attributes := #[] }] 33 2 #[] #[{ accessFlags := 25, nameIndex := 123, descriptorIndex := 124, attributes := #[] }, { accessFlags := 25, nameIndex := 130, descriptorIndex := 124, attributes := #[] }, { accessFlags := 25, nameIndex := 136, descriptorIndex := 124, attributes := #[] }])
  fields := #[{ name := "SIOOBE_FORMATTER", type := (.object "java/util/function/BiFunction"), accessFlags := 25, slot := 0, constantValue := 0 }, { name := "AIOOBE_FORMATTER", type := (.object "java/util/function/BiFunction"), accessFlags := 25, slot := 1, constantValue := 0 }, { name := "IOOBE_FORMATTER", type := (.object "java/util/function/BiFunction"), accessFlags := 25, slot := 2, constantValue := 0 }]
  methods := #[k9m0, k9m1]
  instanceTypes := #[]
  staticTypes := #[(.object "java/util/function/BiFunction"), (.object "java/util/function/BiFunction"), (.object "java/util/function/BiFunction")]
  resolved := Array.replicate 194 none
  statics := some 1 }

def pool10 : Array CpInfo := pool [(2, .class_ 4), (1, u "java/lang/Enum"), (0, u "name"), (0, u "Ljava/lang/String;"), (2, u "ordinal"), (0, u "I"), (1, .class_ 14), (1, u "java/lang/Object"), (4, u "hash"), (86, .class_ 108), (1, u "java/lang/Enum$EnumDesc"), (2, .class_ 112), (0, u "java/lang/constant/Constable"), (0, .class_ 114), (0, u "java/lang/Comparable"), (0, .class_ 116), (0, u "java/io/Serializable")] 87

/-- java/lang/Enum -/
def k10 : Class := { plain "java/lang/Enum" (some 0) with
  accessFlags := 1057
  interfaces := #[5, 3, 2]
  cf := some (fileOf pool10 2 #[.nestMembers #[106]] #[] 1057 12 #[111, 113, 115] #[{ accessFlags := 18, nameIndex := 5, descriptorIndex := 6, attributes := #[] }, { accessFlags := 18, nameIndex := 9, descriptorIndex := 10, attributes := #[] }, { accessFlags := 2, nameIndex := 19, descriptorIndex := 10, attributes := #[] }])
  fields := #[{ name := "name", type := (.object "java/lang/String"), accessFlags := 18, slot := 0, constantValue := 0 }, { name := "ordinal", type := .int, accessFlags := 18, slot := 1, constantValue := 0 }, { name := "hash", type := .int, accessFlags := 2, slot := 2, constantValue := 0 }]
  methods := #[]
  instanceTypes := #[(.object "java/lang/String"), .int, .int]
  staticTypes := #[]
  resolved := Array.replicate 204 none
  statics := none }

def pool11 : Array CpInfo := pool [(1, .class_ 2), (0, u "com/example/valtab/valtab/sign/Sign"), (0, .fieldref 1 4), (0, .nameAndType 5 6), (0, u "TOP"), (0, u "Lcom/example/valtab/valtab/sign/Sign;"), (2, u "NEGATIVE"), (0, .fieldref 1 11), (0, .nameAndType 12 6), (0, u "ZERO"), (2, u "POSITIVE"), (0, .fieldref 1 17), (0, .nameAndType 18 6), (0, u "BOTTOM"), (2, u "$VALUES"), (0, u "[Lcom/example/valtab/valtab/sign/Sign;"), (6, .class_ 31), (1, u "java/lang/Enum"), (6, .fieldref 1 39), (0, .nameAndType 40 41), (0, u "symbol"), (0, u "Ljava/lang/String;"), (6, u "add"), (0, u "(Lcom/example/valtab/valtab/sign/Sign;)Lcom/example/valtab/valtab/sign/Sign;"), (32, u "()Ljava/lang/String;")] 8

def k11c0 : Code := { maxStack := 1, maxLocals := 1, code := prog_37_method_5_code, exceptionTable := #[], attributes := #[] }
def k11m0 : Method := { name := "symbol", desc := "()Ljava/lang/String;", sig := { parameters := [], returnType := some (.object "java/lang/String") }, accessFlags := 1, code := some k11c0 }
def k11c1 : Code := { maxStack := 2, maxLocals := 3, code := prog_37_method_8_code, exceptionTable := #[], attributes := #[] }
def k11m1 : Method := { name := "add", desc := "(Lcom/example/valtab/valtab/sign/Sign;)Lcom/example/valtab/valtab/sign/Sign;", sig := { parameters := [(.object "com/example/valtab/valtab/sign/Sign")], returnType := some (.object "com/example/valtab/valtab/sign/Sign") }, accessFlags := 1, code := some k11c1 }
/-- com/example/valtab/valtab/sign/Sign -/
def k11 : Class := { plain "com/example/valtab/valtab/sign/Sign" (some 10) with
  accessFlags := 16433
  interfaces := #[]
  cf := some (fileOf pool11 1 #[] #[{ accessFlags := 1, nameIndex := 40, descriptorIndex := 82, attributes := #[] }, { accessFlags := 1, nameIndex := 48, descriptorIndex := 49, attributes := #[] }] 16433 29 #[] #[{ accessFlags := 16409, nameIndex := 5, descriptorIndex := 6, attributes := #[] }, { accessFlags := 16409, nameIndex := 9, descriptorIndex := 6, attributes := #[] }, { accessFlags := 16409, nameIndex := 12, descriptorIndex := 6, attributes := #[] }, { accessFlags := 16409, nameIndex := 15, descriptorIndex := 6, attributes := #[] }, { accessFlags := 16409, nameIndex := 18, descriptorIndex := 6, attributes := #[] }, { accessFlags := 18, nameIndex := 40, descriptorIndex := 41, attributes := #[] }, { accessFlags := 4122, nameIndex := 21, descriptorIndex := 22, attributes := #[] }])
  fields := #[{ name := "TOP", type := (.object "com/example/valtab/valtab/sign/Sign"), accessFlags := 16409, slot := 0, constantValue := 0 }, { name := "NEGATIVE", type := (.object "com/example/valtab/valtab/sign/Sign"), accessFlags := 16409, slot := 1, constantValue := 0 }, { name := "ZERO", type := (.object "com/example/valtab/valtab/sign/Sign"), accessFlags := 16409, slot := 2, constantValue := 0 }, { name := "POSITIVE", type := (.object "com/example/valtab/valtab/sign/Sign"), accessFlags := 16409, slot := 3, constantValue := 0 }, { name := "BOTTOM", type := (.object "com/example/valtab/valtab/sign/Sign"), accessFlags := 16409, slot := 4, constantValue := 0 }, { name := "symbol", type := (.object "java/lang/String"), accessFlags := 18, slot := 3, constantValue := 0 }, { name := "$VALUES", type := (.array (.object "com/example/valtab/valtab/sign/Sign")), accessFlags := 4122, slot := 5, constantValue := 0 }]
  methods := #[k11m0, k11m1]
  instanceTypes := #[(.object "java/lang/String"), .int, .int, (.object "java/lang/String")]
  staticTypes := #[(.object "com/example/valtab/valtab/sign/Sign"), (.object "com/example/valtab/valtab/sign/Sign"), (.object "com/example/valtab/valtab/sign/Sign"), (.object "com/example/valtab/valtab/sign/Sign"), (.object "com/example/valtab/valtab/sign/Sign"), (.array (.object "com/example/valtab/valtab/sign/Sign"))]
  resolved := Array.replicate 91 none
  statics := some 2 }

def pool12 : Array CpInfo := pool [(9, u "<init>"), (6, .class_ 18), (1, u "java/lang/Object"), (0, u "()V"), (1, .class_ 23), (1, u "jdk/internal/util/ArraysSupport"), (0, u "LOG2_ARRAY_LONG_INDEX_SCALE"), (0, u "I"), (2, u "U"), (0, u "Ljdk/internal/misc/Unsafe;"), (8, u "BIG_ENDIAN"), (0, u "Z"), (8, u "LOG2_BYTE_BIT_SIZE"), (4, u "LOG2_ARRAY_INT_INDEX_SCALE"), (54, u "JLA"), (0, u "Ljdk/internal/access/JavaLangAccess;"), (11, u "LOG2_ARRAY_BOOLEAN_INDEX_SCALE"), (9, u "LOG2_ARRAY_BYTE_INDEX_SCALE"), (5, u "LOG2_ARRAY_CHAR_INDEX_SCALE"), (5, u "LOG2_ARRAY_SHORT_INDEX_SCALE"), (18, u "LOG2_ARRAY_FLOAT_INDEX_SCALE"), (24, u "LOG2_ARRAY_DOUBLE_INDEX_SCALE"), (89, u "T_BOOLEAN"), (2, u "T_CHAR"), (1, u "T_FLOAT"), (1, u "T_DOUBLE"), (1, u "T_BYTE"), (1, u "T_SHORT"), (1, u "T_INT"), (1, u "T_LONG"), (1, u "SOFT_MAX_ARRAY_LENGTH")] 83

def k12m0 : Method := { name := "<init>", desc := "()V", sig := { parameters := [], returnType := none }, accessFlags := 2, code := none }
/-- jdk/internal/util/ArraysSupport -/
def k12 : Class := { plain "jdk/internal/util/ArraysSupport" (some 0) with
  accessFlags := 33
  interfaces := #[]
  cf := some (fileOf pool12 21 #[] #[{ accessFlags := 2, nameIndex := 9, descriptorIndex := 19, attributes := #[] }] 33 16 #[] #[{ accessFlags := 24, nameIndex := 28, descriptorIndex := 29, attributes := #[] }, { accessFlags := 26, nameIndex := 38, descriptorIndex := 39, attributes := #[] }, { accessFlags := 25, nameIndex := 121, descriptorIndex := 25, attributes := #[] }, { accessFlags := 25, nameIndex := 131, descriptorIndex := 25, attributes := #[] }, { accessFlags := 25, nameIndex := 137, descriptorIndex := 25, attributes := #[] }, { accessFlags := 25, nameIndex := 143, descriptorIndex := 25, attributes := #[] }, { accessFlags := 25, nameIndex := 53, descriptorIndex := 25, attributes := #[] }, { accessFlags := 25, nameIndex := 24, descriptorIndex := 25, attributes := #[] }, { accessFlags := 25, nameIndex := 162, descriptorIndex := 25, attributes := #[] }, { accessFlags := 25, nameIndex := 187, descriptorIndex := 25, attributes := #[] }, { accessFlags := 26, nameIndex := 48, descriptorIndex := 25, attributes := #[] }, { accessFlags := 25, nameIndex := 277, descriptorIndex := 25, attributes := #[] }, { accessFlags := 25, nameIndex := 280, descriptorIndex := 25, attributes := #[] }, { accessFlags := 25, nameIndex := 282, descriptorIndex := 25, attributes := #[] }, { accessFlags := 25, nameIndex := 284, descriptorIndex := 25, attributes := #[] }, { accessFlags := 25, nameIndex := 286, descriptorIndex := 25, attributes := #[] }, { accessFlags := 25, nameIndex := 288, descriptorIndex := 25, attributes := #[] }, { accessFlags := 25, nameIndex := 290, descriptorIndex := 25, attributes := #[] }, { accessFlags := 25, nameIndex := 292, descriptorIndex := 25, attributes := #[] }, { accessFlags := 26, nameIndex := 108, descriptorIndex := 109, attributes := #[] }, { accessFlags := 25, nameIndex := 294, descriptorIndex := 25, attributes := #[] }])
  fields := #[{ name := "U", type := (.object "jdk/internal/misc/Unsafe"), accessFlags := 24, slot := 0, constantValue := 0 }, { name := "BIG_ENDIAN", type := .boolean, accessFlags := 26, slot := 1, constantValue := 0 }, { name := "LOG2_ARRAY_BOOLEAN_INDEX_SCALE", type := .int, accessFlags := 25, slot := 2, constantValue := 0 }, { name := "LOG2_ARRAY_BYTE_INDEX_SCALE", type := .int, accessFlags := 25, slot := 3, constantValue := 0 }, { name := "LOG2_ARRAY_CHAR_INDEX_SCALE", type := .int, accessFlags := 25, slot := 4, constantValue := 0 }, { name := "LOG2_ARRAY_SHORT_INDEX_SCALE", type := .int, accessFlags := 25, slot := 5, constantValue := 0 }, { name := "LOG2_ARRAY_INT_INDEX_SCALE", type := .int, accessFlags := 25, slot := 6, constantValue := 0 }, { name := "LOG2_ARRAY_LONG_INDEX_SCALE", type := .int, accessFlags := 25, slot := 7, constantValue := 0 }, { name := "LOG2_ARRAY_FLOAT_INDEX_SCALE", type := .int, accessFlags := 25, slot := 8, constantValue := 0 }, { name := "LOG2_ARRAY_DOUBLE_INDEX_SCALE", type := .int, accessFlags := 25, slot := 9, constantValue := 0 }, { name := "LOG2_BYTE_BIT_SIZE", type := .int, accessFlags := 26, slot := 10, constantValue := 0 }, { name := "T_BOOLEAN", type := .int, accessFlags := 25, slot := 11, constantValue := 0 }, { name := "T_CHAR", type := .int, accessFlags := 25, slot := 12, constantValue := 0 }, { name := "T_FLOAT", type := .int, accessFlags := 25, slot := 13, constantValue := 0 }, { name := "T_DOUBLE", type := .int, accessFlags := 25, slot := 14, constantValue := 0 }, { name := "T_BYTE", type := .int, accessFlags := 25, slot := 15, constantValue := 0 }, { name := "T_SHORT", type := .int, accessFlags := 25, slot := 16, constantValue := 0 }, { name := "T_INT", type := .int, accessFlags := 25, slot := 17, constantValue := 0 }, { name := "T_LONG", type := .int, accessFlags := 25, slot := 18, constantValue := 0 }, { name := "JLA", type := (.object "jdk/internal/access/JavaLangAccess"), accessFlags := 26, slot := 19, constantValue := 0 }, { name := "SOFT_MAX_ARRAY_LENGTH", type := .int, accessFlags := 25, slot := 20, constantValue := 0 }]
  methods := #[k12m0]
  instanceTypes := #[]
  staticTypes := #[(.object "jdk/internal/misc/Unsafe"), .boolean, .int, .int, .int, .int, .int, .int, .int, .int, .int, .int, .int, .int, .int, .int, .int, .int, .int, (.object "jdk/internal/access/JavaLangAccess"), .int]
  resolved := Array.replicate 378 none
  statics := none }

def pool13 : Array CpInfo := pool [(1, u "java/lang/Cloneable"), (0, .class_ 1), (0, u "java/lang/Object"), (0, .class_ 3)] 3

/-- java/lang/Cloneable -/
def k13 : Class := { plain "java/lang/Cloneable" (some 0) with
  accessFlags := 1537
  interfaces := #[]
  cf := some (fileOf pool13 2 #[] #[] 1537 4 #[] #[])
  fields := #[]
  methods := #[]
  instanceTypes := #[]
  staticTypes := #[]
  resolved := Array.replicate 8 none
  statics := none }

/-- the primitive byte -/
def k14 : Class := { plain "byte" none with kind := .primitive 'B', accessFlags := 0x411 }
/-- [B -/
def k15 : Class := { plain "[B" (some 0) with kind := .array 14 .byte, interfaces := #[13, 2], accessFlags := 1041 }

/-- the primitive int -/
def k16 : Class := { plain "int" none with kind := .primitive 'I', accessFlags := 0x411 }
/-- [I -/
def k17 : Class := { plain "[I" (some 0) with kind := .array 16 .int, interfaces := #[13, 2], accessFlags := 1041 }

def heap : Heap := #[{ cls := 7, slots := #[.long 0, .int 1, .null, .int 0, .null, .int 0, .int 0], vm := .statics 7 },
  { cls := 9, slots := #[.null, .null, .null], vm := .statics 9 },
  { cls := 11, slots := #[.ref 13, .ref 14, .ref 15, .ref 16, .ref 17, .null], vm := .statics 11 },
  { cls := 15, slots := #[.int 84], vm := .none },
  { cls := 15, slots := #[.int 45], vm := .none },
  { cls := 15, slots := #[.int 48], vm := .none },
  { cls := 15, slots := #[.int 43], vm := .none },
  { cls := 15, slots := #[.int 42], vm := .none },
  { cls := 7, slots := #[.ref 3, .int 0, .int 0, .int 0], vm := .none },
  { cls := 7, slots := #[.ref 4, .int 0, .int 0, .int 0], vm := .none },
  { cls := 7, slots := #[.ref 5, .int 0, .int 0, .int 0], vm := .none },
  { cls := 7, slots := #[.ref 6, .int 0, .int 0, .int 0], vm := .none },
  { cls := 7, slots := #[.ref 7, .int 0, .int 0, .int 0], vm := .none },
  { cls := 11, slots := #[.null, .int 0, .int 0, .ref 8], vm := .none },
  { cls := 11, slots := #[.null, .int 1, .int 0, .ref 9], vm := .none },
  { cls := 11, slots := #[.null, .int 2, .int 0, .ref 10], vm := .none },
  { cls := 11, slots := #[.null, .int 3, .int 0, .ref 11], vm := .none },
  { cls := 11, slots := #[.null, .int 4, .int 0, .ref 12], vm := .none }]
def classes : Array Class := #[k0, k1, k2, k3, k4, k5, k6, k7, k8, k9, k10, k11, k12, k13, k14, k15, k16, k17]
def interned : List (Array UInt16 × Addr) := []
def slotsUsed : Nat := 61
def theMethod : MethodId := ⟨1, 2⟩
def args0 : Array Value := #[.int 1, .int 2]
def aboutOver (below : List Frame) : State where
  vm := { classes := classes, interned := interned.toArray }
  heap := heap
  slotsUsed := slotsUsed
  threads := #[{ frames := .invoking theMethod args0 :: below }]
def below0 : List Frame := [.native { method := ⟨0, 0⟩, args := #[] }]
def about1 : State := aboutOver below0
def p0 : Program := .bare "" "" ""
def e0 : Env := launch0.env 0 0 0
theorem w_frames : about1.frames = Frame.invoking theMethod args0 :: below0 := rfl
set_option maxRecDepth 65536 in
theorem w_args : argsFit about1.vm theMethod args0 = true := by decide +kernel
set_option maxRecDepth 65536 in
theorem w_heap : heapFits about1 = true := by decide +kernel
set_option maxRecDepth 65536 in
theorem w_runnable : about1.curStatus? = some .runnable := by decide +kernel
set_option maxRecDepth 65536 in
theorem w_alone : about1.alone = true := by decide +kernel
set_option maxRecDepth 65536 in
theorem w_named : about1.methodNamed? x = some theMethod := by decide +kernel
set_option maxRecDepth 65536 in
theorem w_hears : about1.hears theMethod below0 = true := by decide +kernel
set_option maxRecDepth 65536 in
theorem w_ripe : about1.ripe theMethod args0 below0 = true := by decide +kernel
theorem w_running : about1.status = .running := rfl
set_option maxRecDepth 65536 in
theorem w_room : about1.hasRoom e0.platform room_1 = true :=
  launch0.hasRoom_least _ room_1 (by decide +kernel) (by decide +kernel) (by decide +kernel) (by decide +kernel) (by decide +kernel) (by decide +kernel)
theorem allAtoms_all (ts : List Jvm.Cond) (a : Array Jvm.Value) (st : Jvm.State) : (allAtoms ts).before a st = ts.all (fun c => c.before a st) := by
  induction ts with
  | nil => rfl
  | cons c t ih =>
    show (Jvm.Cond.and c (allAtoms t)).before a st = _
    rw [Jvm.Cond.before_and, ih, List.all_cons]
def words1 : List Jvm.Cond := Jvm.Cond.code x code maxLocals ret :: tables_1
/-- a 'code' word, met by the world's own term for the bytes: nothing is compared byte by byte -/
theorem code_word {y : MethodName} {bytes : ByteArray} {mx : Nat} {rt : Option FieldType} {a : Array Value} {s : State} {m : MethodId} {meth : Method} {c : Code} (h1 : s.methodNamed? y = some m) (h2 : s.vm.method? m = some meth) (h3 : meth.code = some c) (h4 : c.code = bytes)
    (h5 : (c.maxLocals == mx && c.exceptionTable.isEmpty && decide (c.maxStack ≤ mostOperands) && decide (meth.sig.returnType = rt) && !meth.locks && decide (parseMethodDescriptor y.desc = some meth.sig)) = true) : (Jvm.Cond.code y bytes mx rt).before a s = true := by
  simp only [Bool.and_eq_true, beq_iff_eq, Bool.not_eq_true', decide_eq_true_eq] at h5
  obtain ⟨⟨⟨⟨⟨g1, g2⟩, g3⟩, g4⟩, g5⟩, g6⟩ := h5
  simp [Cond.before, Cond.holds, Cond.value, h1, h2, h3, h4, g1, g2, g3, g4, g5, g6]
def isCode : Jvm.Cond → Bool
  | .code _ _ _ _ => true
  | _ => false
theorem all_split {L : List Jvm.Cond} {P : Jvm.Cond → Bool} (h1 : L.all (fun c => isCode c || P c) = true) (h2 : ∀ c ∈ L.filter isCode, P c = true) : L.all P = true := by
  refine List.all_eq_true.mpr fun c hc => ?_
  have h := List.all_eq_true.mp h1 c hc
  rcases Bool.eq_false_or_eq_true (isCode c) with hi | hi
  · exact h2 c (List.mem_filter.mpr ⟨hc, hi⟩)
  · simpa [hi] using h
set_option maxRecDepth 65536 in
theorem w_c0 : (Jvm.Cond.code x code maxLocals ret).before args0 about1 = true := code_word (m := ⟨1, 2⟩) (meth := k1m2) (c := k1c2) (by decide +kernel) rfl rfl rfl (by decide +kernel)
set_option maxRecDepth 65536 in
theorem w_c1 : (Jvm.Cond.code ({ cls := "java/lang/String", name := "charAt", desc := "(I)C" } : Jvm.MethodName) jdk_42_method_56_code (2 : Nat) (Option.some Jvm.ClassFile.FieldType.char)).before args0 about1 = true := code_word (m := ⟨7, 2⟩) (meth := k7m2) (c := k7c2) (by decide +kernel) rfl rfl rfl (by decide +kernel)
set_option maxRecDepth 65536 in
theorem w_c2 : (Jvm.Cond.code ({ cls := "java/lang/String", name := "isLatin1", desc := "()Z" } : Jvm.MethodName) jdk_42_method_154_code (1 : Nat) (Option.some Jvm.ClassFile.FieldType.boolean)).before args0 about1 = true := code_word (m := ⟨7, 4⟩) (meth := k7m4) (c := k7c4) (by decide +kernel) rfl rfl rfl (by decide +kernel)
set_option maxRecDepth 65536 in
theorem w_c3 : (Jvm.Cond.code ({ cls := "java/lang/StringLatin1", name := "charAt", desc := "([BI)C" } : Jvm.MethodName) jdk_43_method_2_code (2 : Nat) (Option.some Jvm.ClassFile.FieldType.char)).before args0 about1 = true := code_word (m := ⟨8, 1⟩) (meth := k8m1) (c := k8c1) (by decide +kernel) rfl rfl rfl (by decide +kernel)
set_option maxRecDepth 65536 in
theorem w_c4 : (Jvm.Cond.code ({ cls := "java/lang/String", name := "checkIndex", desc := "(II)V" } : Jvm.MethodName) jdk_42_method_155_code (2 : Nat) (Option.none : Option Jvm.ClassFile.FieldType)).before args0 about1 = true := code_word (m := ⟨7, 5⟩) (meth := k7m5) (c := k7c5) (by decide +kernel) rfl rfl rfl (by decide +kernel)
set_option maxRecDepth 65536 in
theorem w_c5 : (Jvm.Cond.code ({ cls := "jdk/internal/util/Preconditions", name := "checkIndex", desc := "(IILjava/util/function/BiFunction;)I" } : Jvm.MethodName) jdk_41_method_11_code (3 : Nat) (Option.some Jvm.ClassFile.FieldType.int)).before args0 about1 = true := code_word (m := ⟨9, 1⟩) (meth := k9m1) (c := k9c1) (by decide +kernel) rfl rfl rfl (by decide +kernel)
set_option maxRecDepth 65536 in
theorem w_c6 : (Jvm.Cond.code ({ cls := "com/example/valtab/valtab/sign/SignAddPinLaw", name := "pick", desc := "(I)Lcom/example/valtab/valtab/sign/Sign;" } : Jvm.MethodName) method_2_code (1 : Nat) (Option.some (Jvm.ClassFile.FieldType.object "com/example/valtab/valtab/sign/Sign"))).before args0 about1 = true := code_word (m := ⟨1, 1⟩) (meth := k1m1) (c := k1c1) (by decide +kernel) rfl rfl rfl (by decide +kernel)
set_option maxRecDepth 65536 in
theorem w_c7 : (Jvm.Cond.code ({ cls := "com/example/valtab/valtab/sign/Sign", name := "add", desc := "(Lcom/example/valtab/valtab/sign/Sign;)Lcom/example/valtab/valtab/sign/Sign;" } : Jvm.MethodName) prog_37_method_8_code (3 : Nat) (Option.some (Jvm.ClassFile.FieldType.object "com/example/valtab/valtab/sign/Sign"))).before args0 about1 = true := code_word (m := ⟨11, 1⟩) (meth := k11m1) (c := k11c1) (by decide +kernel) rfl rfl rfl (by decide +kernel)
set_option maxRecDepth 65536 in
theorem w_c8 : (Jvm.Cond.code ({ cls := "com/example/valtab/valtab/sign/Sign", name := "symbol", desc := "()Ljava/lang/String;" } : Jvm.MethodName) prog_37_method_5_code (1 : Nat) (Option.some (Jvm.ClassFile.FieldType.object "java/lang/String"))).before args0 about1 = true := code_word (m := ⟨11, 0⟩) (meth := k11m0) (c := k11c0) (by decide +kernel) rfl rfl rfl (by decide +kernel)
set_option maxRecDepth 65536 in
theorem w_c9 : (Jvm.Cond.code ({ cls := "java/lang/String", name := "length", desc := "()I" } : Jvm.MethodName) jdk_42_method_54_code (1 : Nat) (Option.some Jvm.ClassFile.FieldType.int)).before args0 about1 = true := code_word (m := ⟨7, 1⟩) (meth := k7m1) (c := k7c1) (by decide +kernel) rfl rfl rfl (by decide +kernel)
set_option maxRecDepth 65536 in
theorem w_c10 : (Jvm.Cond.code ({ cls := "java/lang/String", name := "coder", desc := "()B" } : Jvm.MethodName) jdk_42_method_152_code (1 : Nat) (Option.some Jvm.ClassFile.FieldType.byte)).before args0 about1 = true := code_word (m := ⟨7, 3⟩) (meth := k7m3) (c := k7c3) (by decide +kernel) rfl rfl rfl (by decide +kernel)
def codes1 : List Jvm.Cond := [Jvm.Cond.code x code maxLocals ret, Jvm.Cond.code ({ cls := "java/lang/String", name := "charAt", desc := "(I)C" } : Jvm.MethodName) jdk_42_method_56_code (2 : Nat) (Option.some Jvm.ClassFile.FieldType.char), Jvm.Cond.code ({ cls := "java/lang/String", name := "isLatin1", desc := "()Z" } : Jvm.MethodName) jdk_42_method_154_code (1 : Nat) (Option.some Jvm.ClassFile.FieldType.boolean), Jvm.Cond.code ({ cls := "java/lang/StringLatin1", name := "charAt", desc := "([BI)C" } : Jvm.MethodName) jdk_43_method_2_code (2 : Nat) (Option.some Jvm.ClassFile.FieldType.char), Jvm.Cond.code ({ cls := "java/lang/String", name := "checkIndex", desc := "(II)V" } : Jvm.MethodName) jdk_42_method_155_code (2 : Nat) (Option.none : Option Jvm.ClassFile.FieldType), Jvm.Cond.code ({ cls := "jdk/internal/util/Preconditions", name := "checkIndex", desc := "(IILjava/util/function/BiFunction;)I" } : Jvm.MethodName) jdk_41_method_11_code (3 : Nat) (Option.some Jvm.ClassFile.FieldType.int), Jvm.Cond.code ({ cls := "com/example/valtab/valtab/sign/SignAddPinLaw", name := "pick", desc := "(I)Lcom/example/valtab/valtab/sign/Sign;" } : Jvm.MethodName) method_2_code (1 : Nat) (Option.some (Jvm.ClassFile.FieldType.object "com/example/valtab/valtab/sign/Sign")), Jvm.Cond.code ({ cls := "com/example/valtab/valtab/sign/Sign", name := "add", desc := "(Lcom/example/valtab/valtab/sign/Sign;)Lcom/example/valtab/valtab/sign/Sign;" } : Jvm.MethodName) prog_37_method_8_code (3 : Nat) (Option.some (Jvm.ClassFile.FieldType.object "com/example/valtab/valtab/sign/Sign")), Jvm.Cond.code ({ cls := "com/example/valtab/valtab/sign/Sign", name := "symbol", desc := "()Ljava/lang/String;" } : Jvm.MethodName) prog_37_method_5_code (1 : Nat) (Option.some (Jvm.ClassFile.FieldType.object "java/lang/String")), Jvm.Cond.code ({ cls := "java/lang/String", name := "length", desc := "()I" } : Jvm.MethodName) jdk_42_method_54_code (1 : Nat) (Option.some Jvm.ClassFile.FieldType.int), Jvm.Cond.code ({ cls := "java/lang/String", name := "coder", desc := "()B" } : Jvm.MethodName) jdk_42_method_152_code (1 : Nat) (Option.some Jvm.ClassFile.FieldType.byte)]
set_option maxRecDepth 65536 in
theorem codes_eq : words1.filter isCode = codes1 := rfl
theorem w_codes : ∀ c ∈ words1.filter isCode, c.before args0 about1 = true := by
  rw [codes_eq]
  intro c hc
  simp only [codes1, List.mem_cons, List.not_mem_nil, or_false] at hc
  rcases hc with rfl | rfl | rfl | rfl | rfl | rfl | rfl | rfl | rfl | rfl | rfl
  · exact w_c0
  · exact w_c1
  · exact w_c2
  · exact w_c3
  · exact w_c4
  · exact w_c5
  · exact w_c6
  · exact w_c7
  · exact w_c8
  · exact w_c9
  · exact w_c10
set_option maxRecDepth 65536 in
theorem w_t1 : (words1.take 24).all (fun c => isCode c || c.before args0 about1) = true := by decide +kernel
set_option maxRecDepth 65536 in
theorem w_t2 : ((words1.drop 24).take 24).all (fun c => isCode c || c.before args0 about1) = true := by decide +kernel
set_option maxRecDepth 65536 in
theorem w_t3 : (((words1.drop 24).drop 24).take 24).all (fun c => isCode c || c.before args0 about1) = true := by decide +kernel
set_option maxRecDepth 65536 in
theorem w_t4 : (((words1.drop 24).drop 24).drop 24).all (fun c => isCode c || c.before args0 about1) = true := by decide +kernel
theorem w_tables : (allAtoms (Jvm.Cond.code x code maxLocals ret :: tables_1)).before args0 about1 = true := by
  rw [allAtoms_all]
  show words1.all (fun c => c.before args0 about1) = true
  refine all_split ?_ w_codes
  rw [← List.take_append_drop 24 words1, List.all_append, w_t1, ← List.take_append_drop 24 (words1.drop 24), List.all_append, w_t2, ← List.take_append_drop 24 ((words1.drop 24).drop 24), List.all_append, w_t3, w_t4]
  rfl
set_option maxRecDepth 65536 in
theorem w_rest : rest_1_c.before args0 about1 = true := by decide +kernel
set_option maxRecDepth 65536 in
theorem w_case : (Jvm.Cond.and given_1 narrow_1).before args0 about1 = true := by decide +kernel
set_option maxRecDepth 65536 in
theorem w_consts : constsHeld consts_1 about1 := Jvm.Lit.constsHeldB_iff.mp (by decide +kernel)
theorem w_applies : (headSpec (Jvm.Cond.code x code maxLocals ret :: tables_1) room_1).applies x e0.platform about1 = true :=
  (Spec.applies_iff w_frames).mpr ⟨w_running, w_runnable, w_alone, w_named, w_hears, w_ripe, w_room, w_tables⟩
theorem atStart : AtStart classFile x code maxLocals ret World_1 tables_1 room_1 Calls_1 rest_1 Pre_1 launch0 p0 e0 about1 theMethod args0 below0 :=
  ⟨lists_1, trivial, launch0.admits_env _ _ _, launch0.least_env, fairChoices_fair.cas, fairChoices_fair.clock, w_frames, w_args, w_heap, w_applies, ⟨w_consts, trivial⟩, w_rest, w_case⟩
end start1
theorem witness_1 : WitnessClaimed_1 := ⟨start1.p0, start1.e0, start1.about1, start1.theMethod, start1.args0, start1.below0, start1.atStart⟩
end Jvm.Pilot.@@N@@
