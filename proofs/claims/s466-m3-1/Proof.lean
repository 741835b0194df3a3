import JvmDerived
import JvmDerived.Pilot.@@N@@Statement
import JvmDerived.Pilot.@@N@@Code
set_option linter.unusedVariables false
set_option linter.unusedSimpArgs false
namespace Jvm.Pilot.@@N@@
open Jvm Jvm.ClassFile Sem Op Lib Jvm.Free Jvm.Stand Jvm.LawKit Jvm.RoadKit Bundle Jvm.Pilot.@@N@@.Jvm.D
section OwnKit
variable {p : Program} {l : Launch} {e : Env} {R : Room} {s : State} {m : MethodId} {args : Array Value} {below : List Frame} {meth : Method} {c : Code} {T : State} {locs : List Loc} {cells slots : Nat} {Z : State} {a0 : Array Value} {h : Heap} {K N : Nat} {Q : Option Value → Heap → List Loc → Prop} {pc nx tg : Nat} {Ls : Array Slot} {st : List Value} {bs : ByteArray} {o : Int}
/-- from the frame g at T the run ends, returning, as Q says -/
def Wp (p : Program) (e : Env) (below : List Frame) (s : State) (K N : Nat) (Q : Option Value → Heap → List Loc → Prop) (T : State) (g : JFrame) : Prop :=
  ∃ s₂ o, Steps p.tables e below (T.setTop g) s₂ ∧ s₂.status = .running ∧ Ended s₂ below o ∧ ∃ v L, o = .returned v ∧ Q v s₂.heap L ∧ FrameEnd s o s₂ L K N
theorem Wp.go {T' : State} {g g' : JFrame} (st : ∀ target, Steps p.tables e below (T'.setTop g') target → Steps p.tables e below (T.setTop g) target) (k : Wp p e below s K N Q T' g') : Wp p e below s K N Q T g := by
  obtain ⟨s₂, o, h1, h2⟩ := k; exact ⟨s₂, o, st _ h1, h2⟩
theorem Wp.tr {T' : State} {g g' : JFrame} (st : Steps p.tables e below (T.setTop g) (T'.setTop g')) (k : Wp p e below s K N Q T' g') : Wp p e below s K N Q T g := by
  obtain ⟨s₂, o, h1, h2⟩ := k; exact ⟨s₂, o, st.trans h1, h2⟩
/-- the instruction i, len bytes long, stands at pc; the next one at nx -/
def In (bs : ByteArray) (pc : Nat) (i : Instr) (len nx : Nat) : Prop := decode bs pc = .ok (i, len) ∧ pc + len = nx
/-- a jump by o: the next one at nx, the target at tg -/
def Jm (bs : ByteArray) (pc : Nat) (i : Instr) (o : Int) (nx tg : Nat) : Prop := decode bs pc = .ok (i, 3) ∧ pc + 3 = nx ∧ 0 ≤ (pc : Int) + o ∧ ((pc : Int) + o).toNat = tg

theorem w_iadd (X : Stand p l e R s m args below meth c T locs cells slots) (hx : p.tables.exec = Jvm.exec) (hby : c.code = bs) {x y : Int32} (hd : In bs pc (.iadd) 1 nx) (k : Wp p e below s K N Q T (mkF m nx Ls (.int (x + y) :: st))) : Wp p e below s K N Q T (mkF m pc Ls (.int y :: .int x :: st)) := by
  obtain ⟨d, rfl⟩ := hd; exact Wp.go (fun t kk => XS.iadd X.here hx rfl (hb hby d) rfl kk) k
theorem w_isub (X : Stand p l e R s m args below meth c T locs cells slots) (hx : p.tables.exec = Jvm.exec) (hby : c.code = bs) {x y : Int32} (hd : In bs pc (.isub) 1 nx) (k : Wp p e below s K N Q T (mkF m nx Ls (.int (x - y) :: st))) : Wp p e below s K N Q T (mkF m pc Ls (.int y :: .int x :: st)) := by
  obtain ⟨d, rfl⟩ := hd; exact Wp.go (fun t kk => XS.isub X.here hx rfl (hb hby d) rfl kk) k
theorem w_iand (X : Stand p l e R s m args below meth c T locs cells slots) (hx : p.tables.exec = Jvm.exec) (hby : c.code = bs) {x y : Int32} (hd : In bs pc (.iand) 1 nx) (k : Wp p e below s K N Q T (mkF m nx Ls (.int (x &&& y) :: st))) : Wp p e below s K N Q T (mkF m pc Ls (.int y :: .int x :: st)) := by
  obtain ⟨d, rfl⟩ := hd; exact Wp.go (fun t kk => XS.iand X.here hx rfl (hb hby d) rfl kk) k
theorem w_imul (X : Stand p l e R s m args below meth c T locs cells slots) (hx : p.tables.exec = Jvm.exec) (hby : c.code = bs) {x y : Int32} (hd : In bs pc (.imul) 1 nx) (k : Wp p e below s K N Q T (mkF m nx Ls (.int (x * y) :: st))) : Wp p e below s K N Q T (mkF m pc Ls (.int y :: .int x :: st)) := by
  obtain ⟨d, rfl⟩ := hd; exact Wp.go (fun t kk => XS.imul X.here hx rfl (hb hby d) rfl kk) k
theorem w_ior (X : Stand p l e R s m args below meth c T locs cells slots) (hx : p.tables.exec = Jvm.exec) (hby : c.code = bs) {x y : Int32} (hd : In bs pc (.ior) 1 nx) (k : Wp p e below s K N Q T (mkF m nx Ls (.int (x ||| y) :: st))) : Wp p e below s K N Q T (mkF m pc Ls (.int y :: .int x :: st)) := by
  obtain ⟨d, rfl⟩ := hd; exact Wp.go (fun t kk => XS.ior X.here hx rfl (hb hby d) rfl kk) k
theorem w_ixor (X : Stand p l e R s m args below meth c T locs cells slots) (hx : p.tables.exec = Jvm.exec) (hby : c.code = bs) {x y : Int32} (hd : In bs pc (.ixor) 1 nx) (k : Wp p e below s K N Q T (mkF m nx Ls (.int (x ^^^ y) :: st))) : Wp p e below s K N Q T (mkF m pc Ls (.int y :: .int x :: st)) := by
  obtain ⟨d, rfl⟩ := hd; exact Wp.go (fun t kk => XS.ixor X.here hx rfl (hb hby d) rfl kk) k
theorem w_ishl (X : Stand p l e R s m args below meth c T locs cells slots) (hx : p.tables.exec = Jvm.exec) (hby : c.code = bs) {x y : Int32} (hd : In bs pc (.ishl) 1 nx) (k : Wp p e below s K N Q T (mkF m nx Ls (.int (x <<< (y &&& 31)) :: st))) : Wp p e below s K N Q T (mkF m pc Ls (.int y :: .int x :: st)) := by
  obtain ⟨d, rfl⟩ := hd; exact Wp.go (fun t kk => XS.ishl X.here hx rfl (hb hby d) rfl kk) k
theorem w_ishr (X : Stand p l e R s m args below meth c T locs cells slots) (hx : p.tables.exec = Jvm.exec) (hby : c.code = bs) {x y : Int32} (hd : In bs pc (.ishr) 1 nx) (k : Wp p e below s K N Q T (mkF m nx Ls (.int (x >>> (y &&& 31)) :: st))) : Wp p e below s K N Q T (mkF m pc Ls (.int y :: .int x :: st)) := by
  obtain ⟨d, rfl⟩ := hd; exact Wp.go (fun t kk => XS.ishr X.here hx rfl (hb hby d) rfl kk) k
theorem w_iushr (X : Stand p l e R s m args below meth c T locs cells slots) (hx : p.tables.exec = Jvm.exec) (hby : c.code = bs) {x y : Int32} (hd : In bs pc (.iushr) 1 nx) (k : Wp p e below s K N Q T (mkF m nx Ls (.int ((x.toUInt32 >>> (y &&& 31).toUInt32).toInt32) :: st))) : Wp p e below s K N Q T (mkF m pc Ls (.int y :: .int x :: st)) := by
  obtain ⟨d, rfl⟩ := hd; exact Wp.go (fun t kk => XS.iushr X.here hx rfl (hb hby d) rfl kk) k
theorem w_ladd (X : Stand p l e R s m args below meth c T locs cells slots) (hx : p.tables.exec = Jvm.exec) (hby : c.code = bs) {x y : Int64} (hd : In bs pc (.ladd) 1 nx) (k : Wp p e below s K N Q T (mkF m nx Ls (.long (x + y) :: st))) : Wp p e below s K N Q T (mkF m pc Ls (.long y :: .long x :: st)) := by
  obtain ⟨d, rfl⟩ := hd; exact Wp.go (fun t kk => XS.ladd X.here hx rfl (hb hby d) rfl kk) k
theorem w_lsub (X : Stand p l e R s m args below meth c T locs cells slots) (hx : p.tables.exec = Jvm.exec) (hby : c.code = bs) {x y : Int64} (hd : In bs pc (.lsub) 1 nx) (k : Wp p e below s K N Q T (mkF m nx Ls (.long (x - y) :: st))) : Wp p e below s K N Q T (mkF m pc Ls (.long y :: .long x :: st)) := by
  obtain ⟨d, rfl⟩ := hd; exact Wp.go (fun t kk => XS.lsub X.here hx rfl (hb hby d) rfl kk) k
theorem w_land (X : Stand p l e R s m args below meth c T locs cells slots) (hx : p.tables.exec = Jvm.exec) (hby : c.code = bs) {x y : Int64} (hd : In bs pc (.land) 1 nx) (k : Wp p e below s K N Q T (mkF m nx Ls (.long (x &&& y) :: st))) : Wp p e below s K N Q T (mkF m pc Ls (.long y :: .long x :: st)) := by
  obtain ⟨d, rfl⟩ := hd; exact Wp.go (fun t kk => XS.land X.here hx rfl (hb hby d) rfl kk) k
theorem w_lmul (X : Stand p l e R s m args below meth c T locs cells slots) (hx : p.tables.exec = Jvm.exec) (hby : c.code = bs) {x y : Int64} (hd : In bs pc (.lmul) 1 nx) (k : Wp p e below s K N Q T (mkF m nx Ls (.long (x * y) :: st))) : Wp p e below s K N Q T (mkF m pc Ls (.long y :: .long x :: st)) := by
  obtain ⟨d, rfl⟩ := hd; exact Wp.go (fun t kk => XS.lmul X.here hx rfl (hb hby d) rfl kk) k
theorem w_lor (X : Stand p l e R s m args below meth c T locs cells slots) (hx : p.tables.exec = Jvm.exec) (hby : c.code = bs) {x y : Int64} (hd : In bs pc (.lor) 1 nx) (k : Wp p e below s K N Q T (mkF m nx Ls (.long (x ||| y) :: st))) : Wp p e below s K N Q T (mkF m pc Ls (.long y :: .long x :: st)) := by
  obtain ⟨d, rfl⟩ := hd; exact Wp.go (fun t kk => XS.lor X.here hx rfl (hb hby d) rfl kk) k
theorem w_lxor (X : Stand p l e R s m args below meth c T locs cells slots) (hx : p.tables.exec = Jvm.exec) (hby : c.code = bs) {x y : Int64} (hd : In bs pc (.lxor) 1 nx) (k : Wp p e below s K N Q T (mkF m nx Ls (.long (x ^^^ y) :: st))) : Wp p e below s K N Q T (mkF m pc Ls (.long y :: .long x :: st)) := by
  obtain ⟨d, rfl⟩ := hd; exact Wp.go (fun t kk => XS.lxor X.here hx rfl (hb hby d) rfl kk) k
theorem w_lshl (X : Stand p l e R s m args below meth c T locs cells slots) (hx : p.tables.exec = Jvm.exec) (hby : c.code = bs) {x : Int64} {y : Int32} (hd : In bs pc (.lshl) 1 nx) (k : Wp p e below s K N Q T (mkF m nx Ls (.long (x <<< (y &&& 0x3f).toInt64) :: st))) : Wp p e below s K N Q T (mkF m pc Ls (.int y :: .long x :: st)) := by
  obtain ⟨d, rfl⟩ := hd; exact Wp.go (fun t kk => XS.lshl X.here hx rfl (hb hby d) rfl kk) k
theorem w_lshr (X : Stand p l e R s m args below meth c T locs cells slots) (hx : p.tables.exec = Jvm.exec) (hby : c.code = bs) {x : Int64} {y : Int32} (hd : In bs pc (.lshr) 1 nx) (k : Wp p e below s K N Q T (mkF m nx Ls (.long (x >>> (y &&& 0x3f).toInt64) :: st))) : Wp p e below s K N Q T (mkF m pc Ls (.int y :: .long x :: st)) := by
  obtain ⟨d, rfl⟩ := hd; exact Wp.go (fun t kk => XS.lshr X.here hx rfl (hb hby d) rfl kk) k
theorem w_lushr (X : Stand p l e R s m args below meth c T locs cells slots) (hx : p.tables.exec = Jvm.exec) (hby : c.code = bs) {x : Int64} {y : Int32} (hd : In bs pc (.lushr) 1 nx) (k : Wp p e below s K N Q T (mkF m nx Ls (.long ((x.toUInt64 >>> (y &&& 0x3f).toInt64.toUInt64).toInt64) :: st))) : Wp p e below s K N Q T (mkF m pc Ls (.int y :: .long x :: st)) := by
  obtain ⟨d, rfl⟩ := hd; exact Wp.go (fun t kk => XS.lushr X.here hx rfl (hb hby d) rfl kk) k
theorem w_i2b (X : Stand p l e R s m args below meth c T locs cells slots) (hx : p.tables.exec = Jvm.exec) (hby : c.code = bs) {x : Int32} (hd : In bs pc (.i2b) 1 nx) (k : Wp p e below s K N Q T (mkF m nx Ls (.int (x.toInt8.toInt32) :: st))) : Wp p e below s K N Q T (mkF m pc Ls (.int x :: st)) := by
  obtain ⟨d, rfl⟩ := hd; exact Wp.go (fun t kk => XS.i2b X.here hx rfl (hb hby d) rfl kk) k
theorem w_i2c (X : Stand p l e R s m args below meth c T locs cells slots) (hx : p.tables.exec = Jvm.exec) (hby : c.code = bs) {x : Int32} (hd : In bs pc (.i2c) 1 nx) (k : Wp p e below s K N Q T (mkF m nx Ls (.int (x.toUInt32.toUInt16.toUInt32.toInt32) :: st))) : Wp p e below s K N Q T (mkF m pc Ls (.int x :: st)) := by
  obtain ⟨d, rfl⟩ := hd; exact Wp.go (fun t kk => XS.i2c X.here hx rfl (hb hby d) rfl kk) k
theorem w_i2s (X : Stand p l e R s m args below meth c T locs cells slots) (hx : p.tables.exec = Jvm.exec) (hby : c.code = bs) {x : Int32} (hd : In bs pc (.i2s) 1 nx) (k : Wp p e below s K N Q T (mkF m nx Ls (.int (x.toInt16.toInt32) :: st))) : Wp p e below s K N Q T (mkF m pc Ls (.int x :: st)) := by
  obtain ⟨d, rfl⟩ := hd; exact Wp.go (fun t kk => XS.i2s X.here hx rfl (hb hby d) rfl kk) k
theorem w_ineg (X : Stand p l e R s m args below meth c T locs cells slots) (hx : p.tables.exec = Jvm.exec) (hby : c.code = bs) {x : Int32} (hd : In bs pc (.ineg) 1 nx) (k : Wp p e below s K N Q T (mkF m nx Ls (.int (-x) :: st))) : Wp p e below s K N Q T (mkF m pc Ls (.int x :: st)) := by
  obtain ⟨d, rfl⟩ := hd; exact Wp.go (fun t kk => XS.ineg X.here hx rfl (hb hby d) rfl kk) k
theorem w_i2l (X : Stand p l e R s m args below meth c T locs cells slots) (hx : p.tables.exec = Jvm.exec) (hby : c.code = bs) {x : Int32} (hd : In bs pc (.i2l) 1 nx) (k : Wp p e below s K N Q T (mkF m nx Ls (.long x.toInt64 :: st))) : Wp p e below s K N Q T (mkF m pc Ls (.int x :: st)) := by
  obtain ⟨d, rfl⟩ := hd; exact Wp.go (fun t kk => XS.i2l X.here hx rfl (hb hby d) rfl kk) k
theorem w_l2i (X : Stand p l e R s m args below meth c T locs cells slots) (hx : p.tables.exec = Jvm.exec) (hby : c.code = bs) {x : Int64} (hd : In bs pc (.l2i) 1 nx) (k : Wp p e below s K N Q T (mkF m nx Ls (.int x.toInt32 :: st))) : Wp p e below s K N Q T (mkF m pc Ls (.long x :: st)) := by
  obtain ⟨d, rfl⟩ := hd; exact Wp.go (fun t kk => XS.l2i X.here hx rfl (hb hby d) rfl kk) k
theorem w_lneg (X : Stand p l e R s m args below meth c T locs cells slots) (hx : p.tables.exec = Jvm.exec) (hby : c.code = bs) {x : Int64} (hd : In bs pc (.lneg) 1 nx) (k : Wp p e below s K N Q T (mkF m nx Ls (.long (-x) :: st))) : Wp p e below s K N Q T (mkF m pc Ls (.long x :: st)) := by
  obtain ⟨d, rfl⟩ := hd; exact Wp.go (fun t kk => XS.lneg X.here hx rfl (hb hby d) rfl kk) k
theorem w_idiv (X : Stand p l e R s m args below meth c T locs cells slots) (hx : p.tables.exec = Jvm.exec) (hby : c.code = bs) {x y : Int32} (hd : In bs pc (.idiv) 1 nx) (hy : y ≠ 0) (k : Wp p e below s K N Q T (mkF m nx Ls (.int (x / y) :: st))) : Wp p e below s K N Q T (mkF m pc Ls (.int y :: .int x :: st)) := by
  obtain ⟨d, rfl⟩ := hd; exact Wp.go (fun t kk => XS.idiv X.here hx rfl (hb hby d) rfl hy kk) k
theorem w_irem (X : Stand p l e R s m args below meth c T locs cells slots) (hx : p.tables.exec = Jvm.exec) (hby : c.code = bs) {x y : Int32} (hd : In bs pc .irem 1 nx) (hy : y ≠ 0) (k : Wp p e below s K N Q T (mkF m nx Ls (.int (x % y) :: st))) : Wp p e below s K N Q T (mkF m pc Ls (.int y :: .int x :: st)) := by
  obtain ⟨d, rfl⟩ := hd; exact Wp.go (fun t kk => iremM X hx rfl (hb hby d) rfl hy kk) k
theorem w_ldiv (X : Stand p l e R s m args below meth c T locs cells slots) (hx : p.tables.exec = Jvm.exec) (hby : c.code = bs) {x y : Int64} (hd : In bs pc (.ldiv) 1 nx) (hy : y ≠ 0) (k : Wp p e below s K N Q T (mkF m nx Ls (.long (x / y) :: st))) : Wp p e below s K N Q T (mkF m pc Ls (.long y :: .long x :: st)) := by
  obtain ⟨d, rfl⟩ := hd; exact Wp.go (fun t kk => XS.ldiv X.here hx rfl (hb hby d) rfl hy kk) k
theorem w_lrem (X : Stand p l e R s m args below meth c T locs cells slots) (hx : p.tables.exec = Jvm.exec) (hby : c.code = bs) {x y : Int64} (hd : In bs pc .lrem 1 nx) (hy : y ≠ 0) (k : Wp p e below s K N Q T (mkF m nx Ls (.long (x % y) :: st))) : Wp p e below s K N Q T (mkF m pc Ls (.long y :: .long x :: st)) := by
  obtain ⟨d, rfl⟩ := hd; refine Wp.go (fun t kk => XS.lrem X.here hx rfl (hb hby d) rfl hy kk) ?_; rw [lrem_mod]; exact k
theorem w_aconst_null (X : Stand p l e R s m args below meth c T locs cells slots) (hx : p.tables.exec = Jvm.exec) (hby : c.code = bs)  (hd : In bs pc (.aconst_null) 1 nx) (k : Wp p e below s K N Q T (mkF m nx Ls (.null :: st))) : Wp p e below s K N Q T (mkF m pc Ls (st)) := by
  obtain ⟨d, rfl⟩ := hd; exact Wp.go (fun t kk => XS.aconstNull X.here hx rfl (hb hby d) kk) k
theorem w_dup (X : Stand p l e R s m args below meth c T locs cells slots) (hx : p.tables.exec = Jvm.exec) (hby : c.code = bs) {x : Value} (hd : In bs pc (.dup) 1 nx) (hc : x.category = 1) (k : Wp p e below s K N Q T (mkF m nx Ls (x :: x :: st))) : Wp p e below s K N Q T (mkF m pc Ls (x :: st)) := by
  obtain ⟨d, rfl⟩ := hd; exact Wp.go (fun t kk => XS.dup X.here hx rfl (hb hby d) rfl hc kk) k
theorem w_dup_x1 (X : Stand p l e R s m args below meth c T locs cells slots) (hx : p.tables.exec = Jvm.exec) (hby : c.code = bs) {x y : Value} (hd : In bs pc (.dup_x1) 1 nx) (hc : x.category = 1) (hc2 : y.category = 1) (k : Wp p e below s K N Q T (mkF m nx Ls (x :: y :: x :: st))) : Wp p e below s K N Q T (mkF m pc Ls (x :: y :: st)) := by
  obtain ⟨d, rfl⟩ := hd; exact Wp.go (fun t kk => XS.dupX1 X.here hx rfl (hb hby d) rfl hc hc2 kk) k
theorem w_dup2 (X : Stand p l e R s m args below meth c T locs cells slots) (hx : p.tables.exec = Jvm.exec) (hby : c.code = bs) {x y : Value} (hd : In bs pc (.dup2) 1 nx) (hc : x.category = 1) (hc2 : y.category = 1) (k : Wp p e below s K N Q T (mkF m nx Ls (x :: y :: x :: y :: st))) : Wp p e below s K N Q T (mkF m pc Ls (x :: y :: st)) := by
  obtain ⟨d, rfl⟩ := hd; exact Wp.go (fun t kk => XT.dup2 X.here hx rfl (hb hby d) rfl hc hc2 kk) k
theorem w_dup2L (X : Stand p l e R s m args below meth c T locs cells slots) (hx : p.tables.exec = Jvm.exec) (hby : c.code = bs) {x : Int64} (hd : In bs pc (.dup2) 1 nx) (k : Wp p e below s K N Q T (mkF m nx Ls (.long x :: .long x :: st))) : Wp p e below s K N Q T (mkF m pc Ls (.long x :: st)) := by
  obtain ⟨d, rfl⟩ := hd; exact Wp.go (fun t kk => XT.dup2L X.here hx rfl (hb hby d) rfl kk) k
theorem w_pop (X : Stand p l e R s m args below meth c T locs cells slots) (hx : p.tables.exec = Jvm.exec) (hby : c.code = bs) {x : Value} (hd : In bs pc (.pop) 1 nx) (hc : x.category = 1) (k : Wp p e below s K N Q T (mkF m nx Ls (st))) : Wp p e below s K N Q T (mkF m pc Ls (x :: st)) := by
  obtain ⟨d, rfl⟩ := hd; exact Wp.go (fun t kk => XS.pop X.here hx rfl (hb hby d) rfl hc kk) k
theorem w_iconst (X : Stand p l e R s m args below meth c T locs cells slots) (hx : p.tables.exec = Jvm.exec) (hby : c.code = bs) {i : Int} (v : Int32) (hd : In bs pc (.iconst i) 1 nx) (hv : Int32.ofInt i = v) (k : Wp p e below s K N Q T (mkF m nx Ls (.int v :: st))) : Wp p e below s K N Q T (mkF m pc Ls (st)) := by
  obtain ⟨d, rfl⟩ := hd; exact Wp.go (fun t kk => XT.iconstV X.here hx rfl v (hb hby d) hv kk) k
theorem w_bipush (X : Stand p l e R s m args below meth c T locs cells slots) (hx : p.tables.exec = Jvm.exec) (hby : c.code = bs) {i : Int} (v : Int32) (hd : In bs pc (.bipush i) 2 nx) (hv : (Int8.ofInt i).toInt32 = v) (k : Wp p e below s K N Q T (mkF m nx Ls (.int v :: st))) : Wp p e below s K N Q T (mkF m pc Ls (st)) := by
  obtain ⟨d, rfl⟩ := hd; exact Wp.go (fun t kk => XT.bipushV X.here hx rfl v (hb hby d) hv kk) k
theorem w_sipush (X : Stand p l e R s m args below meth c T locs cells slots) (hx : p.tables.exec = Jvm.exec) (hby : c.code = bs) {i : Int} (v : Int32) (hd : In bs pc (.sipush i) 3 nx) (hv : (Int16.ofInt i).toInt32 = v) (k : Wp p e below s K N Q T (mkF m nx Ls (.int v :: st))) : Wp p e below s K N Q T (mkF m pc Ls (st)) := by
  obtain ⟨d, rfl⟩ := hd; exact Wp.go (fun t kk => XT.sipushV X.here hx rfl v (hb hby d) hv kk) k
theorem w_lconst (X : Stand p l e R s m args below meth c T locs cells slots) (hx : p.tables.exec = Jvm.exec) (hby : c.code = bs) {i : Fin 2} (v : Int64) (hd : In bs pc (.lconst i) 1 nx) (hv : Int64.ofNat i = v) (k : Wp p e below s K N Q T (mkF m nx Ls (.long v :: st))) : Wp p e below s K N Q T (mkF m pc Ls (st)) := by
  obtain ⟨d, rfl⟩ := hd; exact Wp.go (fun t kk => XT.lconstV X.here hx rfl v (hb hby d) hv kk) k
theorem w_iloadN (X : Stand p l e R s m args below meth c T locs cells slots) (hx : p.tables.exec = Jvm.exec) (hby : c.code = bs) {i : Fin 4} {v : Int32} (hd : In bs pc (.iload_n i) 1 nx) (hl : Ls[i.val]? = some (.val (.int v))) (k : Wp p e below s K N Q T (mkF m nx Ls (.int v :: st))) : Wp p e below s K N Q T (mkF m pc Ls (st)) := by
  obtain ⟨d, rfl⟩ := hd; exact Wp.go (fun t kk => XS.iloadN X.here hx rfl (hb hby d) hl kk) k
theorem w_lloadN (X : Stand p l e R s m args below meth c T locs cells slots) (hx : p.tables.exec = Jvm.exec) (hby : c.code = bs) {i : Fin 4} {v : Int64} (hd : In bs pc (.lload_n i) 1 nx) (hl : Ls[i.val]? = some (.val (.long v))) (k : Wp p e below s K N Q T (mkF m nx Ls (.long v :: st))) : Wp p e below s K N Q T (mkF m pc Ls (st)) := by
  obtain ⟨d, rfl⟩ := hd; exact Wp.go (fun t kk => XS.lloadN X.here hx rfl (hb hby d) hl kk) k
theorem w_aloadN (X : Stand p l e R s m args below meth c T locs cells slots) (hx : p.tables.exec = Jvm.exec) (hby : c.code = bs) {i : Fin 4} {v : Value} (hd : In bs pc (.aload_n i) 1 nx) (hl : Ls[i.val]? = some (.val v)) (hv : v.isRef = true) (k : Wp p e below s K N Q T (mkF m nx Ls (v :: st))) : Wp p e below s K N Q T (mkF m pc Ls (st)) := by
  obtain ⟨d, rfl⟩ := hd; exact Wp.go (fun t kk => XS.aloadN X.here hx rfl (hb hby d) hl hv kk) k
theorem w_istoreN (X : Stand p l e R s m args below meth c T locs cells slots) (hx : p.tables.exec = Jvm.exec) (hby : c.code = bs) {i : Fin 4} {v : Int32} (l' : Array Slot) (hd : In bs pc (.istore_n i) 1 nx) (hl : storeLocals Ls i.val (.int v) = some l') (k : Wp p e below s K N Q T (mkF m nx l' (st))) : Wp p e below s K N Q T (mkF m pc Ls (.int v :: st)) := by
  obtain ⟨d, rfl⟩ := hd; exact Wp.go (fun t kk => XS.istoreN X.here hx rfl (hb hby d) rfl hl kk) k
theorem w_lstoreN (X : Stand p l e R s m args below meth c T locs cells slots) (hx : p.tables.exec = Jvm.exec) (hby : c.code = bs) {i : Fin 4} {v : Int64} (l' : Array Slot) (hd : In bs pc (.lstore_n i) 1 nx) (hl : storeLocals Ls i.val (.long v) = some l') (k : Wp p e below s K N Q T (mkF m nx l' (st))) : Wp p e below s K N Q T (mkF m pc Ls (.long v :: st)) := by
  obtain ⟨d, rfl⟩ := hd; exact Wp.go (fun t kk => XS.lstoreN X.here hx rfl (hb hby d) rfl hl kk) k
theorem w_astoreN (X : Stand p l e R s m args below meth c T locs cells slots) (hx : p.tables.exec = Jvm.exec) (hby : c.code = bs) {i : Fin 4} {v : Value} (l' : Array Slot) (hd : In bs pc (.astore_n i) 1 nx) (hv : v.isRef = true) (hl : storeLocals Ls i.val v = some l') (k : Wp p e below s K N Q T (mkF m nx l' (st))) : Wp p e below s K N Q T (mkF m pc Ls (v :: st)) := by
  obtain ⟨d, rfl⟩ := hd; exact Wp.go (fun t kk => XS.astoreN X.here hx rfl (hb hby d) rfl hv hl kk) k
theorem w_iload (X : Stand p l e R s m args below meth c T locs cells slots) (hx : p.tables.exec = Jvm.exec) (hby : c.code = bs) {i : Nat} {v : Int32} (hd : In bs pc (.iload i) 2 nx) (hl : Ls[i]? = some (.val (.int v))) (k : Wp p e below s K N Q T (mkF m nx Ls (.int v :: st))) : Wp p e below s K N Q T (mkF m pc Ls (st)) := by
  obtain ⟨d, rfl⟩ := hd; exact Wp.go (fun t kk => XS.iload X.here hx rfl (hb hby d) hl kk) k
theorem w_lload (X : Stand p l e R s m args below meth c T locs cells slots) (hx : p.tables.exec = Jvm.exec) (hby : c.code = bs) {i : Nat} {v : Int64} (hd : In bs pc (.lload i) 2 nx) (hl : Ls[i]? = some (.val (.long v))) (k : Wp p e below s K N Q T (mkF m nx Ls (.long v :: st))) : Wp p e below s K N Q T (mkF m pc Ls (st)) := by
  obtain ⟨d, rfl⟩ := hd; exact Wp.go (fun t kk => XS.lload X.here hx rfl (hb hby d) hl kk) k
theorem w_aload (X : Stand p l e R s m args below meth c T locs cells slots) (hx : p.tables.exec = Jvm.exec) (hby : c.code = bs) {i : Nat} {v : Value} (hd : In bs pc (.aload i) 2 nx) (hl : Ls[i]? = some (.val v)) (hv : v.isRef = true) (k : Wp p e below s K N Q T (mkF m nx Ls (v :: st))) : Wp p e below s K N Q T (mkF m pc Ls (st)) := by
  obtain ⟨d, rfl⟩ := hd; exact Wp.go (fun t kk => XS.aload X.here hx rfl (hb hby d) hl hv kk) k
theorem w_istore (X : Stand p l e R s m args below meth c T locs cells slots) (hx : p.tables.exec = Jvm.exec) (hby : c.code = bs) {i : Nat} {v : Int32} (l' : Array Slot) (hd : In bs pc (.istore i) 2 nx) (hl : storeLocals Ls i (.int v) = some l') (k : Wp p e below s K N Q T (mkF m nx l' (st))) : Wp p e below s K N Q T (mkF m pc Ls (.int v :: st)) := by
  obtain ⟨d, rfl⟩ := hd; exact Wp.go (fun t kk => XS.istore X.here hx rfl (hb hby d) rfl hl kk) k
theorem w_lstore (X : Stand p l e R s m args below meth c T locs cells slots) (hx : p.tables.exec = Jvm.exec) (hby : c.code = bs) {i : Nat} {v : Int64} (l' : Array Slot) (hd : In bs pc (.lstore i) 2 nx) (hl : storeLocals Ls i (.long v) = some l') (k : Wp p e below s K N Q T (mkF m nx l' (st))) : Wp p e below s K N Q T (mkF m pc Ls (.long v :: st)) := by
  obtain ⟨d, rfl⟩ := hd; exact Wp.go (fun t kk => XS.lstore X.here hx rfl (hb hby d) rfl hl kk) k
theorem w_astore (X : Stand p l e R s m args below meth c T locs cells slots) (hx : p.tables.exec = Jvm.exec) (hby : c.code = bs) {i : Nat} {v : Value} (l' : Array Slot) (hd : In bs pc (.astore i) 2 nx) (hv : v.isRef = true) (hl : storeLocals Ls i v = some l') (k : Wp p e below s K N Q T (mkF m nx l' (st))) : Wp p e below s K N Q T (mkF m pc Ls (v :: st)) := by
  obtain ⟨d, rfl⟩ := hd; exact Wp.go (fun t kk => XS.astore X.here hx rfl (hb hby d) rfl hv hl kk) k
theorem w_iinc (X : Stand p l e R s m args below meth c T locs cells slots) (hx : p.tables.exec = Jvm.exec) (hby : c.code = bs) {i : Nat} {cst : Int} {x : Int32} (v : Int32) (l' : Array Slot) (hd : In bs pc (.iinc i cst) 3 nx) (hv : Int32.ofInt cst = v) (hl : Ls[i]? = some (.val (.int x))) (hl' : storeLocals Ls i (.int (x + v)) = some l') (k : Wp p e below s K N Q T (mkF m nx l' st)) : Wp p e below s K N Q T (mkF m pc Ls st) := by
  obtain ⟨d, rfl⟩ := hd; exact Wp.go (fun t kk => XT.iincV X.here hx rfl v (hb hby d) hv hl hl' kk) k
theorem w_goto (X : Stand p l e R s m args below meth c T locs cells slots) (hx : p.tables.exec = Jvm.exec) (hby : c.code = bs) (hd : Jm bs pc (.goto o) o nx tg) (k : Wp p e below s K N Q T (mkF m tg Ls st)) : Wp p e below s K N Q T (mkF m pc Ls st) := by
  obtain ⟨d, -, q1, q2⟩ := hd; exact Wp.go (fun t kk => XS.goto X.here hx rfl rfl (hb hby d) q1 q2 kk) k
theorem f_icmp_eq (X : Stand p l e R s m args below meth c T locs cells slots) (hx : p.tables.exec = Jvm.exec) (hby : c.code = bs) {x y : Int32} (hd : Jm bs pc (.if_icmp .eq o) o nx tg) (kt : x = y → Wp p e below s K N Q T (mkF m tg Ls st)) (kf : ¬ x = y → Wp p e below s K N Q T (mkF m nx Ls st)) : Wp p e below s K N Q T (mkF m pc Ls (.int y :: .int x :: st)) := by
  obtain ⟨d, rfl, q1, q2⟩ := hd
  by_cases q : x = y
  · exact Wp.go (fun t kk => XS.icmpYes X.here hx rfl rfl (hb hby d) rfl (XT.ii_eq_t q) q1 q2 kk) (kt q)
  · exact Wp.go (fun t kk => XS.icmpNo X.here hx rfl (hb hby d) rfl (XT.ii_eq_f q) kk) (kf q)
theorem f_if_eq (X : Stand p l e R s m args below meth c T locs cells slots) (hx : p.tables.exec = Jvm.exec) (hby : c.code = bs) {x : Int32} (hd : Jm bs pc (.ifCond .eq o) o nx tg) (kt : x = 0 → Wp p e below s K N Q T (mkF m tg Ls st)) (kf : ¬ x = 0 → Wp p e below s K N Q T (mkF m nx Ls st)) : Wp p e below s K N Q T (mkF m pc Ls (.int x :: st)) := by
  obtain ⟨d, rfl, q1, q2⟩ := hd
  by_cases q : x = 0
  · exact Wp.go (fun t kk => XS.ifYes X.here hx rfl rfl (hb hby d) rfl (XT.i0_eq_t q) q1 q2 kk) (kt q)
  · exact Wp.go (fun t kk => XS.ifNo X.here hx rfl (hb hby d) rfl (XT.i0_eq_f q) kk) (kf q)
theorem f_lcmp_eq (X : Stand p l e R s m args below meth c T locs cells slots) (hx : p.tables.exec = Jvm.exec) (hby : c.code = bs) {x y : Int64} {n1 : Nat} (hc : In bs pc .lcmp 1 n1) (hd : Jm bs n1 (.ifCond .eq o) o nx tg) (kt : x = y → Wp p e below s K N Q T (mkF m tg Ls st)) (kf : ¬ x = y → Wp p e below s K N Q T (mkF m nx Ls st)) : Wp p e below s K N Q T (mkF m pc Ls (.long y :: .long x :: st)) := by
  obtain ⟨d1, rfl⟩ := hc; obtain ⟨d, rfl, q1, q2⟩ := hd
  refine Wp.go (fun t kk => XT.lcmp X.here hx rfl (hb hby d1) rfl kk) ?_
  by_cases q : x = y
  · exact Wp.go (fun t kk => XS.ifYes X.here hx rfl rfl (hb hby d) rfl (XT.ll_eq_t q) q1 q2 kk) (kt q)
  · exact Wp.go (fun t kk => XS.ifNo X.here hx rfl (hb hby d) rfl (XT.ll_eq_f q) kk) (kf q)
theorem f_icmp_ne (X : Stand p l e R s m args below meth c T locs cells slots) (hx : p.tables.exec = Jvm.exec) (hby : c.code = bs) {x y : Int32} (hd : Jm bs pc (.if_icmp .ne o) o nx tg) (kt : ¬ x = y → Wp p e below s K N Q T (mkF m tg Ls st)) (kf : x = y → Wp p e below s K N Q T (mkF m nx Ls st)) : Wp p e below s K N Q T (mkF m pc Ls (.int y :: .int x :: st)) := by
  obtain ⟨d, rfl, q1, q2⟩ := hd
  by_cases q : x = y
  · exact Wp.go (fun t kk => XS.icmpNo X.here hx rfl (hb hby d) rfl (XT.ii_ne_f q) kk) (kf q)
  · exact Wp.go (fun t kk => XS.icmpYes X.here hx rfl rfl (hb hby d) rfl (XT.ii_ne_t q) q1 q2 kk) (kt q)
theorem f_if_ne (X : Stand p l e R s m args below meth c T locs cells slots) (hx : p.tables.exec = Jvm.exec) (hby : c.code = bs) {x : Int32} (hd : Jm bs pc (.ifCond .ne o) o nx tg) (kt : ¬ x = 0 → Wp p e below s K N Q T (mkF m tg Ls st)) (kf : x = 0 → Wp p e below s K N Q T (mkF m nx Ls st)) : Wp p e below s K N Q T (mkF m pc Ls (.int x :: st)) := by
  obtain ⟨d, rfl, q1, q2⟩ := hd
  by_cases q : x = 0
  · exact Wp.go (fun t kk => XS.ifNo X.here hx rfl (hb hby d) rfl (XT.i0_ne_f q) kk) (kf q)
  · exact Wp.go (fun t kk => XS.ifYes X.here hx rfl rfl (hb hby d) rfl (XT.i0_ne_t q) q1 q2 kk) (kt q)
theorem f_lcmp_ne (X : Stand p l e R s m args below meth c T locs cells slots) (hx : p.tables.exec = Jvm.exec) (hby : c.code = bs) {x y : Int64} {n1 : Nat} (hc : In bs pc .lcmp 1 n1) (hd : Jm bs n1 (.ifCond .ne o) o nx tg) (kt : ¬ x = y → Wp p e below s K N Q T (mkF m tg Ls st)) (kf : x = y → Wp p e below s K N Q T (mkF m nx Ls st)) : Wp p e below s K N Q T (mkF m pc Ls (.long y :: .long x :: st)) := by
  obtain ⟨d1, rfl⟩ := hc; obtain ⟨d, rfl, q1, q2⟩ := hd
  refine Wp.go (fun t kk => XT.lcmp X.here hx rfl (hb hby d1) rfl kk) ?_
  by_cases q : x = y
  · exact Wp.go (fun t kk => XS.ifNo X.here hx rfl (hb hby d) rfl (XT.ll_ne_f q) kk) (kf q)
  · exact Wp.go (fun t kk => XS.ifYes X.here hx rfl rfl (hb hby d) rfl (XT.ll_ne_t q) q1 q2 kk) (kt q)
theorem f_icmp_lt (X : Stand p l e R s m args below meth c T locs cells slots) (hx : p.tables.exec = Jvm.exec) (hby : c.code = bs) {x y : Int32} (hd : Jm bs pc (.if_icmp .lt o) o nx tg) (kt : x < y → Wp p e below s K N Q T (mkF m tg Ls st)) (kf : ¬ x < y → Wp p e below s K N Q T (mkF m nx Ls st)) : Wp p e below s K N Q T (mkF m pc Ls (.int y :: .int x :: st)) := by
  obtain ⟨d, rfl, q1, q2⟩ := hd
  by_cases q : x < y
  · exact Wp.go (fun t kk => XS.icmpYes X.here hx rfl rfl (hb hby d) rfl (XT.ii_lt_t q) q1 q2 kk) (kt q)
  · exact Wp.go (fun t kk => XS.icmpNo X.here hx rfl (hb hby d) rfl (XT.ii_lt_f q) kk) (kf q)
theorem f_if_lt (X : Stand p l e R s m args below meth c T locs cells slots) (hx : p.tables.exec = Jvm.exec) (hby : c.code = bs) {x : Int32} (hd : Jm bs pc (.ifCond .lt o) o nx tg) (kt : x < 0 → Wp p e below s K N Q T (mkF m tg Ls st)) (kf : ¬ x < 0 → Wp p e below s K N Q T (mkF m nx Ls st)) : Wp p e below s K N Q T (mkF m pc Ls (.int x :: st)) := by
  obtain ⟨d, rfl, q1, q2⟩ := hd
  by_cases q : x < 0
  · exact Wp.go (fun t kk => XS.ifYes X.here hx rfl rfl (hb hby d) rfl (XT.i0_lt_t q) q1 q2 kk) (kt q)
  · exact Wp.go (fun t kk => XS.ifNo X.here hx rfl (hb hby d) rfl (XT.i0_lt_f q) kk) (kf q)
theorem f_lcmp_lt (X : Stand p l e R s m args below meth c T locs cells slots) (hx : p.tables.exec = Jvm.exec) (hby : c.code = bs) {x y : Int64} {n1 : Nat} (hc : In bs pc .lcmp 1 n1) (hd : Jm bs n1 (.ifCond .lt o) o nx tg) (kt : x < y → Wp p e below s K N Q T (mkF m tg Ls st)) (kf : ¬ x < y → Wp p e below s K N Q T (mkF m nx Ls st)) : Wp p e below s K N Q T (mkF m pc Ls (.long y :: .long x :: st)) := by
  obtain ⟨d1, rfl⟩ := hc; obtain ⟨d, rfl, q1, q2⟩ := hd
  refine Wp.go (fun t kk => XT.lcmp X.here hx rfl (hb hby d1) rfl kk) ?_
  by_cases q : x < y
  · exact Wp.go (fun t kk => XS.ifYes X.here hx rfl rfl (hb hby d) rfl (XT.ll_lt_t q) q1 q2 kk) (kt q)
  · exact Wp.go (fun t kk => XS.ifNo X.here hx rfl (hb hby d) rfl (XT.ll_lt_f q) kk) (kf q)
theorem f_icmp_ge (X : Stand p l e R s m args below meth c T locs cells slots) (hx : p.tables.exec = Jvm.exec) (hby : c.code = bs) {x y : Int32} (hd : Jm bs pc (.if_icmp .ge o) o nx tg) (kt : ¬ x < y → Wp p e below s K N Q T (mkF m tg Ls st)) (kf : x < y → Wp p e below s K N Q T (mkF m nx Ls st)) : Wp p e below s K N Q T (mkF m pc Ls (.int y :: .int x :: st)) := by
  obtain ⟨d, rfl, q1, q2⟩ := hd
  by_cases q : x < y
  · exact Wp.go (fun t kk => XS.icmpNo X.here hx rfl (hb hby d) rfl (XT.ii_ge_f q) kk) (kf q)
  · exact Wp.go (fun t kk => XS.icmpYes X.here hx rfl rfl (hb hby d) rfl (XT.ii_ge_t q) q1 q2 kk) (kt q)
theorem f_if_ge (X : Stand p l e R s m args below meth c T locs cells slots) (hx : p.tables.exec = Jvm.exec) (hby : c.code = bs) {x : Int32} (hd : Jm bs pc (.ifCond .ge o) o nx tg) (kt : ¬ x < 0 → Wp p e below s K N Q T (mkF m tg Ls st)) (kf : x < 0 → Wp p e below s K N Q T (mkF m nx Ls st)) : Wp p e below s K N Q T (mkF m pc Ls (.int x :: st)) := by
  obtain ⟨d, rfl, q1, q2⟩ := hd
  by_cases q : x < 0
  · exact Wp.go (fun t kk => XS.ifNo X.here hx rfl (hb hby d) rfl (XT.i0_ge_f q) kk) (kf q)
  · exact Wp.go (fun t kk => XS.ifYes X.here hx rfl rfl (hb hby d) rfl (XT.i0_ge_t q) q1 q2 kk) (kt q)
theorem f_lcmp_ge (X : Stand p l e R s m args below meth c T locs cells slots) (hx : p.tables.exec = Jvm.exec) (hby : c.code = bs) {x y : Int64} {n1 : Nat} (hc : In bs pc .lcmp 1 n1) (hd : Jm bs n1 (.ifCond .ge o) o nx tg) (kt : ¬ x < y → Wp p e below s K N Q T (mkF m tg Ls st)) (kf : x < y → Wp p e below s K N Q T (mkF m nx Ls st)) : Wp p e below s K N Q T (mkF m pc Ls (.long y :: .long x :: st)) := by
  obtain ⟨d1, rfl⟩ := hc; obtain ⟨d, rfl, q1, q2⟩ := hd
  refine Wp.go (fun t kk => XT.lcmp X.here hx rfl (hb hby d1) rfl kk) ?_
  by_cases q : x < y
  · exact Wp.go (fun t kk => XS.ifNo X.here hx rfl (hb hby d) rfl (XT.ll_ge_f q) kk) (kf q)
  · exact Wp.go (fun t kk => XS.ifYes X.here hx rfl rfl (hb hby d) rfl (XT.ll_ge_t q) q1 q2 kk) (kt q)
theorem f_icmp_gt (X : Stand p l e R s m args below meth c T locs cells slots) (hx : p.tables.exec = Jvm.exec) (hby : c.code = bs) {x y : Int32} (hd : Jm bs pc (.if_icmp .gt o) o nx tg) (kt : y < x → Wp p e below s K N Q T (mkF m tg Ls st)) (kf : ¬ y < x → Wp p e below s K N Q T (mkF m nx Ls st)) : Wp p e below s K N Q T (mkF m pc Ls (.int y :: .int x :: st)) := by
  obtain ⟨d, rfl, q1, q2⟩ := hd
  by_cases q : y < x
  · exact Wp.go (fun t kk => XS.icmpYes X.here hx rfl rfl (hb hby d) rfl (XT.ii_gt_t q) q1 q2 kk) (kt q)
  · exact Wp.go (fun t kk => XS.icmpNo X.here hx rfl (hb hby d) rfl (XT.ii_gt_f q) kk) (kf q)
theorem f_if_gt (X : Stand p l e R s m args below meth c T locs cells slots) (hx : p.tables.exec = Jvm.exec) (hby : c.code = bs) {x : Int32} (hd : Jm bs pc (.ifCond .gt o) o nx tg) (kt : 0 < x → Wp p e below s K N Q T (mkF m tg Ls st)) (kf : ¬ 0 < x → Wp p e below s K N Q T (mkF m nx Ls st)) : Wp p e below s K N Q T (mkF m pc Ls (.int x :: st)) := by
  obtain ⟨d, rfl, q1, q2⟩ := hd
  by_cases q : 0 < x
  · exact Wp.go (fun t kk => XS.ifYes X.here hx rfl rfl (hb hby d) rfl (XT.i0_gt_t q) q1 q2 kk) (kt q)
  · exact Wp.go (fun t kk => XS.ifNo X.here hx rfl (hb hby d) rfl (XT.i0_gt_f q) kk) (kf q)
theorem f_lcmp_gt (X : Stand p l e R s m args below meth c T locs cells slots) (hx : p.tables.exec = Jvm.exec) (hby : c.code = bs) {x y : Int64} {n1 : Nat} (hc : In bs pc .lcmp 1 n1) (hd : Jm bs n1 (.ifCond .gt o) o nx tg) (kt : y < x → Wp p e below s K N Q T (mkF m tg Ls st)) (kf : ¬ y < x → Wp p e below s K N Q T (mkF m nx Ls st)) : Wp p e below s K N Q T (mkF m pc Ls (.long y :: .long x :: st)) := by
  obtain ⟨d1, rfl⟩ := hc; obtain ⟨d, rfl, q1, q2⟩ := hd
  refine Wp.go (fun t kk => XT.lcmp X.here hx rfl (hb hby d1) rfl kk) ?_
  by_cases q : y < x
  · exact Wp.go (fun t kk => XS.ifYes X.here hx rfl rfl (hb hby d) rfl (XT.ll_gt_t q) q1 q2 kk) (kt q)
  · exact Wp.go (fun t kk => XS.ifNo X.here hx rfl (hb hby d) rfl (XT.ll_gt_f q) kk) (kf q)
theorem f_icmp_le (X : Stand p l e R s m args below meth c T locs cells slots) (hx : p.tables.exec = Jvm.exec) (hby : c.code = bs) {x y : Int32} (hd : Jm bs pc (.if_icmp .le o) o nx tg) (kt : ¬ y < x → Wp p e below s K N Q T (mkF m tg Ls st)) (kf : y < x → Wp p e below s K N Q T (mkF m nx Ls st)) : Wp p e below s K N Q T (mkF m pc Ls (.int y :: .int x :: st)) := by
  obtain ⟨d, rfl, q1, q2⟩ := hd
  by_cases q : y < x
  · exact Wp.go (fun t kk => XS.icmpNo X.here hx rfl (hb hby d) rfl (XT.ii_le_f q) kk) (kf q)
  · exact Wp.go (fun t kk => XS.icmpYes X.here hx rfl rfl (hb hby d) rfl (XT.ii_le_t q) q1 q2 kk) (kt q)
theorem f_if_le (X : Stand p l e R s m args below meth c T locs cells slots) (hx : p.tables.exec = Jvm.exec) (hby : c.code = bs) {x : Int32} (hd : Jm bs pc (.ifCond .le o) o nx tg) (kt : ¬ 0 < x → Wp p e below s K N Q T (mkF m tg Ls st)) (kf : 0 < x → Wp p e below s K N Q T (mkF m nx Ls st)) : Wp p e below s K N Q T (mkF m pc Ls (.int x :: st)) := by
  obtain ⟨d, rfl, q1, q2⟩ := hd
  by_cases q : 0 < x
  · exact Wp.go (fun t kk => XS.ifNo X.here hx rfl (hb hby d) rfl (XT.i0_le_f q) kk) (kf q)
  · exact Wp.go (fun t kk => XS.ifYes X.here hx rfl rfl (hb hby d) rfl (XT.i0_le_t q) q1 q2 kk) (kt q)
theorem f_lcmp_le (X : Stand p l e R s m args below meth c T locs cells slots) (hx : p.tables.exec = Jvm.exec) (hby : c.code = bs) {x y : Int64} {n1 : Nat} (hc : In bs pc .lcmp 1 n1) (hd : Jm bs n1 (.ifCond .le o) o nx tg) (kt : ¬ y < x → Wp p e below s K N Q T (mkF m tg Ls st)) (kf : y < x → Wp p e below s K N Q T (mkF m nx Ls st)) : Wp p e below s K N Q T (mkF m pc Ls (.long y :: .long x :: st)) := by
  obtain ⟨d1, rfl⟩ := hc; obtain ⟨d, rfl, q1, q2⟩ := hd
  refine Wp.go (fun t kk => XT.lcmp X.here hx rfl (hb hby d1) rfl kk) ?_
  by_cases q : y < x
  · exact Wp.go (fun t kk => XS.ifNo X.here hx rfl (hb hby d) rfl (XT.ll_le_f q) kk) (kf q)
  · exact Wp.go (fun t kk => XS.ifYes X.here hx rfl rfl (hb hby d) rfl (XT.ll_le_t q) q1 q2 kk) (kt q)
theorem f_acmp_eq (X : Stand p l e R s m args below meth c T locs cells slots) (hx : p.tables.exec = Jvm.exec) (hby : c.code = bs) {x y : Addr} (hd : Jm bs pc (.if_acmp .eq o) o nx tg) (kt : x = y → Wp p e below s K N Q T (mkF m tg Ls st)) (kf : ¬ x = y → Wp p e below s K N Q T (mkF m nx Ls st)) : Wp p e below s K N Q T (mkF m pc Ls (.ref y :: .ref x :: st)) := by
  obtain ⟨d, rfl, q1, q2⟩ := hd
  by_cases q : x = y
  · exact Wp.go (fun t kk => XT.acmpYes X.here hx rfl rfl (hb hby d) rfl rfl rfl (XT.aa_eq_t (congrArg Value.ref q)) q1 q2 kk) (kt q)
  · exact Wp.go (fun t kk => XT.acmpNo X.here hx rfl (hb hby d) rfl rfl rfl (XT.aa_eq_f (fun r => q (Value.ref.inj r))) kk) (kf q)
theorem f_acmpV_eq (X : Stand p l e R s m args below meth c T locs cells slots) (hx : p.tables.exec = Jvm.exec) (hby : c.code = bs) {x y : Value} (hx' : x.isRef = true) (hy' : y.isRef = true) (hd : Jm bs pc (.if_acmp .eq o) o nx tg) (kt : x = y → Wp p e below s K N Q T (mkF m tg Ls st)) (kf : ¬ x = y → Wp p e below s K N Q T (mkF m nx Ls st)) : Wp p e below s K N Q T (mkF m pc Ls (y :: x :: st)) := by
  obtain ⟨d, rfl, q1, q2⟩ := hd
  by_cases q : x = y
  · exact Wp.go (fun t kk => XT.acmpYes X.here hx rfl rfl (hb hby d) rfl hx' hy' (XT.aa_eq_t q) q1 q2 kk) (kt q)
  · exact Wp.go (fun t kk => XT.acmpNo X.here hx rfl (hb hby d) rfl hx' hy' (XT.aa_eq_f q) kk) (kf q)
theorem f_acmp_ne (X : Stand p l e R s m args below meth c T locs cells slots) (hx : p.tables.exec = Jvm.exec) (hby : c.code = bs) {x y : Addr} (hd : Jm bs pc (.if_acmp .ne o) o nx tg) (kt : ¬ x = y → Wp p e below s K N Q T (mkF m tg Ls st)) (kf : x = y → Wp p e below s K N Q T (mkF m nx Ls st)) : Wp p e below s K N Q T (mkF m pc Ls (.ref y :: .ref x :: st)) := by
  obtain ⟨d, rfl, q1, q2⟩ := hd
  by_cases q : x = y
  · exact Wp.go (fun t kk => XT.acmpNo X.here hx rfl (hb hby d) rfl rfl rfl (XT.aa_ne_f (congrArg Value.ref q)) kk) (kf q)
  · exact Wp.go (fun t kk => XT.acmpYes X.here hx rfl rfl (hb hby d) rfl rfl rfl (XT.aa_ne_t (fun r => q (Value.ref.inj r))) q1 q2 kk) (kt q)
theorem f_acmpV_ne (X : Stand p l e R s m args below meth c T locs cells slots) (hx : p.tables.exec = Jvm.exec) (hby : c.code = bs) {x y : Value} (hx' : x.isRef = true) (hy' : y.isRef = true) (hd : Jm bs pc (.if_acmp .ne o) o nx tg) (kt : ¬ x = y → Wp p e below s K N Q T (mkF m tg Ls st)) (kf : x = y → Wp p e below s K N Q T (mkF m nx Ls st)) : Wp p e below s K N Q T (mkF m pc Ls (y :: x :: st)) := by
  obtain ⟨d, rfl, q1, q2⟩ := hd
  by_cases q : x = y
  · exact Wp.go (fun t kk => XT.acmpNo X.here hx rfl (hb hby d) rfl hx' hy' (XT.aa_ne_f q) kk) (kf q)
  · exact Wp.go (fun t kk => XT.acmpYes X.here hx rfl rfl (hb hby d) rfl hx' hy' (XT.aa_ne_t q) q1 q2 kk) (kt q)
theorem w_lswHit (X : Stand p l e R s m args below meth c T locs cells slots) (hx : p.tables.exec = Jvm.exec) (hby : c.code = bs) {x : Int32} {df : Int} {ps : Array (Int × Int)} {len : Nat} {a off : Int} (hd : In bs pc (.lookupswitch df ps) len nx) (hs : (ps.toList.zip (ps.toList.drop 1)).all (fun (a, next) => a.1 < next.1) = true) (hf : ps.find? (·.1 == x.toInt) = some (a, off)) (ho : 0 ≤ (pc : Int) + off) (ht : ((pc : Int) + off).toNat = tg) (k : Wp p e below s K N Q T (mkF m tg Ls st)) : Wp p e below s K N Q T (mkF m pc Ls (.int x :: st)) := by
  obtain ⟨d, -⟩ := hd; subst ht; exact Wp.go (fun t kk => X.lookupswitchHit hx (g := mkF m pc Ls (.int x :: st)) rfl rfl (hb hby d) hs hf ho t kk) k
theorem w_lswMiss (X : Stand p l e R s m args below meth c T locs cells slots) (hx : p.tables.exec = Jvm.exec) (hby : c.code = bs) {x : Int32} {df : Int} {ps : Array (Int × Int)} {len : Nat} (hd : In bs pc (.lookupswitch df ps) len nx) (hs : (ps.toList.zip (ps.toList.drop 1)).all (fun (a, next) => a.1 < next.1) = true) (hf : ps.find? (·.1 == x.toInt) = none) (ho : 0 ≤ (pc : Int) + df) (ht : ((pc : Int) + df).toNat = tg) (k : Wp p e below s K N Q T (mkF m tg Ls st)) : Wp p e below s K N Q T (mkF m pc Ls (.int x :: st)) := by
  obtain ⟨d, -⟩ := hd; subst ht; exact Wp.go (fun t kk => X.lookupswitchMiss hx (g := mkF m pc Ls (.int x :: st)) rfl rfl (hb hby d) hs hf ho t kk) k
theorem w_tswIn (X : Stand p l e R s m args below meth c T locs cells slots) (hx : p.tables.exec = Jvm.exec) (hby : c.code = bs) {x : Int32} {df lo hi : Int} {os : Array Int} {len : Nat} {off : Int} (hd : In bs pc (.tableswitch df lo hi os) len nx) (hin : ¬ (x.toInt < lo ∨ x.toInt > hi)) (hoff : os[(x.toInt - lo).toNat]? = some off) (ho : 0 ≤ (pc : Int) + off) (ht : ((pc : Int) + off).toNat = tg) (k : Wp p e below s K N Q T (mkF m tg Ls st)) : Wp p e below s K N Q T (mkF m pc Ls (.int x :: st)) := by
  obtain ⟨d, -⟩ := hd; exact Wp.go (fun t kk => XS.tswIn X.here hx rfl rfl (hb hby d) rfl hin hoff ho ht kk) k
theorem w_tswOut (X : Stand p l e R s m args below meth c T locs cells slots) (hx : p.tables.exec = Jvm.exec) (hby : c.code = bs) {x : Int32} {df lo hi : Int} {os : Array Int} {len : Nat} (hd : In bs pc (.tableswitch df lo hi os) len nx) (hout : x.toInt < lo ∨ x.toInt > hi) (ho : 0 ≤ (pc : Int) + df) (ht : ((pc : Int) + df).toNat = tg) (k : Wp p e below s K N Q T (mkF m tg Ls st)) : Wp p e below s K N Q T (mkF m pc Ls (.int x :: st)) := by
  obtain ⟨d, -⟩ := hd; exact Wp.go (fun t kk => XS.tswOut X.here hx rfl rfl (hb hby d) rfl hout ho ht kk) k
theorem own_ne32 {x z : Int32} {i : Int} (h : ¬ x = z) (hz : z.toInt = i) : i ≠ x.toInt := fun q => h (Int32.toInt_inj.mp (by rw [hz, q]))
theorem w_ifnonnullRef (X : Stand p l e R s m args below meth c T locs cells slots) (hx : p.tables.exec = Jvm.exec) (hby : c.code = bs) {a : Addr} (hd : Jm bs pc (.ifnonnull o) o nx tg) (k : Wp p e below s K N Q T (mkF m tg Ls st)) : Wp p e below s K N Q T (mkF m pc Ls (.ref a :: st)) := by
  obtain ⟨d, -, q1, q2⟩ := hd; exact Wp.go (fun t kk => XS.ifnonnullYes X.here hx rfl rfl (hb hby d) rfl q1 q2 kk) k
theorem w_ifnonnullNull (X : Stand p l e R s m args below meth c T locs cells slots) (hx : p.tables.exec = Jvm.exec) (hby : c.code = bs) (hd : Jm bs pc (.ifnonnull o) o nx tg) (k : Wp p e below s K N Q T (mkF m nx Ls st)) : Wp p e below s K N Q T (mkF m pc Ls (.null :: st)) := by
  obtain ⟨d, rfl, q1, q2⟩ := hd; exact Wp.go (fun t kk => XS.ifnonnullNo X.here hx rfl (hb hby d) rfl kk) k
theorem w_ifnullRef (X : Stand p l e R s m args below meth c T locs cells slots) (hx : p.tables.exec = Jvm.exec) (hby : c.code = bs) {a : Addr} (hd : Jm bs pc (.ifnull o) o nx tg) (k : Wp p e below s K N Q T (mkF m nx Ls st)) : Wp p e below s K N Q T (mkF m pc Ls (.ref a :: st)) := by
  obtain ⟨d, rfl, q1, q2⟩ := hd; exact Wp.go (fun t kk => XS.ifnullNo X.here hx rfl (hb hby d) rfl kk) k
theorem w_ifnullNull (X : Stand p l e R s m args below meth c T locs cells slots) (hx : p.tables.exec = Jvm.exec) (hby : c.code = bs) (hd : Jm bs pc (.ifnull o) o nx tg) (k : Wp p e below s K N Q T (mkF m tg Ls st)) : Wp p e below s K N Q T (mkF m pc Ls (.null :: st)) := by
  obtain ⟨d, -, q1, q2⟩ := hd; exact Wp.go (fun t kk => XS.ifnullYes X.here hx rfl rfl (hb hby d) rfl q1 q2 kk) k
theorem w_ldcI (X : Stand p l e R s m args below meth c T locs cells slots) (hx : p.tables.exec = Jvm.exec) (hby : c.code = bs) (hZ : Z.Warmed39 s.vm) {own : String} (hown : s.vm.findClass own = some m.cls) {index : Nat} {v : Int32} (w : (Cond.constant own index v).before a0 Z = true) (hd : In bs pc (.ldc index) 2 nx) (k : Wp p e below s K N Q T (mkF m nx Ls (.int v :: st))) : Wp p e below s K N Q T (mkF m pc Ls st) := by
  obtain ⟨d, rfl⟩ := hd; exact Wp.go (fun t kk => X.ldcInt hx hown (mvT hZ w) (g := mkF m pc Ls st) rfl (hb hby d) t kk) k
theorem w_ldcwI (X : Stand p l e R s m args below meth c T locs cells slots) (hx : p.tables.exec = Jvm.exec) (hby : c.code = bs) (hZ : Z.Warmed39 s.vm) {own : String} (hown : s.vm.findClass own = some m.cls) {index : Nat} {v : Int32} (w : (Cond.constant own index v).before a0 Z = true) (hd : In bs pc (.ldc_w index) 3 nx) (k : Wp p e below s K N Q T (mkF m nx Ls (.int v :: st))) : Wp p e below s K N Q T (mkF m pc Ls st) := by
  obtain ⟨d, rfl⟩ := hd; exact Wp.go (fun t kk => X.ldcWI hx hown (mvT hZ w) (g := mkF m pc Ls st) rfl (hb hby d) kk) k
theorem w_ldc2J (X : Stand p l e R s m args below meth c T locs cells slots) (hx : p.tables.exec = Jvm.exec) (hby : c.code = bs) (hZ : Z.Warmed39 s.vm) {own : String} (hown : s.vm.findClass own = some m.cls) {index : Nat} {v : Int64} (w : (Cond.constantLong own index v).before a0 Z = true) (hd : In bs pc (.ldc2_w index) 3 nx) (k : Wp p e below s K N Q T (mkF m nx Ls (.long v :: st))) : Wp p e below s K N Q T (mkF m pc Ls st) := by
  obtain ⟨d, rfl⟩ := hd; exact Wp.go (fun t kk => X.ldc2Long hx hown (mvT hZ w) (g := mkF m pc Ls st) rfl (hb hby d) t kk) k
theorem w_getS (X : Stand p l e R s m args below meth c T locs cells slots) (hx : p.tables.exec = Jvm.exec) (hby : c.code = bs) (hZ : Z.Warmed39 s.vm) {own : String} (hown : s.vm.findClass own = some m.cls) {R0 C n d host : String} {index : Nat} (w : (Cond.fieldLink own index R0 n d).before a0 Z = true ∨ (Cond.fieldLinkNest own index R0 n d host).before a0 Z = true) (via : Via Z R0 C n d) (eT : T.heap = h) {v : Value} (F : Sta Z h C n d v) (hd : In bs pc (.getstatic index) 3 nx) (k : ∀ T', Stand p l e R s m args below meth c T' locs cells slots → T'.heap = h → Wp p e below s K N Q T' (mkF m nx Ls (v :: st))) : Wp p e below s K N Q T (mkF m pc Ls st) := by
  obtain ⟨d, rfl⟩ := hd; obtain ⟨T', X', e', st'⟩ := getS2 X hx hZ hown w via eT F (g := mkF m pc Ls st) rfl (hb hby d); exact Wp.go st' (k T' X' e')
theorem w_getF (X : Stand p l e R s m args below meth c T locs cells slots) (hx : p.tables.exec = Jvm.exec) (hby : c.code = bs) (hZ : Z.Warmed39 s.vm) {own : String} (hown : s.vm.findClass own = some m.cls) {R0 C n d host : String} {index : Nat} (w : (Cond.fieldLink own index R0 n d).before a0 Z = true ∨ (Cond.fieldLinkNest own index R0 n d host).before a0 Z = true) (via : Via Z R0 C n d) (eT : T.heap = h) {a : Addr} {v : Value} (F : Fld Z h a C n d v) (hd : In bs pc (.getfield index) 3 nx) (k : ∀ T', Stand p l e R s m args below meth c T' locs cells slots → T'.heap = h → Wp p e below s K N Q T' (mkF m nx Ls (v :: st))) : Wp p e below s K N Q T (mkF m pc Ls (.ref a :: st)) := by
  obtain ⟨d, rfl⟩ := hd; obtain ⟨T', X', e', st'⟩ := getF X hx hZ hown w via eT F (g := mkF m pc Ls (.ref a :: st)) rfl rfl (hb hby d); exact Wp.go st' (k T' X' e')
theorem w_putF (X : Stand p l e R s m args below meth c T locs cells slots) (hx : p.tables.exec = Jvm.exec) (hby : c.code = bs) (hZ : Z.Warmed39 s.vm) {own : String} (hown : s.vm.findClass own = some m.cls) {R0 C n d host D : String} {index kk : Nat} {ty : FieldType} (w : (Cond.fieldLink own index R0 n d).before a0 Z = true ∨ (Cond.fieldLinkNest own index R0 n d host).before a0 Z = true) (via : Via Z R0 C n d) (eT : T.heap = h) {a : Addr} {v old : Value} (F : Fld Z h a C n d old) (E : Exa Z h a D) (Lw : (Cond.lays D C n d).before a0 Z = true ∨ ((Cond.laysFinal D C n d).before a0 Z = true ∧ own = C ∧ meth.name = "<init>")) (wi : (Cond.instantiable D kk).before a0 Z = true) (hty : parseFieldDescriptor d = some ty) (hn : narrow ty v = v) (hf : fits ty v = true) (hd : In bs pc (.putfield index) 3 nx) (k : ∀ T' h', Stand p l e R s m args below meth c T' (locs ++ [⟨a, Jvm.RoadKit.slotOf Z C n d⟩]) cells slots → T'.heap = h' → Wr h h' a (Jvm.RoadKit.slotOf Z C n d) v → Wp p e below s K N Q T' (mkF m nx Ls st)) : Wp p e below s K N Q T (mkF m pc Ls (v :: .ref a :: st)) := by
  obtain ⟨d, rfl⟩ := hd; obtain ⟨T', h', X', e', W', st'⟩ := putF X hx hZ hown w via eT F E Lw wi hty hn hf (g := mkF m pc Ls (v :: .ref a :: st)) rfl rfl (hb hby d); exact Wp.go st' (k T' h' X' e' W')
theorem w_putFN (X : Stand p l e R s m args below meth c T locs cells slots) (hx : p.tables.exec = Jvm.exec) (hby : c.code = bs) (hZ : Z.Warmed39 s.vm) {own : String} (hown : s.vm.findClass own = some m.cls) {R0 C n d D : String} {index kk : Nat} {ty : FieldType} (w : (Cond.fieldLink own index R0 n d).before a0 Z = true) (via : Via Z R0 C n d) (eT : T.heap = h) {a : Addr} {v v' old : Value} (F : Fld Z h a C n d old) (E : Exa Z h a D) (Lw : (Cond.lays D C n d).before a0 Z = true ∨ ((Cond.laysFinal D C n d).before a0 Z = true ∧ own = C ∧ meth.name = "<init>")) (wi : (Cond.instantiable D kk).before a0 Z = true) (hty : parseFieldDescriptor d = some ty) (hn : narrow ty v = v') (hf : fits ty v' = true) (hd : In bs pc (.putfield index) 3 nx) (k : ∀ T' h', Stand p l e R s m args below meth c T' (locs ++ [⟨a, Jvm.RoadKit.slotOf Z C n d⟩]) cells slots → T'.heap = h' → Wr h h' a (Jvm.RoadKit.slotOf Z C n d) v' → Wp p e below s K N Q T' (mkF m nx Ls st)) : Wp p e below s K N Q T (mkF m pc Ls (v :: .ref a :: st)) := by
  obtain ⟨d, rfl⟩ := hd; obtain ⟨T', h', X', e', W', st'⟩ := putFN X hx hZ hown w via eT F E Lw wi hty hn hf (g := mkF m pc Ls (v :: .ref a :: st)) rfl rfl (hb hby d); exact Wp.go st' (k T' h' X' e' W')
theorem w_newO (X : Stand p l e R s m args below meth c T locs cells slots) (hx : p.tables.exec = Jvm.exec) (hby : c.code = bs) (hZ : Z.Warmed39 s.vm) {own : String} (hown : s.vm.findClass own = some m.cls) {C : String} {index n : Nat} (w : (Cond.classLink own index C).before a0 Z = true) (wi : (Cond.instantiable C n).before a0 Z = true) (wz : (Cond.initialized C).before a0 Z = true) (eT : T.heap = h) (hd : In bs pc (.new index) 3 nx) (hc : cells + 1 ≤ R.cells) (hl : slots + n ≤ R.slots) (k : ∀ T' h' a, a = h.size → Stand p l e R s m args below meth c T' locs (cells + 1) (slots + n) → T'.heap = h' → Ext h h' → Exa Z h' a C → (∀ {D nm d : String} {ty : FieldType}, Laid Z a0 C D nm d → parseFieldDescriptor d = some ty → Fld Z h' a D nm d (defaultValue ty)) → Wp p e below s K N Q T' (mkF m nx Ls (.ref a :: st))) : Wp p e below s K N Q T (mkF m pc Ls st) := by
  obtain ⟨d, rfl⟩ := hd; obtain ⟨T', h', X', e', E', A', D', -, st'⟩ := newO X hx hZ hown w wi wz eT (g := mkF m pc Ls st) rfl (hb hby d) hc hl; exact Wp.go st' (k T' h' _ rfl X' e' E' A' D')
theorem w_newP (X : Stand p l e R s m args below meth c T locs cells slots) (hx : p.tables.exec = Jvm.exec) (hby : c.code = bs) (hZ : Z.Warmed39 s.vm) {aty : ArrayType} (w : (Cond.arrayClass (newarray.typeOf aty)).before a0 Z = true) (eT : T.heap = h) {n : Int32} (hd : In bs pc (.newarray aty) 2 nx) (hn : ¬ n < 0) (cap : Nat) (hcap : n.toNatClampNeg ≤ cap) (hbig : cap * 8 ≤ 536870912) (hc : cells + 1 ≤ R.cells) (hl : slots + cap ≤ R.slots) (k : ∀ T' h' a kA, a = h.size → Stand p l e R s m args below meth c T' locs (cells + 1) (slots + cap) → T'.heap = h' → Ext h h' → Arr Z h' a (newA kA (newarray.typeOf aty) n) (newarray.typeOf aty) → Wp p e below s K N Q T' (mkF m nx Ls (.ref a :: st))) : Wp p e below s K N Q T (mkF m pc Ls (.int n :: st)) := by
  obtain ⟨d, rfl⟩ := hd; obtain ⟨T', h', kA, X', e', E', A', st'⟩ := newP X hx hZ w eT (g := mkF m pc Ls (.int n :: st)) rfl (hb hby d) rfl hn hcap hbig hc hl; exact Wp.go st' (k T' h' _ kA rfl X' e' E' A')
theorem w_newR (X : Stand p l e R s m args below meth c T locs cells slots) (hx : p.tables.exec = Jvm.exec) (hby : c.code = bs) (hZ : Z.Warmed39 s.vm) {own : String} (hown : s.vm.findClass own = some m.cls) {C : String} {index : Nat} (w1 : (Cond.classLink own index C).before a0 Z = true) (w2 : (Cond.arrayOver (.object C)).before a0 Z = true) (eT : T.heap = h) {n : Int32} (hd : In bs pc (.anewarray index) 3 nx) (hn : ¬ n < 0) (cap : Nat) (hcap : n.toNatClampNeg ≤ cap) (hbig : cap * 8 ≤ 536870912) (hc : cells + 1 ≤ R.cells) (hl : slots + cap ≤ R.slots) (k : ∀ T' h' a kA, a = h.size → Stand p l e R s m args below meth c T' locs (cells + 1) (slots + cap) → T'.heap = h' → Ext h h' → Arr Z h' a (newA kA (.object C) n) (.object C) → Ovr Z kA C → Wp p e below s K N Q T' (mkF m nx Ls (.ref a :: st))) : Wp p e below s K N Q T (mkF m pc Ls (.int n :: st)) := by
  obtain ⟨d, rfl⟩ := hd; obtain ⟨T', h', kA, X', e', E', A', O', st'⟩ := newR X hx hZ hown w1 w2 eT (g := mkF m pc Ls (.int n :: st)) rfl (hb hby d) rfl hn hcap hbig hc hl; exact Wp.go st' (k T' h' _ kA rfl X' e' E' A' O')
theorem w_stI (X : Stand p l e R s m args below meth c T locs cells slots) (hx : p.tables.exec = Jvm.exec) (hby : c.code = bs) (hZ : Z.Warmed39 s.vm) (eT : T.heap = h) {a : Addr} {cl : Cell} (A : Arr Z h a cl .int) {j : Int32} {x : Int32} (hj : ¬ (j < 0 ∨ cl.slots.size ≤ j.toNatClampNeg)) (hd : In bs pc .iastore 1 nx) (k : ∀ T' h', Stand p l e R s m args below meth c T' (locs ++ [⟨a, j.toNatClampNeg⟩]) cells slots → T'.heap = h' → Wr h h' a j.toNatClampNeg (.int x) → Wp p e below s K N Q T' (mkF m nx Ls st)) : Wp p e below s K N Q T (mkF m pc Ls (.int x :: .int j :: .ref a :: st)) := by
  obtain ⟨d, rfl⟩ := hd; obtain ⟨T', h', X', e', W', st'⟩ := stI X hx hZ eT A hj (g := mkF m pc Ls (.int x :: .int j :: .ref a :: st)) rfl rfl (hb hby d); exact Wp.go st' (k T' h' X' e' W')
theorem w_stJ (X : Stand p l e R s m args below meth c T locs cells slots) (hx : p.tables.exec = Jvm.exec) (hby : c.code = bs) (hZ : Z.Warmed39 s.vm) (eT : T.heap = h) {a : Addr} {cl : Cell} (A : Arr Z h a cl .long) {j : Int32} {x : Int64} (hj : ¬ (j < 0 ∨ cl.slots.size ≤ j.toNatClampNeg)) (hd : In bs pc .lastore 1 nx) (k : ∀ T' h', Stand p l e R s m args below meth c T' (locs ++ [⟨a, j.toNatClampNeg⟩]) cells slots → T'.heap = h' → Wr h h' a j.toNatClampNeg (.long x) → Wp p e below s K N Q T' (mkF m nx Ls st)) : Wp p e below s K N Q T (mkF m pc Ls (.long x :: .int j :: .ref a :: st)) := by
  obtain ⟨d, rfl⟩ := hd; obtain ⟨T', h', X', e', W', st'⟩ := stJ X hx hZ eT A hj (g := mkF m pc Ls (.long x :: .int j :: .ref a :: st)) rfl rfl (hb hby d); exact Wp.go st' (k T' h' X' e' W')
theorem w_stC (X : Stand p l e R s m args below meth c T locs cells slots) (hx : p.tables.exec = Jvm.exec) (hby : c.code = bs) (hZ : Z.Warmed39 s.vm) (eT : T.heap = h) {a : Addr} {cl : Cell} (A : Arr Z h a cl .char) {j : Int32} {x : Int32} (hj : ¬ (j < 0 ∨ cl.slots.size ≤ j.toNatClampNeg)) (hd : In bs pc .castore 1 nx) (k : ∀ T' h', Stand p l e R s m args below meth c T' (locs ++ [⟨a, j.toNatClampNeg⟩]) cells slots → T'.heap = h' → Wr h h' a j.toNatClampNeg (.int (nar .char x)) → Wp p e below s K N Q T' (mkF m nx Ls st)) : Wp p e below s K N Q T (mkF m pc Ls (.int x :: .int j :: .ref a :: st)) := by
  obtain ⟨d, rfl⟩ := hd; obtain ⟨T', h', X', e', W', st'⟩ := stC X hx hZ eT A hj (g := mkF m pc Ls (.int x :: .int j :: .ref a :: st)) rfl rfl (hb hby d); exact Wp.go st' (k T' h' X' e' W')
theorem w_stB (X : Stand p l e R s m args below meth c T locs cells slots) (hx : p.tables.exec = Jvm.exec) (hby : c.code = bs) (hZ : Z.Warmed39 s.vm) (eT : T.heap = h) {a : Addr} {cl : Cell} (A : Arr Z h a cl .byte) {j : Int32} {x : Int32} (hj : ¬ (j < 0 ∨ cl.slots.size ≤ j.toNatClampNeg)) (hd : In bs pc .bastore 1 nx) (k : ∀ T' h', Stand p l e R s m args below meth c T' (locs ++ [⟨a, j.toNatClampNeg⟩]) cells slots → T'.heap = h' → Wr h h' a j.toNatClampNeg (.int (nar .byte x)) → Wp p e below s K N Q T' (mkF m nx Ls st)) : Wp p e below s K N Q T (mkF m pc Ls (.int x :: .int j :: .ref a :: st)) := by
  obtain ⟨d, rfl⟩ := hd; obtain ⟨T', h', X', e', W', st'⟩ := stB X hx hZ eT A hj (g := mkF m pc Ls (.int x :: .int j :: .ref a :: st)) rfl rfl (hb hby d); exact Wp.go st' (k T' h' X' e' W')
theorem w_stZ (X : Stand p l e R s m args below meth c T locs cells slots) (hx : p.tables.exec = Jvm.exec) (hby : c.code = bs) (hZ : Z.Warmed39 s.vm) (eT : T.heap = h) {a : Addr} {cl : Cell} (A : Arr Z h a cl .boolean) {j : Int32} {x : Int32} (hj : ¬ (j < 0 ∨ cl.slots.size ≤ j.toNatClampNeg)) (hd : In bs pc .bastore 1 nx) (k : ∀ T' h', Stand p l e R s m args below meth c T' (locs ++ [⟨a, j.toNatClampNeg⟩]) cells slots → T'.heap = h' → Wr h h' a j.toNatClampNeg (.int (nar .boolean x)) → Wp p e below s K N Q T' (mkF m nx Ls st)) : Wp p e below s K N Q T (mkF m pc Ls (.int x :: .int j :: .ref a :: st)) := by
  obtain ⟨d, rfl⟩ := hd; obtain ⟨T', h', X', e', W', st'⟩ := stZ X hx hZ eT A hj (g := mkF m pc Ls (.int x :: .int j :: .ref a :: st)) rfl rfl (hb hby d); exact Wp.go st' (k T' h' X' e' W')
theorem w_stR (X : Stand p l e R s m args below meth c T locs cells slots) (hx : p.tables.exec = Jvm.exec) (hby : c.code = bs) (hZ : Z.Warmed39 s.vm) (eT : T.heap = h) {a : Addr} {cl : Cell} {ty : FieldType} (A : Arr Z h a cl ty) {j : Int32} {v : Value} (hj : ¬ (j < 0 ∨ cl.slots.size ≤ j.toNatClampNeg)) (hty : ty.isReference = true) (F : Sto Z h a v) (hd : In bs pc .aastore 1 nx) (k : ∀ T' h', Stand p l e R s m args below meth c T' (locs ++ [⟨a, j.toNatClampNeg⟩]) cells slots → T'.heap = h' → Wr h h' a j.toNatClampNeg v → Wp p e below s K N Q T' (mkF m nx Ls st)) : Wp p e below s K N Q T (mkF m pc Ls (v :: .int j :: .ref a :: st)) := by
  obtain ⟨d, rfl⟩ := hd; obtain ⟨T', h', X', e', W', st'⟩ := stR X hx hZ eT A hj hty F (g := mkF m pc Ls (v :: .int j :: .ref a :: st)) rfl rfl (hb hby d); exact Wp.go st' (k T' h' X' e' W')
theorem w_iaload (X : Stand p l e R s m args below meth c T locs cells slots) (hx : p.tables.exec = Jvm.exec) (hby : c.code = bs) (hZ : Z.Warmed39 s.vm) (eT : T.heap = h) {a : Addr} {cl : Cell} (A : Arr Z h a cl .int) {j : Int32} {v : Value} (hj : ¬ (j < 0 ∨ cl.slots.size ≤ j.toNatClampNeg)) (hv : cl.slots[j.toNatClampNeg]? = some v) (hd : In bs pc .iaload 1 nx) (k : Wp p e below s K N Q T (mkF m nx Ls (v :: st))) : Wp p e below s K N Q T (mkF m pc Ls (.int j :: .ref a :: st)) := by
  obtain ⟨d, rfl⟩ := hd; exact Wp.go (fun t kk => X.iaload hx (by rw [eT]; exact A.1) (State.isArrayOf_alike hZ.alike A.2.1) A.2.2 hj hv (g := mkF m pc Ls (.int j :: .ref a :: st)) rfl rfl (hb hby d) t kk) k
theorem w_laload (X : Stand p l e R s m args below meth c T locs cells slots) (hx : p.tables.exec = Jvm.exec) (hby : c.code = bs) (hZ : Z.Warmed39 s.vm) (eT : T.heap = h) {a : Addr} {cl : Cell} (A : Arr Z h a cl .long) {j : Int32} {v : Value} (hj : ¬ (j < 0 ∨ cl.slots.size ≤ j.toNatClampNeg)) (hv : cl.slots[j.toNatClampNeg]? = some v) (hd : In bs pc .laload 1 nx) (k : Wp p e below s K N Q T (mkF m nx Ls (v :: st))) : Wp p e below s K N Q T (mkF m pc Ls (.int j :: .ref a :: st)) := by
  obtain ⟨d, rfl⟩ := hd; exact Wp.go (fun t kk => X.laload hx (by rw [eT]; exact A.1) (State.isArrayOf_alike hZ.alike A.2.1) A.2.2 hj hv (g := mkF m pc Ls (.int j :: .ref a :: st)) rfl rfl (hb hby d) t kk) k
theorem w_caload (X : Stand p l e R s m args below meth c T locs cells slots) (hx : p.tables.exec = Jvm.exec) (hby : c.code = bs) (hZ : Z.Warmed39 s.vm) (eT : T.heap = h) {a : Addr} {cl : Cell} (A : Arr Z h a cl .char) {j : Int32} {v : Value} (hj : ¬ (j < 0 ∨ cl.slots.size ≤ j.toNatClampNeg)) (hv : cl.slots[j.toNatClampNeg]? = some v) (hd : In bs pc .caload 1 nx) (k : Wp p e below s K N Q T (mkF m nx Ls (v :: st))) : Wp p e below s K N Q T (mkF m pc Ls (.int j :: .ref a :: st)) := by
  obtain ⟨d, rfl⟩ := hd; exact Wp.go (fun t kk => X.caload hx (by rw [eT]; exact A.1) (State.isArrayOf_alike hZ.alike A.2.1) A.2.2 hj hv (g := mkF m pc Ls (.int j :: .ref a :: st)) rfl rfl (hb hby d) t kk) k
theorem w_baload (X : Stand p l e R s m args below meth c T locs cells slots) (hx : p.tables.exec = Jvm.exec) (hby : c.code = bs) (hZ : Z.Warmed39 s.vm) (eT : T.heap = h) {a : Addr} {cl : Cell} (A : Arr Z h a cl .byte) {j : Int32} {v : Value} (hj : ¬ (j < 0 ∨ cl.slots.size ≤ j.toNatClampNeg)) (hv : cl.slots[j.toNatClampNeg]? = some v) (hd : In bs pc .baload 1 nx) (k : Wp p e below s K N Q T (mkF m nx Ls (v :: st))) : Wp p e below s K N Q T (mkF m pc Ls (.int j :: .ref a :: st)) := by
  obtain ⟨d, rfl⟩ := hd; exact Wp.go (fun t kk => X.baloadBytes hx (by rw [eT]; exact A.1) (State.isArrayOf_alike hZ.alike A.2.1) A.2.2 hj hv (g := mkF m pc Ls (.int j :: .ref a :: st)) rfl rfl (hb hby d) t kk) k
theorem w_aaload (X : Stand p l e R s m args below meth c T locs cells slots) (hx : p.tables.exec = Jvm.exec) (hby : c.code = bs) (hZ : Z.Warmed39 s.vm) (eT : T.heap = h) {a : Addr} {cl : Cell} {ty : FieldType} (A : Arr Z h a cl ty) (hty : ty.isReference = true) {j : Int32} {v : Value} (hj : ¬ (j < 0 ∨ cl.slots.size ≤ j.toNatClampNeg)) (hv : cl.slots[j.toNatClampNeg]? = some v) (hd : In bs pc .aaload 1 nx) (k : Wp p e below s K N Q T (mkF m nx Ls (v :: st))) : Wp p e below s K N Q T (mkF m pc Ls (.int j :: .ref a :: st)) := by
  obtain ⟨d, rfl⟩ := hd; exact Wp.go (fun t kk => X.aaload hx (by rw [eT]; exact A.1) (State.isArrayOf_alike hZ.alike A.2.1) hty A.2.2 hj hv (g := mkF m pc Ls (.int j :: .ref a :: st)) rfl rfl (hb hby d) t kk) k
theorem w_arraylength (X : Stand p l e R s m args below meth c T locs cells slots) (hx : p.tables.exec = Jvm.exec) (hby : c.code = bs) (hZ : Z.Warmed39 s.vm) (eT : T.heap = h) {a : Addr} {cl : Cell} {ty : FieldType} (A : Arr Z h a cl ty) {z : Int32} (hz : cl.slots.size.toInt32 = z) (hd : In bs pc .arraylength 1 nx) (k : Wp p e below s K N Q T (mkF m nx Ls (.int z :: st))) : Wp p e below s K N Q T (mkF m pc Ls (.ref a :: st)) := by
  obtain ⟨d, rfl⟩ := hd; subst hz; exact Wp.go (fun t kk => X.arraylength hx (by rw [eT]; exact A.1) (State.isArrayOf_alike hZ.alike A.2.1) (g := mkF m pc Ls (.ref a :: st)) rfl rfl (hb hby d) t kk) k
theorem w_initO (X : Stand p l e R s m args below meth c T locs cells slots) (hx : p.tables.exec = Jvm.exec) (hby : c.code = bs) (hZ : Z.Warmed39 s.vm) {own : String} (hown : s.vm.findClass own = some m.cls) (hml : Ls.size = c.maxLocals) {idx : Nat} (w1 : (Cond.methodLink own idx Lib.objectInit).before a0 Z = true) (w2 : (Cond.instanceMethod Lib.objectInit).before a0 Z = true) (w3 : (Cond.code Lib.objectInit ⟨#[0xb1]⟩ 1 none).before a0 Z = true) (eT : T.heap = h) {a : Addr} (hd : In bs pc (.invokespecial idx) 3 nx) (hf : 1 ≤ R.frames) {Wd : Nat} (hW : (st.map fun v => v.category).sum = Wd) (hl : Wd + 12 ≤ R.locals) (k : ∀ T', Stand p l e R s m args below meth c T' locs cells slots → T'.heap = h → Wp p e below s K N Q T' (mkF m nx Ls st)) : Wp p e below s K N Q T (mkF m pc Ls (.ref a :: st)) := by
  obtain ⟨d, rfl⟩ := hd; obtain ⟨T', X', e', st'⟩ := initO X hx hZ hown w1 w2 w3 eT (g := mkF m pc Ls (.ref a :: st)) rfl hml rfl (hb hby d) hf (W := Wd) (by show 2 * 0 + _ ≤ _; omega) hl; exact Wp.go st' (k T' X' e')
/-- a body's contract: called on as' at the heap h it returns as Q says, within the room rm -/
def Con (l : Launch) (Z : State) (y : MethodName) (bs : ByteArray) (ml : Nat) (rt : Option FieldType) (rm : Room) (as' : Array Value) (h : Heap) (Q : Option Value → Heap → List Loc → Prop) : Prop :=
  ∀ ws : List Jvm.Cond, MetFree l y (head1 (Jvm.Cond.code y bs ml rt :: ws) rm) (fun a U => a = as' ∧ Z.Warmed39 U.vm ∧ U.heap = h) (fun _ _ _ _ _ => True) (fun _ U o U' => ∃ v L, o = .returned v ∧ Q v U'.heap L ∧ FrameEnd U o U' L rm.cells rm.slots)
theorem w_body {y : MethodName} {ml : Nat} {rt : Option FieldType} {rm : Room} {as' : Array Value} (hy : plainFor y = true) (hf : ∀ m, entryFrame m as' ml = mkF m 0 Ls [])
    (k : ∀ (p : Program) (e : Env) (s : State) (m : MethodId) (below : List Frame) (meth : Method) (c : Code) (T : State), Stand p l e rm s m as' below meth c T [] 0 0 → p.tables.exec = Jvm.exec → c.code = bs → c.maxLocals = ml → s.vm.findClass y.cls = some m.cls → meth.name = y.name → meth.sig.returnType = rt → meth.locks = false → Z.Warmed39 s.vm → T.heap = h → Wp p e below s rm.cells rm.slots Q T (mkF m 0 Ls [])) : Con l Z y bs ml rt rm as' h Q := by
  intro ws
  refine MetFree.of_bodySF hy hisR ?_
  intro p e s m args below meth c s₁ Bd hml0 hP hK
  obtain ⟨rfl, hZ, hh⟩ := hP
  have e0 : s₁.heap = h := by rw [← hh, Bd.state]; rfl
  rw [hf m]
  exact k p e s m below meth c s₁ (Stand.of_body Bd) Bd.exec Bd.bytes hml0 (findClass_of_methodNamed Bd.named) (name_of_methodNamed Bd.named Bd.method).1 Bd.returns (BodyLoose.notSynchronized Bd) hZ e0
/-- what a call leaves -/
def Called (p : Program) (l : Launch) (e : Env) (R : Room) (s : State) (m : MethodId) (args : Array Value) (below : List Frame) (meth : Method) (c : Code) (T : State) (locs : List Loc) (cells slots : Nat) (rm : Room) (Qc : Option Value → Heap → List Loc → Prop) (pc nx : Nat) (Ls : Array Slot) (stk rest : List Value) : Prop :=
  ∃ v T' L, Stand p l e R s m args below meth c T' (locs ++ L) (cells + rm.cells) (slots + rm.slots) ∧ Qc v T'.heap L ∧ Steps p.tables e below (T.setTop (mkF m pc Ls stk)) (T'.setTop (mkF m nx Ls (v.toList ++ rest)))
theorem call_S (X : Stand p l e R s m args below meth c T locs cells slots) (hx : p.tables.exec = Jvm.exec) (hby : c.code = bs) (hZ : Z.Warmed39 s.vm) {own : String} (hown : s.vm.findClass own = some m.cls) {y : MethodName} {ml : Nat} {rt : Option FieldType} {rm : Room} {as' : Array Value} {Qc : Option Value → Heap → List Loc → Prop} {index : Nat} {argsL rest : List Value} {Wd : Nat} {bs' : ByteArray} (w1 : (Cond.methodLink own index y).before a0 Z = true) (w2 : (Cond.static y).before a0 Z = true) (wz : (Cond.initialized y.cls).before a0 Z = true) (wc : (Cond.code y bs' ml rt).before a0 Z = true) (hy : y.cls ≠ "java/lang/invoke/MethodHandle" ∧ y.cls ≠ "java/lang/invoke/VarHandle") (con : Con l Z y bs' ml rt rm as' h Qc) (ha : argsL.toArray = as') (hd : In bs pc (.invokestatic index) 3 nx) (hsz : Ls.size = c.maxLocals) (hlen : ∀ sig, parseMethodDescriptor y.desc = some sig → argsL.length = sig.parameters.length) (hW : (rest.map fun v => v.category).sum = Wd) (hfr : rm.frames + 1 ≤ R.frames) (hlo : Wd + (ml + 11) + rm.locals ≤ R.locals) (hce : cells + rm.cells ≤ R.cells) (hso : slots + rm.slots ≤ R.slots) (eT : T.heap = h) : Called p l e R s m args below meth c T locs cells slots rm Qc pc nx Ls (argsL.reverse ++ rest) rest := by
  obtain ⟨d, rfl⟩ := hd
  obtain ⟨v, vm, ⟨T', L', k', n'⟩, -, X', ⟨L, q, l', y', z'⟩, st'⟩ := Jvm.LawKit.callS X hx (y := y) hown (mvT hZ w1) (mvT hZ w2) (mvT hZ wz) (mvT hZ wc) hy (backOf (W := Wd) (con []) hZ wc wz hfr hlo) (g := mkF m pc Ls (argsL.reverse ++ rest)) rfl hsz (argsL := argsL) (rest := rest) hlen rfl (by show 2 * 0 + _ ≤ _; omega) (hb hby d) (fun _ _ => ⟨ha, eT, hce, hso⟩)
  dsimp only [Pt.U, Pt.locs, Pt.cells, Pt.slots] at X' l' y' z' st' q
  subst l' y' z'
  exact ⟨v, T', L, X', q, st' _ (Steps.refl _)⟩
theorem call_N (X : Stand p l e R s m args below meth c T locs cells slots) (hx : p.tables.exec = Jvm.exec) (hby : c.code = bs) (hZ : Z.Warmed39 s.vm) {own : String} (hown : s.vm.findClass own = some m.cls) {y : MethodName} {ml : Nat} {rm : Room} {as' : Array Value} {Qc : Option Value → Heap → List Loc → Prop} {index : Nat} {argsL rest : List Value} {Wd : Nat} {bs' : ByteArray} {a : Addr} (hn : y.name = "<init>") (w1 : (Cond.methodLink own index y).before a0 Z = true) (w2 : (Cond.instanceMethod y).before a0 Z = true) (wz : (Cond.initialized y.cls).before a0 Z = true) (wc : (Cond.code y bs' ml none).before a0 Z = true) (hy : y.cls ≠ "java/lang/invoke/MethodHandle" ∧ y.cls ≠ "java/lang/invoke/VarHandle") (con : Con l Z y bs' ml none rm as' h Qc) (ha : (.ref a :: argsL).toArray = as') (hd : In bs pc (.invokespecial index) 3 nx) (hsz : Ls.size = c.maxLocals) (hlen : ∀ sig, parseMethodDescriptor y.desc = some sig → argsL.length = sig.parameters.length) (hW : (rest.map fun v => v.category).sum = Wd) (hfr : rm.frames + 1 ≤ R.frames) (hlo : Wd + (ml + 11) + rm.locals ≤ R.locals) (hce : cells + rm.cells ≤ R.cells) (hso : slots + rm.slots ≤ R.slots) (eT : T.heap = h) : Called p l e R s m args below meth c T locs cells slots rm Qc pc nx Ls (argsL.reverse ++ .ref a :: rest) rest := by
  obtain ⟨d, rfl⟩ := hd
  obtain ⟨v, vm, ⟨T', L', k', n'⟩, -, X', ⟨L, q, l', y', z'⟩, st'⟩ := X.specialBack hx (y := y) hn hown (mvT hZ w1) (mvT hZ w2) (mvT hZ wc) hy (backOf (W := Wd) (con []) hZ wc wz hfr hlo) (g := mkF m pc Ls (argsL.reverse ++ .ref a :: rest)) rfl hsz (Steps.refl _) (a := a) (argsL := argsL) (rest := rest) hlen rfl (by show 2 * 0 + _ ≤ _; omega) (hb hby d) (fun _ _ => ⟨ha, eT, hce, hso⟩)
  dsimp only [Pt.U, Pt.locs, Pt.cells, Pt.slots] at X' l' y' z' st' q
  subst l' y' z'
  exact ⟨v, T', L, X', q, st'⟩
theorem call_V (X : Stand p l e R s m args below meth c T locs cells slots) (hx : p.tables.exec = Jvm.exec) (hby : c.code = bs) (hZ : Z.Warmed39 s.vm) {own : String} (hown : s.vm.findClass own = some m.cls) {y : MethodName} {ml : Nat} {rt : Option FieldType} {rm : Room} {as' : Array Value} {Qc : Option Value → Heap → List Loc → Prop} {index : Nat} {argsL rest : List Value} {Wd : Nat} {bs' : ByteArray} {a : Addr} {C : String} (w1 : (Cond.methodLink own index y).before a0 Z = true) (w2 : (Cond.declares y).before a0 Z = true) (w3 : (Cond.selects C y y).before a0 Z = true) (w4 : (Cond.instanceMethod y).before a0 Z = true) (wz : (Cond.initialized y.cls).before a0 Z = true) (wc : (Cond.code y bs' ml rt).before a0 Z = true) (hy : y.cls ≠ "java/lang/invoke/MethodHandle" ∧ y.cls ≠ "java/lang/invoke/VarHandle") (E : Exa Z h a C) (con : Con l Z y bs' ml rt rm as' h Qc) (ha : (.ref a :: argsL).toArray = as') (hd : In bs pc (.invokevirtual index) 3 nx) (hsz : Ls.size = c.maxLocals) (hlen : ∀ sig, parseMethodDescriptor y.desc = some sig → argsL.length = sig.parameters.length) (hW : (rest.map fun v => v.category).sum = Wd) (hfr : rm.frames + 1 ≤ R.frames) (hlo : Wd + (ml + 11) + rm.locals ≤ R.locals) (hce : cells + rm.cells ≤ R.cells) (hso : slots + rm.slots ≤ R.slots) (eT : T.heap = h) : Called p l e R s m args below meth c T locs cells slots rm Qc pc nx Ls (argsL.reverse ++ .ref a :: rest) rest := by
  obtain ⟨d, rfl⟩ := hd
  obtain ⟨cq, kq, qa, qb, qc⟩ := isOf hZ eT E
  obtain ⟨v, vm, ⟨T', L', k', n'⟩, -, X', ⟨L, q, l', y', z'⟩, st'⟩ := X.virtualBack hx (y := y) (z := y) hown (mvT hZ w1) (mvT hZ w2) (notFace_of_selects (args := #[]) (mvT hZ w3)) (mvT hZ w3) (mvT hZ w4) hy (backOf (W := Wd) (con []) hZ wc wz hfr hlo) qa qc (g := mkF m pc Ls (argsL.reverse ++ .ref a :: rest)) rfl hsz (Steps.refl _) (argsL := argsL) (rest := rest) hlen rfl (by show 2 * 0 + _ ≤ _; omega) (hb hby d) (fun _ _ => ⟨ha, eT, hce, hso⟩)
  dsimp only [Pt.U, Pt.locs, Pt.cells, Pt.slots] at X' l' y' z' st' q
  subst l' y' z'
  exact ⟨v, T', L, X', q, st'⟩
theorem call_U (X : Stand p l e R s m args below meth c T locs cells slots) (hx : p.tables.exec = Jvm.exec) (hby : c.code = bs) (hZ : Z.Warmed39 s.vm) {own : String} (hown : s.vm.findClass own = some m.cls) {y : MethodName} {ml : Nat} {rt : Option FieldType} {rm : Room} {as' : Array Value} {Qc : Option Value → Heap → List Loc → Prop} {index : Nat} {argsL rest : List Value} {Wd : Nat} {bs' : ByteArray} {x : MethodName} {a : Addr} {C owner : String} (w1 : (Cond.methodLink own index x).before a0 Z = true) (w2 : (Cond.sameMethod x.cls owner x.name x.desc).before a0 Z = true) (w5 : (Cond.declares ⟨owner, x.name, x.desc⟩).before a0 Z = true) (ho : owner ≠ "java/lang/invoke/MethodHandle" ∧ owner ≠ "java/lang/invoke/VarHandle") (w3 : (Cond.selects C x y).before a0 Z = true) (w4 : (Cond.instanceMethod y).before a0 Z = true) (wz : (Cond.initialized y.cls).before a0 Z = true) (wc : (Cond.code y bs' ml rt).before a0 Z = true) (E : Exa Z h a C) (con : Con l Z y bs' ml rt rm as' h Qc) (ha : (.ref a :: argsL).toArray = as') (hd : In bs pc (.invokevirtual index) 3 nx) (hsz : Ls.size = c.maxLocals) (hlen : ∀ sig, parseMethodDescriptor x.desc = some sig → argsL.length = sig.parameters.length) (hW : (rest.map fun v => v.category).sum = Wd) (hfr : rm.frames + 1 ≤ R.frames) (hlo : Wd + (ml + 11) + rm.locals ≤ R.locals) (hce : cells + rm.cells ≤ R.cells) (hso : slots + rm.slots ≤ R.slots) (eT : T.heap = h) : Called p l e R s m args below meth c T locs cells slots rm Qc pc nx Ls (argsL.reverse ++ .ref a :: rest) rest := by
  obtain ⟨d, rfl⟩ := hd
  obtain ⟨cq, kq, qa, qb, qc⟩ := isOf hZ eT E
  obtain ⟨v, vm, ⟨T', L', k', n'⟩, -, X', ⟨L, q, l', y', z'⟩, st'⟩ := X.virtualBackUp hx (x := x) (y := y) hown (mvT hZ w1) (mvT hZ w2) (mvT hZ w5) ho (mvT hZ w3) (mvT hZ w4) (backOf (W := Wd) (con []) hZ wc wz hfr hlo) qa qc (g := mkF m pc Ls (argsL.reverse ++ .ref a :: rest)) rfl hsz (Steps.refl _) (argsL := argsL) (rest := rest) hlen rfl (by show 2 * 0 + _ ≤ _; omega) (hb hby d) (fun _ _ => ⟨ha, eT, hce, hso⟩)
  dsimp only [Pt.U, Pt.locs, Pt.cells, Pt.slots] at X' l' y' z' st' q
  subst l' y' z'
  exact ⟨v, T', L, X', q, st'⟩
/-- behind a call -/
theorem w_called {rm : Room} {Qc : Option Value → Heap → List Loc → Prop} {stk rest : List Value} (hc : Called p l e R s m args below meth c T locs cells slots rm Qc pc nx Ls stk rest)
    (k : ∀ v T' L, Stand p l e R s m args below meth c T' (locs ++ L) (cells + rm.cells) (slots + rm.slots) → Qc v T'.heap L → Wp p e below s K N Q T' (mkF m nx Ls (v.toList ++ rest))) : Wp p e below s K N Q T (mkF m pc Ls stk) := by
  obtain ⟨v, T', L, X', q, st'⟩ := hc; exact Wp.tr st' (k v T' L X' q)
/-- behind a call that writes nothing and makes nothing -/
theorem w_calledp {rm : Room} {w : Value} {stk rest : List Value} (hc : Called p l e R s m args below meth c T locs cells slots rm (fun v h' L => v = some w ∧ h' = h ∧ L = []) pc nx Ls stk rest) (h1 : rm.cells = 0) (h2 : rm.slots = 0)
    (k : ∀ T', Stand p l e R s m args below meth c T' locs cells slots → T'.heap = h → Wp p e below s K N Q T' (mkF m nx Ls (w :: rest))) : Wp p e below s K N Q T (mkF m pc Ls stk) := by
  obtain ⟨v, T', L, X', ⟨rfl, q, rfl⟩, st'⟩ := hc
  rw [h1, h2, List.append_nil] at X'
  exact Wp.tr st' (k T' X' q)
theorem w_retI (X : Stand p l e R s m args below meth c T locs cells slots) (hx : p.tables.exec = Jvm.exec) (hby : c.code = bs) (eT : T.heap = h) (hlk : meth.locks = false) {z : Int32} (hret : meth.sig.returnType = some .int) (hd : In bs pc .ireturn 1 nx) (hK : cells ≤ K) (hN : slots ≤ N) (q : Q (some (.int z)) h locs) : Wp p e below s K N Q T (mkF m pc Ls (.int z :: st)) := by
  obtain ⟨fs, hr, hrun, hended, hW, hsame⟩ := X.leave (v := some (.int z)) (fun h => by rw [hret] at h; cases h) hlk
  subst eT
  refine ⟨_, _, ?_, hrun, hended, _, _, rfl, q, ⟨_, rfl⟩, hW, hsame.mono hK hN⟩
  exact retOut X hx hret rfl (Or.inl ⟨rfl, Or.inl rfl, z, rfl⟩) (hb hby hd.1) hr
theorem w_retN (X : Stand p l e R s m args below meth c T locs cells slots) (hx : p.tables.exec = Jvm.exec) (hby : c.code = bs) (eT : T.heap = h) (hlk : meth.locks = false) {z : Int32} {t : FieldType} (hret : meth.sig.returnType = some t) (ht : t = .boolean ∨ t = .byte ∨ t = .char ∨ t = .short) (hd : In bs pc .ireturn 1 nx) (hK : cells ≤ K) (hN : slots ≤ N) (q : Q (some (.int (nar t z))) h locs) : Wp p e below s K N Q T (mkF m pc Ls (.int z :: st)) := by
  obtain ⟨fs, hr, hrun, hended, hW, hsame⟩ := X.leave (v := some (.int (nar t z))) (fun h => by rw [hret] at h; cases h) hlk
  subst eT
  refine ⟨_, _, ?_, hrun, hended, _, _, rfl, q, ⟨_, rfl⟩, hW, hsame.mono hK hN⟩
  exact retN X hx hret ht (hb hby hd.1) hr
theorem w_retJ (X : Stand p l e R s m args below meth c T locs cells slots) (hx : p.tables.exec = Jvm.exec) (hby : c.code = bs) (eT : T.heap = h) (hlk : meth.locks = false) {z : Int64} (hret : meth.sig.returnType = some .long) (hd : In bs pc .lreturn 1 nx) (hK : cells ≤ K) (hN : slots ≤ N) (q : Q (some (.long z)) h locs) : Wp p e below s K N Q T (mkF m pc Ls (.long z :: st)) := by
  obtain ⟨fs, hr, hrun, hended, hW, hsame⟩ := X.leave (v := some (.long z)) (fun h => by rw [hret] at h; cases h) hlk
  subst eT
  refine ⟨_, _, ?_, hrun, hended, _, _, rfl, q, ⟨_, rfl⟩, hW, hsame.mono hK hN⟩
  exact retOut X hx hret rfl (Or.inr (Or.inl ⟨rfl, rfl, z, rfl⟩)) (hb hby hd.1) hr
theorem w_retA (X : Stand p l e R s m args below meth c T locs cells slots) (hx : p.tables.exec = Jvm.exec) (hby : c.code = bs) (eT : T.heap = h) (hlk : meth.locks = false) {w : Value} {t : FieldType} (hret : meth.sig.returnType = some t) (ht : t.isReference = true) (hw : w.isRef = true) (hn : narrow t w = w) (hd : In bs pc .areturn 1 nx) (hK : cells ≤ K) (hN : slots ≤ N) (q : Q (some w) h locs) : Wp p e below s K N Q T (mkF m pc Ls (w :: st)) := by
  obtain ⟨fs, hr, hrun, hended, hW, hsame⟩ := X.leave (v := some w) (fun h => by rw [hret] at h; cases h) hlk
  subst eT
  refine ⟨_, _, ?_, hrun, hended, _, _, rfl, q, ⟨_, rfl⟩, hW, hsame.mono hK hN⟩
  exact retOut X hx hret hn (Or.inr (Or.inr (Or.inr (Or.inr ⟨rfl, ht, hw⟩)))) (hb hby hd.1) hr
theorem w_retV (X : Stand p l e R s m args below meth c T locs cells slots) (hx : p.tables.exec = Jvm.exec) (hby : c.code = bs) (eT : T.heap = h) (hlk : meth.locks = false) (hret : meth.sig.returnType = none) (hd : In bs pc .return_ 1 nx) (hK : cells ≤ K) (hN : slots ≤ N) (q : Q none h locs) : Wp p e below s K N Q T (mkF m pc Ls []) := by
  obtain ⟨fs, hr, hrun, hended, hW, hsame⟩ := X.leave (v := none) (fun _ => rfl) hlk
  subst eT
  refine ⟨_, _, ?_, hrun, hended, _, _, rfl, q, ⟨_, rfl⟩, hW, hsame.mono hK hN⟩
  exact X.returnOut hx hret (hb hby hd.1) hr
theorem own_ns {Z : State} {h : Heap} {a : Addr} {K : String} (E : Exa Z h a K) : ∃ c : Cell, h[a]? = some c ∧ c.vm.isStatics = false := by
  obtain ⟨c, _, h1, -, -, h4, -⟩ := E; exact ⟨c, h1, h4⟩
theorem own_nsV {Z : State} {h : Heap} {a : Addr} {k : ClassId} {ty : FieldType} {n : Int32} {vs : List Value} {dv : Value} (E : Arv Z h a k ty n vs dv) : ∃ c : Cell, h[a]? = some c ∧ c.vm.isStatics = false := by
  obtain ⟨c, A, -⟩ := E; exact ⟨c, A.1, A.plain⟩
theorem own_sta_keep {Z : State} {h h' : Heap} {C n d : String} {v : Value} {ws : List Addr} (F : Sta Z h C n d v) (K : Keep h h' ws) (q : ∀ x ∈ ws, ∃ c : Cell, h[x]? = some c ∧ c.vm.isStatics = false) : Sta Z h' C n d v := by
  obtain ⟨cf, i, k, f, st, cell, h1, h2, h3, h4, h5, h6, h7⟩ := F
  refine ⟨cf, i, k, f, st, cell, h1, h2, h3, h4, K.2.1 _ _ h5 (fun hm => ?_), h6, h7⟩
  obtain ⟨c, e1, e2⟩ := q st hm
  cases h5.symm.trans e1
  rw [h6] at e2; cases e2
theorem own_arr_keep {Z : State} {h h' : Heap} {a : Addr} {c : Cell} {ty : FieldType} {ws : List Addr} (F : Arr Z h a c ty) (K : Keep h h' ws) (q : a ∉ ws) : Arr Z h' a c ty := ⟨K.2.1 a c F.1 q, F.2⟩
theorem own_ext_keep {h h' : Heap} (E : Ext h h') : Keep h h' [] := (Keep.refl h []).ext E
theorem own_keep_ext {h h' : Heap} (K : Keep h h' []) : Ext h h' := ⟨K.1, fun a c q => K.2.1 a c q nin0⟩
end OwnKit
theorem t_0 : (Jvm.Cond.constantLong "com/example/panoptes/panoptes/CutsPositionPinLaw" (9 : Nat) (-9223372036854775552 : Int64)) ∈ tables_1 := List.mem_of_getElem? (i := 0) rfl
theorem t_1 : (Jvm.Cond.constantLong "com/example/panoptes/panoptes/CutsPositionPinLaw" (11 : Nat) (9223372036854775551 : Int64)) ∈ tables_1 := List.mem_of_getElem? (i := 1) rfl
theorem t_2 : (Jvm.Cond.constantLong "com/example/panoptes/panoptes/CutsPositionPinLaw" (13 : Nat) (127 : Int64)) ∈ tables_1 := List.mem_of_getElem? (i := 2) rfl
theorem t_3 : (Jvm.Cond.constantLong "com/example/panoptes/panoptes/CutsPositionPinLaw" (15 : Nat) (16 : Int64)) ∈ tables_1 := List.mem_of_getElem? (i := 3) rfl
theorem t_4 : (Jvm.Cond.arrayClass Jvm.ClassFile.FieldType.long) ∈ tables_1 := List.mem_of_getElem? (i := 4) rfl
theorem t_5 : (Jvm.Cond.classLink "com/example/panoptes/panoptes/CutsPositionPinLaw" (17 : Nat) "com/example/panoptes/panoptes/Cuts") ∈ tables_1 := List.mem_of_getElem? (i := 5) rfl
theorem t_6 : (Jvm.Cond.instantiable "com/example/panoptes/panoptes/Cuts" (5 : Nat)) ∈ tables_1 := List.mem_of_getElem? (i := 6) rfl
theorem t_7 : (Jvm.Cond.initialized "com/example/panoptes/panoptes/Cuts") ∈ tables_1 := List.mem_of_getElem? (i := 7) rfl
theorem t_8 : (Jvm.Cond.methodLink "com/example/panoptes/panoptes/CutsPositionPinLaw" (19 : Nat) ({ cls := "com/example/panoptes/panoptes/Cuts", name := "<init>", desc := "([JJJ)V" } : Jvm.MethodName)) ∈ tables_1 := List.mem_of_getElem? (i := 8) rfl
theorem t_9 : (Jvm.Cond.instanceMethod ({ cls := "com/example/panoptes/panoptes/Cuts", name := "<init>", desc := "([JJJ)V" } : Jvm.MethodName)) ∈ tables_1 := List.mem_of_getElem? (i := 9) rfl
theorem t_10 : (Jvm.Cond.code ({ cls := "com/example/panoptes/panoptes/Cuts", name := "<init>", desc := "([JJJ)V" } : Jvm.MethodName) prog_6_method_1_code (6 : Nat) (Option.none : Option Jvm.ClassFile.FieldType)) ∈ tables_1 := List.mem_of_getElem? (i := 10) rfl
theorem t_11 : (Jvm.Cond.methodLink "com/example/panoptes/panoptes/Cuts" (1 : Nat) ({ cls := "java/lang/Object", name := "<init>", desc := "()V" } : Jvm.MethodName)) ∈ tables_1 := List.mem_of_getElem? (i := 11) rfl
theorem t_12 : (Jvm.Cond.instanceMethod ({ cls := "java/lang/Object", name := "<init>", desc := "()V" } : Jvm.MethodName)) ∈ tables_1 := List.mem_of_getElem? (i := 12) rfl
theorem t_13 : (Jvm.Cond.code ({ cls := "java/lang/Object", name := "<init>", desc := "()V" } : Jvm.MethodName) object_method_1_code (1 : Nat) (Option.none : Option Jvm.ClassFile.FieldType)) ∈ tables_1 := List.mem_of_getElem? (i := 13) rfl
theorem t_14 : (Jvm.Cond.fieldLink "com/example/panoptes/panoptes/Cuts" (7 : Nat) "com/example/panoptes/panoptes/Cuts" "timestamps" "[J") ∈ tables_1 := List.mem_of_getElem? (i := 14) rfl
theorem t_15 : (Jvm.Cond.laysFinal "com/example/panoptes/panoptes/Cuts" "com/example/panoptes/panoptes/Cuts" "timestamps" "[J") ∈ tables_1 := List.mem_of_getElem? (i := 15) rfl
theorem t_16 : (Jvm.Cond.methodLink "com/example/panoptes/panoptes/Cuts" (13 : Nat) ({ cls := "com/example/panoptes/panoptes/Cuts", name := "firstNotBefore", desc := "([JIIJ)I" } : Jvm.MethodName)) ∈ tables_1 := List.mem_of_getElem? (i := 16) rfl
theorem t_17 : (Jvm.Cond.static ({ cls := "com/example/panoptes/panoptes/Cuts", name := "firstNotBefore", desc := "([JIIJ)I" } : Jvm.MethodName)) ∈ tables_1 := List.mem_of_getElem? (i := 17) rfl
theorem t_18 : (Jvm.Cond.code ({ cls := "com/example/panoptes/panoptes/Cuts", name := "firstNotBefore", desc := "([JIIJ)I" } : Jvm.MethodName) prog_6_method_5_code (6 : Nat) (Option.some Jvm.ClassFile.FieldType.int)) ∈ tables_1 := List.mem_of_getElem? (i := 18) rfl
theorem t_19 : (Jvm.Cond.methodLink "com/example/panoptes/panoptes/Cuts" (31 : Nat) ({ cls := "java/util/Arrays", name := "binarySearch", desc := "([JIIJ)I" } : Jvm.MethodName)) ∈ tables_1 := List.mem_of_getElem? (i := 19) rfl
theorem t_20 : (Jvm.Cond.static ({ cls := "java/util/Arrays", name := "binarySearch", desc := "([JIIJ)I" } : Jvm.MethodName)) ∈ tables_1 := List.mem_of_getElem? (i := 20) rfl
theorem t_21 : (Jvm.Cond.initialized "java/util/Arrays") ∈ tables_1 := List.mem_of_getElem? (i := 21) rfl
theorem t_22 : (Jvm.Cond.code ({ cls := "java/util/Arrays", name := "binarySearch", desc := "([JIIJ)I" } : Jvm.MethodName) jdk_65_method_55_code (5 : Nat) (Option.some Jvm.ClassFile.FieldType.int)) ∈ tables_1 := List.mem_of_getElem? (i := 22) rfl
theorem t_23 : (Jvm.Cond.methodLink "java/util/Arrays" (13 : Nat) ({ cls := "java/util/Arrays", name := "rangeCheck", desc := "(III)V" } : Jvm.MethodName)) ∈ tables_1 := List.mem_of_getElem? (i := 23) rfl
theorem t_24 : (Jvm.Cond.static ({ cls := "java/util/Arrays", name := "rangeCheck", desc := "(III)V" } : Jvm.MethodName)) ∈ tables_1 := List.mem_of_getElem? (i := 24) rfl
theorem t_25 : (Jvm.Cond.code ({ cls := "java/util/Arrays", name := "rangeCheck", desc := "(III)V" } : Jvm.MethodName) jdk_65_method_30_code (3 : Nat) (Option.none : Option Jvm.ClassFile.FieldType)) ∈ tables_1 := List.mem_of_getElem? (i := 25) rfl
theorem t_26 : (Jvm.Cond.methodLink "java/util/Arrays" (205 : Nat) ({ cls := "java/util/Arrays", name := "binarySearch0", desc := "([JIIJ)I" } : Jvm.MethodName)) ∈ tables_1 := List.mem_of_getElem? (i := 26) rfl
theorem t_27 : (Jvm.Cond.static ({ cls := "java/util/Arrays", name := "binarySearch0", desc := "([JIIJ)I" } : Jvm.MethodName)) ∈ tables_1 := List.mem_of_getElem? (i := 27) rfl
theorem t_28 : (Jvm.Cond.code ({ cls := "java/util/Arrays", name := "binarySearch0", desc := "([JIIJ)I" } : Jvm.MethodName) jdk_65_method_56_code (10 : Nat) (Option.some Jvm.ClassFile.FieldType.int)) ∈ tables_1 := List.mem_of_getElem? (i := 28) rfl
theorem t_29 : (Jvm.Cond.fieldLink "com/example/panoptes/panoptes/Cuts" (17 : Nat) "com/example/panoptes/panoptes/Cuts" "inside" "I") ∈ tables_1 := List.mem_of_getElem? (i := 29) rfl
theorem t_30 : (Jvm.Cond.laysFinal "com/example/panoptes/panoptes/Cuts" "com/example/panoptes/panoptes/Cuts" "inside" "I") ∈ tables_1 := List.mem_of_getElem? (i := 30) rfl
theorem t_31 : (Jvm.Cond.fieldLink "com/example/panoptes/panoptes/Cuts" (21 : Nat) "com/example/panoptes/panoptes/Cuts" "intervals" "I") ∈ tables_1 := List.mem_of_getElem? (i := 31) rfl
theorem t_32 : (Jvm.Cond.laysFinal "com/example/panoptes/panoptes/Cuts" "com/example/panoptes/panoptes/Cuts" "intervals" "I") ∈ tables_1 := List.mem_of_getElem? (i := 32) rfl
theorem t_33 : (Jvm.Cond.fieldLink "com/example/panoptes/panoptes/Cuts" (24 : Nat) "com/example/panoptes/panoptes/Cuts" "from" "J") ∈ tables_1 := List.mem_of_getElem? (i := 33) rfl
theorem t_34 : (Jvm.Cond.laysFinal "com/example/panoptes/panoptes/Cuts" "com/example/panoptes/panoptes/Cuts" "from" "J") ∈ tables_1 := List.mem_of_getElem? (i := 34) rfl
theorem t_35 : (Jvm.Cond.fieldLink "com/example/panoptes/panoptes/Cuts" (28 : Nat) "com/example/panoptes/panoptes/Cuts" "to" "J") ∈ tables_1 := List.mem_of_getElem? (i := 35) rfl
theorem t_36 : (Jvm.Cond.laysFinal "com/example/panoptes/panoptes/Cuts" "com/example/panoptes/panoptes/Cuts" "to" "J") ∈ tables_1 := List.mem_of_getElem? (i := 36) rfl
theorem t_37 : (Jvm.Cond.methodLink "com/example/panoptes/panoptes/CutsPositionPinLaw" (22 : Nat) ({ cls := "com/example/panoptes/panoptes/Cuts", name := "position", desc := "(J)I" } : Jvm.MethodName)) ∈ tables_1 := List.mem_of_getElem? (i := 37) rfl
theorem t_38 : (Jvm.Cond.declares ({ cls := "com/example/panoptes/panoptes/Cuts", name := "position", desc := "(J)I" } : Jvm.MethodName)) ∈ tables_1 := List.mem_of_getElem? (i := 38) rfl
theorem t_39 : (Jvm.Cond.instanceMethod ({ cls := "com/example/panoptes/panoptes/Cuts", name := "position", desc := "(J)I" } : Jvm.MethodName)) ∈ tables_1 := List.mem_of_getElem? (i := 39) rfl
theorem t_40 : (Jvm.Cond.selects "com/example/panoptes/panoptes/Cuts" ({ cls := "com/example/panoptes/panoptes/Cuts", name := "position", desc := "(J)I" } : Jvm.MethodName) ({ cls := "com/example/panoptes/panoptes/Cuts", name := "position", desc := "(J)I" } : Jvm.MethodName)) ∈ tables_1 := List.mem_of_getElem? (i := 40) rfl
theorem t_41 : (Jvm.Cond.code ({ cls := "com/example/panoptes/panoptes/Cuts", name := "position", desc := "(J)I" } : Jvm.MethodName) prog_6_method_4_code (4 : Nat) (Option.some Jvm.ClassFile.FieldType.int)) ∈ tables_1 := List.mem_of_getElem? (i := 41) rfl
theorem t_42 : (Jvm.Cond.methodLink "com/example/panoptes/panoptes/CutsPositionPinLaw" (26 : Nat) ({ cls := "com/example/panoptes/panoptes/CutsPositionPinLaw", name := "counted", desc := "(JZJJJ)I" } : Jvm.MethodName)) ∈ tables_1 := List.mem_of_getElem? (i := 42) rfl
theorem t_43 : (Jvm.Cond.static ({ cls := "com/example/panoptes/panoptes/CutsPositionPinLaw", name := "counted", desc := "(JZJJJ)I" } : Jvm.MethodName)) ∈ tables_1 := List.mem_of_getElem? (i := 43) rfl
theorem t_44 : (Jvm.Cond.initialized "com/example/panoptes/panoptes/CutsPositionPinLaw") ∈ tables_1 := List.mem_of_getElem? (i := 44) rfl
theorem t_45 : (Jvm.Cond.code ({ cls := "com/example/panoptes/panoptes/CutsPositionPinLaw", name := "counted", desc := "(JZJJJ)I" } : Jvm.MethodName) method_2_code (9 : Nat) (Option.some Jvm.ClassFile.FieldType.int)) ∈ tables_1 := List.mem_of_getElem? (i := 45) rfl
theorem n6_8 : In jdk_65_method_56_code 8 (.iload 5) 2 10 := ⟨by decide +kernel, rfl⟩
theorem n6_10 : In jdk_65_method_56_code 10 (.iload 6) 2 12 := ⟨by decide +kernel, rfl⟩
theorem n6_12 : Jm jdk_65_method_56_code 12 (.if_icmp .gt 56) 56 15 68 := ⟨by decide +kernel, rfl, by decide, by decide⟩
theorem n6_68 : In jdk_65_method_56_code 68 (.iload 5) 2 70 := ⟨by decide +kernel, rfl⟩
theorem n6_70 : In jdk_65_method_56_code 70 (.iconst 1) 1 71 := ⟨by decide +kernel, rfl⟩
theorem n6_71 : In jdk_65_method_56_code 71 (.iadd) 1 72 := ⟨by decide +kernel, rfl⟩
theorem n6_72 : In jdk_65_method_56_code 72 (.ineg) 1 73 := ⟨by decide +kernel, rfl⟩
theorem n6_73 : In jdk_65_method_56_code 73 (.ireturn) 1 74 := ⟨by decide +kernel, rfl⟩
theorem n6_15 : In jdk_65_method_56_code 15 (.iload 5) 2 17 := ⟨by decide +kernel, rfl⟩
theorem n6_17 : In jdk_65_method_56_code 17 (.iload 6) 2 19 := ⟨by decide +kernel, rfl⟩
theorem n6_19 : In jdk_65_method_56_code 19 (.iadd) 1 20 := ⟨by decide +kernel, rfl⟩
theorem n6_20 : In jdk_65_method_56_code 20 (.iconst 1) 1 21 := ⟨by decide +kernel, rfl⟩
theorem n6_21 : In jdk_65_method_56_code 21 (.iushr) 1 22 := ⟨by decide +kernel, rfl⟩
theorem n6_22 : In jdk_65_method_56_code 22 (.istore 7) 2 24 := ⟨by decide +kernel, rfl⟩
theorem n6_24 : In jdk_65_method_56_code 24 (.aload_n 0) 1 25 := ⟨by decide +kernel, rfl⟩
theorem n6_25 : In jdk_65_method_56_code 25 (.iload 7) 2 27 := ⟨by decide +kernel, rfl⟩
theorem n6_27 : In jdk_65_method_56_code 27 (.laload) 1 28 := ⟨by decide +kernel, rfl⟩
theorem n6_28 : In jdk_65_method_56_code 28 (.lstore 8) 2 30 := ⟨by decide +kernel, rfl⟩
theorem n6_30 : In jdk_65_method_56_code 30 (.lload 8) 2 32 := ⟨by decide +kernel, rfl⟩
theorem n6_32 : In jdk_65_method_56_code 32 (.lload_n 3) 1 33 := ⟨by decide +kernel, rfl⟩
theorem n6_33 : In jdk_65_method_56_code 33 (.lcmp) 1 34 := ⟨by decide +kernel, rfl⟩
theorem n6_34 : Jm jdk_65_method_56_code 34 (.ifCond .ge 12) 12 37 46 := ⟨by decide +kernel, rfl, by decide, by decide⟩
theorem n6_46 : In jdk_65_method_56_code 46 (.lload 8) 2 48 := ⟨by decide +kernel, rfl⟩
theorem n6_48 : In jdk_65_method_56_code 48 (.lload_n 3) 1 49 := ⟨by decide +kernel, rfl⟩
theorem n6_49 : In jdk_65_method_56_code 49 (.lcmp) 1 50 := ⟨by decide +kernel, rfl⟩
theorem n6_50 : Jm jdk_65_method_56_code 50 (.ifCond .le 12) 12 53 62 := ⟨by decide +kernel, rfl, by decide, by decide⟩
theorem n6_62 : In jdk_65_method_56_code 62 (.iload 7) 2 64 := ⟨by decide +kernel, rfl⟩
theorem n6_64 : In jdk_65_method_56_code 64 (.ireturn) 1 65 := ⟨by decide +kernel, rfl⟩
theorem n6_53 : In jdk_65_method_56_code 53 (.iload 7) 2 55 := ⟨by decide +kernel, rfl⟩
theorem n6_55 : In jdk_65_method_56_code 55 (.iconst 1) 1 56 := ⟨by decide +kernel, rfl⟩
theorem n6_56 : In jdk_65_method_56_code 56 (.isub) 1 57 := ⟨by decide +kernel, rfl⟩
theorem n6_57 : In jdk_65_method_56_code 57 (.istore 6) 2 59 := ⟨by decide +kernel, rfl⟩
theorem n6_59 : Jm jdk_65_method_56_code 59 (.goto 6) 6 62 65 := ⟨by decide +kernel, rfl, by decide, by decide⟩
theorem n6_65 : Jm jdk_65_method_56_code 65 (.goto (-57)) (-57) 68 8 := ⟨by decide +kernel, rfl, by decide, by decide⟩
theorem n6_37 : In jdk_65_method_56_code 37 (.iload 7) 2 39 := ⟨by decide +kernel, rfl⟩
theorem n6_39 : In jdk_65_method_56_code 39 (.iconst 1) 1 40 := ⟨by decide +kernel, rfl⟩
theorem n6_40 : In jdk_65_method_56_code 40 (.iadd) 1 41 := ⟨by decide +kernel, rfl⟩
theorem n6_41 : In jdk_65_method_56_code 41 (.istore 5) 2 43 := ⟨by decide +kernel, rfl⟩
theorem n6_43 : Jm jdk_65_method_56_code 43 (.goto 22) 22 46 65 := ⟨by decide +kernel, rfl, by decide, by decide⟩
theorem n6_0 : In jdk_65_method_56_code 0 (.iload_n 1) 1 1 := ⟨by decide +kernel, rfl⟩
theorem n6_1 : In jdk_65_method_56_code 1 (.istore 5) 2 3 := ⟨by decide +kernel, rfl⟩
theorem n6_3 : In jdk_65_method_56_code 3 (.iload_n 2) 1 4 := ⟨by decide +kernel, rfl⟩
theorem n6_4 : In jdk_65_method_56_code 4 (.iconst 1) 1 5 := ⟨by decide +kernel, rfl⟩
theorem n6_5 : In jdk_65_method_56_code 5 (.isub) 1 6 := ⟨by decide +kernel, rfl⟩
theorem n6_6 : In jdk_65_method_56_code 6 (.istore 6) 2 8 := ⟨by decide +kernel, rfl⟩
theorem pn_6 : plainFor (⟨"java/util/Arrays", "binarySearch0", "([JIIJ)I"⟩ : MethodName) = true := plainFor_of_name (by first | (simp [plainName, overriddenIn]; done) | decide +kernel)
theorem n5_0 : In jdk_65_method_30_code 0 (.iload_n 1) 1 1 := ⟨by decide +kernel, rfl⟩
theorem n5_1 : In jdk_65_method_30_code 1 (.iload_n 2) 1 2 := ⟨by decide +kernel, rfl⟩
theorem n5_2 : Jm jdk_65_method_30_code 2 (.if_icmp .le 44) 44 5 46 := ⟨by decide +kernel, rfl, by decide, by decide⟩
theorem n5_46 : In jdk_65_method_30_code 46 (.iload_n 1) 1 47 := ⟨by decide +kernel, rfl⟩
theorem n5_47 : Jm jdk_65_method_30_code 47 (.ifCond .ge 12) 12 50 59 := ⟨by decide +kernel, rfl, by decide, by decide⟩
theorem n5_59 : In jdk_65_method_30_code 59 (.iload_n 2) 1 60 := ⟨by decide +kernel, rfl⟩
theorem n5_60 : In jdk_65_method_30_code 60 (.iload_n 0) 1 61 := ⟨by decide +kernel, rfl⟩
theorem n5_61 : Jm jdk_65_method_30_code 61 (.if_icmp .le 12) 12 64 73 := ⟨by decide +kernel, rfl, by decide, by decide⟩
theorem n5_73 : In jdk_65_method_30_code 73 (.return_) 1 74 := ⟨by decide +kernel, rfl⟩
theorem pn_5 : plainFor (⟨"java/util/Arrays", "rangeCheck", "(III)V"⟩ : MethodName) = true := plainFor_of_name (by first | (simp [plainName, overriddenIn]; done) | decide +kernel)
theorem n4_0 : In jdk_65_method_55_code 0 (.aload_n 0) 1 1 := ⟨by decide +kernel, rfl⟩
theorem n4_1 : In jdk_65_method_55_code 1 (.arraylength) 1 2 := ⟨by decide +kernel, rfl⟩
theorem n4_2 : In jdk_65_method_55_code 2 (.iload_n 1) 1 3 := ⟨by decide +kernel, rfl⟩
theorem n4_3 : In jdk_65_method_55_code 3 (.iload_n 2) 1 4 := ⟨by decide +kernel, rfl⟩
theorem n4_4 : In jdk_65_method_55_code 4 (.invokestatic 13) 3 7 := ⟨by decide +kernel, rfl⟩
theorem pd_3734 : parseMethodDescriptor "(III)V" = some ⟨[.int, .int, .int], none⟩ := by decide +kernel
theorem n4_7 : In jdk_65_method_55_code 7 (.aload_n 0) 1 8 := ⟨by decide +kernel, rfl⟩
theorem n4_8 : In jdk_65_method_55_code 8 (.iload_n 1) 1 9 := ⟨by decide +kernel, rfl⟩
theorem n4_9 : In jdk_65_method_55_code 9 (.iload_n 2) 1 10 := ⟨by decide +kernel, rfl⟩
theorem n4_10 : In jdk_65_method_55_code 10 (.lload_n 3) 1 11 := ⟨by decide +kernel, rfl⟩
theorem n4_11 : In jdk_65_method_55_code 11 (.invokestatic 205) 3 14 := ⟨by decide +kernel, rfl⟩
theorem pd_5650 : parseMethodDescriptor "([JIIJ)I" = some ⟨[(.array .long), .int, .int, .long], some .int⟩ := by decide +kernel
theorem n4_14 : In jdk_65_method_55_code 14 (.ireturn) 1 15 := ⟨by decide +kernel, rfl⟩
theorem pn_4 : plainFor (⟨"java/util/Arrays", "binarySearch", "([JIIJ)I"⟩ : MethodName) = true := plainFor_of_name (by first | (simp [plainName, overriddenIn]; done) | decide +kernel)
theorem n3_0 : In prog_6_method_5_code 0 (.aload_n 0) 1 1 := ⟨by decide +kernel, rfl⟩
theorem n3_1 : In prog_6_method_5_code 1 (.iload_n 1) 1 2 := ⟨by decide +kernel, rfl⟩
theorem n3_2 : In prog_6_method_5_code 2 (.iload_n 2) 1 3 := ⟨by decide +kernel, rfl⟩
theorem n3_3 : In prog_6_method_5_code 3 (.lload_n 3) 1 4 := ⟨by decide +kernel, rfl⟩
theorem n3_4 : In prog_6_method_5_code 4 (.invokestatic 31) 3 7 := ⟨by decide +kernel, rfl⟩
theorem n3_7 : In prog_6_method_5_code 7 (.istore 5) 2 9 := ⟨by decide +kernel, rfl⟩
theorem n3_9 : In prog_6_method_5_code 9 (.iload 5) 2 11 := ⟨by decide +kernel, rfl⟩
theorem n3_11 : Jm prog_6_method_5_code 11 (.ifCond .lt 8) 8 14 19 := ⟨by decide +kernel, rfl, by decide, by decide⟩
theorem n3_19 : In prog_6_method_5_code 19 (.iload 5) 2 21 := ⟨by decide +kernel, rfl⟩
theorem n3_21 : In prog_6_method_5_code 21 (.ineg) 1 22 := ⟨by decide +kernel, rfl⟩
theorem n3_22 : In prog_6_method_5_code 22 (.iconst 1) 1 23 := ⟨by decide +kernel, rfl⟩
theorem n3_23 : In prog_6_method_5_code 23 (.isub) 1 24 := ⟨by decide +kernel, rfl⟩
theorem n3_24 : In prog_6_method_5_code 24 (.ireturn) 1 25 := ⟨by decide +kernel, rfl⟩
theorem n3_14 : In prog_6_method_5_code 14 (.iload 5) 2 16 := ⟨by decide +kernel, rfl⟩
theorem n3_16 : Jm prog_6_method_5_code 16 (.goto 8) 8 19 24 := ⟨by decide +kernel, rfl, by decide, by decide⟩
theorem pn_3 : plainFor (⟨"com/example/panoptes/panoptes/Cuts", "firstNotBefore", "([JIIJ)I"⟩ : MethodName) = true := plainFor_of_name (by first | (simp [plainName, overriddenIn]; done) | decide +kernel)
theorem n1_0 : In prog_6_method_1_code 0 (.aload_n 0) 1 1 := ⟨by decide +kernel, rfl⟩
theorem n1_1 : In prog_6_method_1_code 1 (.invokespecial 1) 3 4 := ⟨by decide +kernel, rfl⟩
theorem n1_4 : In prog_6_method_1_code 4 (.aload_n 0) 1 5 := ⟨by decide +kernel, rfl⟩
theorem n1_5 : In prog_6_method_1_code 5 (.aload_n 1) 1 6 := ⟨by decide +kernel, rfl⟩
theorem n1_6 : In prog_6_method_1_code 6 (.putfield 7) 3 9 := ⟨by decide +kernel, rfl⟩
theorem n1_9 : In prog_6_method_1_code 9 (.aload_n 0) 1 10 := ⟨by decide +kernel, rfl⟩
theorem n1_10 : In prog_6_method_1_code 10 (.aload_n 1) 1 11 := ⟨by decide +kernel, rfl⟩
theorem n1_11 : In prog_6_method_1_code 11 (.iconst 0) 1 12 := ⟨by decide +kernel, rfl⟩
theorem n1_12 : In prog_6_method_1_code 12 (.aload_n 1) 1 13 := ⟨by decide +kernel, rfl⟩
theorem n1_13 : In prog_6_method_1_code 13 (.arraylength) 1 14 := ⟨by decide +kernel, rfl⟩
theorem n1_14 : In prog_6_method_1_code 14 (.lload_n 2) 1 15 := ⟨by decide +kernel, rfl⟩
theorem n1_15 : In prog_6_method_1_code 15 (.lconst 1) 1 16 := ⟨by decide +kernel, rfl⟩
theorem n1_16 : In prog_6_method_1_code 16 (.ladd) 1 17 := ⟨by decide +kernel, rfl⟩
theorem n1_17 : In prog_6_method_1_code 17 (.invokestatic 13) 3 20 := ⟨by decide +kernel, rfl⟩
theorem n1_20 : In prog_6_method_1_code 20 (.putfield 17) 3 23 := ⟨by decide +kernel, rfl⟩
theorem n1_23 : In prog_6_method_1_code 23 (.aload_n 0) 1 24 := ⟨by decide +kernel, rfl⟩
theorem n1_24 : In prog_6_method_1_code 24 (.aload_n 1) 1 25 := ⟨by decide +kernel, rfl⟩
theorem n1_25 : In prog_6_method_1_code 25 (.aload_n 0) 1 26 := ⟨by decide +kernel, rfl⟩
theorem n1_26 : In prog_6_method_1_code 26 (.getfield 17) 3 29 := ⟨by decide +kernel, rfl⟩
theorem n1_29 : In prog_6_method_1_code 29 (.aload_n 1) 1 30 := ⟨by decide +kernel, rfl⟩
theorem n1_30 : In prog_6_method_1_code 30 (.arraylength) 1 31 := ⟨by decide +kernel, rfl⟩
theorem n1_31 : In prog_6_method_1_code 31 (.lload 4) 2 33 := ⟨by decide +kernel, rfl⟩
theorem n1_33 : In prog_6_method_1_code 33 (.invokestatic 13) 3 36 := ⟨by decide +kernel, rfl⟩
theorem n1_36 : In prog_6_method_1_code 36 (.aload_n 0) 1 37 := ⟨by decide +kernel, rfl⟩
theorem n1_37 : In prog_6_method_1_code 37 (.getfield 17) 3 40 := ⟨by decide +kernel, rfl⟩
theorem n1_40 : In prog_6_method_1_code 40 (.isub) 1 41 := ⟨by decide +kernel, rfl⟩
theorem n1_41 : In prog_6_method_1_code 41 (.iconst 1) 1 42 := ⟨by decide +kernel, rfl⟩
theorem n1_42 : In prog_6_method_1_code 42 (.iadd) 1 43 := ⟨by decide +kernel, rfl⟩
theorem n1_43 : In prog_6_method_1_code 43 (.putfield 21) 3 46 := ⟨by decide +kernel, rfl⟩
theorem n1_46 : In prog_6_method_1_code 46 (.aload_n 0) 1 47 := ⟨by decide +kernel, rfl⟩
theorem n1_47 : In prog_6_method_1_code 47 (.lload_n 2) 1 48 := ⟨by decide +kernel, rfl⟩
theorem n1_48 : In prog_6_method_1_code 48 (.putfield 24) 3 51 := ⟨by decide +kernel, rfl⟩
theorem n1_51 : In prog_6_method_1_code 51 (.aload_n 0) 1 52 := ⟨by decide +kernel, rfl⟩
theorem n1_52 : In prog_6_method_1_code 52 (.lload 4) 2 54 := ⟨by decide +kernel, rfl⟩
theorem n1_54 : In prog_6_method_1_code 54 (.putfield 28) 3 57 := ⟨by decide +kernel, rfl⟩
theorem n1_57 : In prog_6_method_1_code 57 (.return_) 1 58 := ⟨by decide +kernel, rfl⟩
theorem pn_1 : plainFor (⟨"com/example/panoptes/panoptes/Cuts", "<init>", "([JJJ)V"⟩ : MethodName) = true := plainFor_of_name (by first | (simp [plainName, overriddenIn]; done) | decide +kernel)
theorem n7_0 : In prog_6_method_4_code 0 (.lload_n 1) 1 1 := ⟨by decide +kernel, rfl⟩
theorem n7_1 : In prog_6_method_4_code 1 (.aload_n 0) 1 2 := ⟨by decide +kernel, rfl⟩
theorem n7_2 : In prog_6_method_4_code 2 (.getfield 24) 3 5 := ⟨by decide +kernel, rfl⟩
theorem n7_5 : In prog_6_method_4_code 5 (.lcmp) 1 6 := ⟨by decide +kernel, rfl⟩
theorem n7_6 : Jm prog_6_method_4_code 6 (.ifCond .gt 8) 8 9 14 := ⟨by decide +kernel, rfl, by decide, by decide⟩
theorem n7_14 : In prog_6_method_4_code 14 (.aload_n 0) 1 15 := ⟨by decide +kernel, rfl⟩
theorem n7_15 : In prog_6_method_4_code 15 (.getfield 7) 3 18 := ⟨by decide +kernel, rfl⟩
theorem n7_18 : In prog_6_method_4_code 18 (.aload_n 0) 1 19 := ⟨by decide +kernel, rfl⟩
theorem n7_19 : In prog_6_method_4_code 19 (.getfield 17) 3 22 := ⟨by decide +kernel, rfl⟩
theorem n7_22 : In prog_6_method_4_code 22 (.aload_n 0) 1 23 := ⟨by decide +kernel, rfl⟩
theorem n7_23 : In prog_6_method_4_code 23 (.getfield 17) 3 26 := ⟨by decide +kernel, rfl⟩
theorem n7_26 : In prog_6_method_4_code 26 (.aload_n 0) 1 27 := ⟨by decide +kernel, rfl⟩
theorem n7_27 : In prog_6_method_4_code 27 (.getfield 21) 3 30 := ⟨by decide +kernel, rfl⟩
theorem n7_30 : In prog_6_method_4_code 30 (.iadd) 1 31 := ⟨by decide +kernel, rfl⟩
theorem n7_31 : In prog_6_method_4_code 31 (.iconst 1) 1 32 := ⟨by decide +kernel, rfl⟩
theorem n7_32 : In prog_6_method_4_code 32 (.isub) 1 33 := ⟨by decide +kernel, rfl⟩
theorem n7_33 : In prog_6_method_4_code 33 (.lload_n 1) 1 34 := ⟨by decide +kernel, rfl⟩
theorem n7_34 : In prog_6_method_4_code 34 (.invokestatic 13) 3 37 := ⟨by decide +kernel, rfl⟩
theorem n7_37 : In prog_6_method_4_code 37 (.aload_n 0) 1 38 := ⟨by decide +kernel, rfl⟩
theorem n7_38 : In prog_6_method_4_code 38 (.getfield 17) 3 41 := ⟨by decide +kernel, rfl⟩
theorem n7_41 : In prog_6_method_4_code 41 (.isub) 1 42 := ⟨by decide +kernel, rfl⟩
theorem n7_42 : In prog_6_method_4_code 42 (.iconst 1) 1 43 := ⟨by decide +kernel, rfl⟩
theorem n7_43 : In prog_6_method_4_code 43 (.iadd) 1 44 := ⟨by decide +kernel, rfl⟩
theorem n7_44 : In prog_6_method_4_code 44 (.istore_n 3) 1 45 := ⟨by decide +kernel, rfl⟩
theorem n7_45 : In prog_6_method_4_code 45 (.iload_n 3) 1 46 := ⟨by decide +kernel, rfl⟩
theorem n7_46 : In prog_6_method_4_code 46 (.ireturn) 1 47 := ⟨by decide +kernel, rfl⟩
theorem n7_9 : In prog_6_method_4_code 9 (.iconst 0) 1 10 := ⟨by decide +kernel, rfl⟩
theorem n7_10 : In prog_6_method_4_code 10 (.istore_n 3) 1 11 := ⟨by decide +kernel, rfl⟩
theorem n7_11 : Jm prog_6_method_4_code 11 (.goto 34) 34 14 45 := ⟨by decide +kernel, rfl, by decide, by decide⟩
theorem pn_7 : plainFor (⟨"com/example/panoptes/panoptes/Cuts", "position", "(J)I"⟩ : MethodName) = true := plainFor_of_name (by first | (simp [plainName, overriddenIn]; done) | decide +kernel)
theorem n8_0 : In method_2_code 0 (.iload_n 2) 1 1 := ⟨by decide +kernel, rfl⟩
theorem n8_1 : Jm method_2_code 1 (.ifCond .eq 25) 25 4 26 := ⟨by decide +kernel, rfl, by decide, by decide⟩
theorem n8_26 : In method_2_code 26 (.iconst 0) 1 27 := ⟨by decide +kernel, rfl⟩
theorem n8_27 : In method_2_code 27 (.ireturn) 1 28 := ⟨by decide +kernel, rfl⟩
theorem n8_4 : In method_2_code 4 (.lload_n 3) 1 5 := ⟨by decide +kernel, rfl⟩
theorem n8_5 : In method_2_code 5 (.lload_n 0) 1 6 := ⟨by decide +kernel, rfl⟩
theorem n8_6 : In method_2_code 6 (.lcmp) 1 7 := ⟨by decide +kernel, rfl⟩
theorem n8_7 : Jm method_2_code 7 (.ifCond .ge 19) 19 10 26 := ⟨by decide +kernel, rfl, by decide, by decide⟩
theorem n8_10 : In method_2_code 10 (.lload_n 0) 1 11 := ⟨by decide +kernel, rfl⟩
theorem n8_11 : In method_2_code 11 (.lload 5) 2 13 := ⟨by decide +kernel, rfl⟩
theorem n8_13 : In method_2_code 13 (.lcmp) 1 14 := ⟨by decide +kernel, rfl⟩
theorem n8_14 : Jm method_2_code 14 (.ifCond .ge 12) 12 17 26 := ⟨by decide +kernel, rfl, by decide, by decide⟩
theorem n8_17 : In method_2_code 17 (.lload_n 0) 1 18 := ⟨by decide +kernel, rfl⟩
theorem n8_18 : In method_2_code 18 (.lload 7) 2 20 := ⟨by decide +kernel, rfl⟩
theorem n8_20 : In method_2_code 20 (.lcmp) 1 21 := ⟨by decide +kernel, rfl⟩
theorem n8_21 : Jm method_2_code 21 (.ifCond .ge 5) 5 24 26 := ⟨by decide +kernel, rfl, by decide, by decide⟩
theorem n8_24 : In method_2_code 24 (.iconst 1) 1 25 := ⟨by decide +kernel, rfl⟩
theorem n8_25 : In method_2_code 25 (.ireturn) 1 26 := ⟨by decide +kernel, rfl⟩
theorem pn_8 : plainFor (⟨"com/example/panoptes/panoptes/CutsPositionPinLaw", "counted", "(JZJJJ)I"⟩ : MethodName) = true := plainFor_of_name (by first | (simp [plainName, overriddenIn]; done) | decide +kernel)
theorem n0_100 : In code 100 (.iload 7) 2 102 := ⟨at_100, rfl⟩
theorem n0_102 : In code 102 (.iconst 1) 1 103 := ⟨at_102, rfl⟩
theorem n0_103 : In code 103 (.iushr) 1 104 := ⟨at_103, rfl⟩
theorem n0_104 : In code 104 (.iconst 3) 1 105 := ⟨at_104, rfl⟩
theorem n0_105 : In code 105 (.iand) 1 106 := ⟨at_105, rfl⟩
theorem n0_106 : In code 106 (.istore 20) 2 108 := ⟨at_106, rfl⟩
theorem n0_108 : In code 108 (.iload 20) 2 110 := ⟨at_108, rfl⟩
theorem n0_110 : Jm code 110 (.ifCond .ne 11) 11 113 121 := ⟨at_110, rfl, by decide, by decide⟩
theorem n0_113 : In code 113 (.iconst 0) 1 114 := ⟨at_113, rfl⟩
theorem n0_114 : In code 114 (.newarray .long) 2 116 := ⟨at_114, rfl⟩
theorem n0_116 : In code 116 (.astore 21) 2 118 := ⟨at_116, rfl⟩
theorem n0_118 : Jm code 118 (.goto 66) 66 121 184 := ⟨at_118, rfl, by decide, by decide⟩
theorem n0_184 : In code 184 (.new 17) 3 187 := ⟨at_184, rfl⟩
theorem n0_187 : In code 187 (.dup) 1 188 := ⟨at_187, rfl⟩
theorem n0_188 : In code 188 (.aload 21) 2 190 := ⟨at_188, rfl⟩
theorem n0_190 : In code 190 (.lload 14) 2 192 := ⟨at_190, rfl⟩
theorem n0_192 : In code 192 (.lload 16) 2 194 := ⟨at_192, rfl⟩
theorem n0_194 : In code 194 (.invokespecial 19) 3 197 := ⟨at_194, rfl⟩
theorem pd_4838 : parseMethodDescriptor "([JJJ)V" = some ⟨[(.array .long), .long, .long], none⟩ := by decide +kernel
theorem n0_197 : In code 197 (.astore 22) 2 199 := ⟨at_197, rfl⟩
theorem n0_199 : In code 199 (.aload 22) 2 201 := ⟨at_199, rfl⟩
theorem n0_201 : In code 201 (.lload 18) 2 203 := ⟨at_201, rfl⟩
theorem n0_203 : In code 203 (.invokevirtual 22) 3 206 := ⟨at_203, rfl⟩
theorem pd_1971 : parseMethodDescriptor "(J)I" = some ⟨[.long], some .int⟩ := by decide +kernel
theorem n0_206 : In code 206 (.istore 23) 2 208 := ⟨at_206, rfl⟩
theorem n0_208 : In code 208 (.lload 18) 2 210 := ⟨at_208, rfl⟩
theorem n0_210 : In code 210 (.lload 14) 2 212 := ⟨at_210, rfl⟩
theorem n0_212 : In code 212 (.lcmp) 1 213 := ⟨at_212, rfl⟩
theorem n0_213 : Jm code 213 (.ifCond .gt 9) 9 216 222 := ⟨at_213, rfl, by decide, by decide⟩
theorem n0_216 : In code 216 (.iconst 0) 1 217 := ⟨at_216, rfl⟩
theorem n0_217 : In code 217 (.istore 24) 2 219 := ⟨at_217, rfl⟩
theorem n0_219 : Jm code 219 (.goto 75) 75 222 294 := ⟨at_219, rfl, by decide, by decide⟩
theorem n0_294 : In code 294 (.iload 23) 2 296 := ⟨at_294, rfl⟩
theorem n0_296 : In code 296 (.iload 24) 2 298 := ⟨at_296, rfl⟩
theorem n0_298 : Jm code 298 (.if_icmp .ne 7) 7 301 305 := ⟨at_298, rfl, by decide, by decide⟩
theorem n0_301 : In code 301 (.iconst 1) 1 302 := ⟨at_301, rfl⟩
theorem n0_302 : Jm code 302 (.goto 4) 4 305 306 := ⟨at_302, rfl, by decide, by decide⟩
theorem n0_306 : In code 306 (.ireturn) 1 307 := ⟨at_306, rfl⟩
theorem n0_222 : In code 222 (.iconst 1) 1 223 := ⟨at_222, rfl⟩
theorem n0_223 : In code 223 (.lload 8) 2 225 := ⟨at_223, rfl⟩
theorem n0_225 : In code 225 (.iload 20) 2 227 := ⟨at_225, rfl⟩
theorem n0_227 : In code 227 (.iconst 1) 1 228 := ⟨at_227, rfl⟩
theorem n0_228 : Jm code 228 (.if_icmp .lt 7) 7 231 235 := ⟨at_228, rfl, by decide, by decide⟩
theorem n0_235 : In code 235 (.iconst 0) 1 236 := ⟨at_235, rfl⟩
theorem n0_236 : In code 236 (.lload 14) 2 238 := ⟨at_236, rfl⟩
theorem n0_238 : In code 238 (.lload 16) 2 240 := ⟨at_238, rfl⟩
theorem n0_240 : In code 240 (.lload 18) 2 242 := ⟨at_240, rfl⟩
theorem n0_242 : In code 242 (.invokestatic 26) 3 245 := ⟨at_242, rfl⟩
theorem pd_5679 : parseMethodDescriptor "(JZJJJ)I" = some ⟨[.long, .boolean, .long, .long, .long], some .int⟩ := by decide +kernel
theorem n0_245 : In code 245 (.iadd) 1 246 := ⟨at_245, rfl⟩
theorem n0_246 : In code 246 (.lload 10) 2 248 := ⟨at_246, rfl⟩
theorem n0_248 : In code 248 (.iload 20) 2 250 := ⟨at_248, rfl⟩
theorem n0_250 : In code 250 (.iconst 2) 1 251 := ⟨at_250, rfl⟩
theorem n0_251 : Jm code 251 (.if_icmp .lt 7) 7 254 258 := ⟨at_251, rfl, by decide, by decide⟩
theorem n0_258 : In code 258 (.iconst 0) 1 259 := ⟨at_258, rfl⟩
theorem n0_259 : In code 259 (.lload 14) 2 261 := ⟨at_259, rfl⟩
theorem n0_261 : In code 261 (.lload 16) 2 263 := ⟨at_261, rfl⟩
theorem n0_263 : In code 263 (.lload 18) 2 265 := ⟨at_263, rfl⟩
theorem n0_265 : In code 265 (.invokestatic 26) 3 268 := ⟨at_265, rfl⟩
theorem n0_268 : In code 268 (.iadd) 1 269 := ⟨at_268, rfl⟩
theorem n0_269 : In code 269 (.lload 12) 2 271 := ⟨at_269, rfl⟩
theorem n0_271 : In code 271 (.iload 20) 2 273 := ⟨at_271, rfl⟩
theorem n0_273 : In code 273 (.iconst 3) 1 274 := ⟨at_273, rfl⟩
theorem n0_274 : Jm code 274 (.if_icmp .lt 7) 7 277 281 := ⟨at_274, rfl, by decide, by decide⟩
theorem n0_281 : In code 281 (.iconst 0) 1 282 := ⟨at_281, rfl⟩
theorem n0_282 : In code 282 (.lload 14) 2 284 := ⟨at_282, rfl⟩
theorem n0_284 : In code 284 (.lload 16) 2 286 := ⟨at_284, rfl⟩
theorem n0_286 : In code 286 (.lload 18) 2 288 := ⟨at_286, rfl⟩
theorem n0_288 : In code 288 (.invokestatic 26) 3 291 := ⟨at_288, rfl⟩
theorem n0_291 : In code 291 (.iadd) 1 292 := ⟨at_291, rfl⟩
theorem n0_292 : In code 292 (.istore 24) 2 294 := ⟨at_292, rfl⟩
theorem n0_121 : In code 121 (.iload 20) 2 123 := ⟨at_121, rfl⟩
theorem n0_123 : In code 123 (.iconst 1) 1 124 := ⟨at_123, rfl⟩
theorem n0_124 : Jm code 124 (.if_icmp .ne 16) 16 127 140 := ⟨at_124, rfl, by decide, by decide⟩
theorem n0_127 : In code 127 (.iconst 1) 1 128 := ⟨at_127, rfl⟩
theorem n0_128 : In code 128 (.newarray .long) 2 130 := ⟨at_128, rfl⟩
theorem n0_130 : In code 130 (.dup) 1 131 := ⟨at_130, rfl⟩
theorem n0_131 : In code 131 (.iconst 0) 1 132 := ⟨at_131, rfl⟩
theorem n0_132 : In code 132 (.lload 8) 2 134 := ⟨at_132, rfl⟩
theorem n0_134 : In code 134 (.lastore) 1 135 := ⟨at_134, rfl⟩
theorem n0_135 : In code 135 (.astore 21) 2 137 := ⟨at_135, rfl⟩
theorem n0_137 : Jm code 137 (.goto 47) 47 140 184 := ⟨at_137, rfl, by decide, by decide⟩
theorem n0_231 : In code 231 (.iconst 1) 1 232 := ⟨at_231, rfl⟩
theorem n0_232 : Jm code 232 (.goto 4) 4 235 236 := ⟨at_232, rfl, by decide, by decide⟩
theorem n0_140 : In code 140 (.iload 20) 2 142 := ⟨at_140, rfl⟩
theorem n0_142 : In code 142 (.iconst 2) 1 143 := ⟨at_142, rfl⟩
theorem n0_143 : Jm code 143 (.if_icmp .ne 21) 21 146 164 := ⟨at_143, rfl, by decide, by decide⟩
theorem n0_146 : In code 146 (.iconst 2) 1 147 := ⟨at_146, rfl⟩
theorem n0_147 : In code 147 (.newarray .long) 2 149 := ⟨at_147, rfl⟩
theorem n0_149 : In code 149 (.dup) 1 150 := ⟨at_149, rfl⟩
theorem n0_150 : In code 150 (.iconst 0) 1 151 := ⟨at_150, rfl⟩
theorem n0_151 : In code 151 (.lload 8) 2 153 := ⟨at_151, rfl⟩
theorem n0_153 : In code 153 (.lastore) 1 154 := ⟨at_153, rfl⟩
theorem n0_154 : In code 154 (.dup) 1 155 := ⟨at_154, rfl⟩
theorem n0_155 : In code 155 (.iconst 1) 1 156 := ⟨at_155, rfl⟩
theorem n0_156 : In code 156 (.lload 10) 2 158 := ⟨at_156, rfl⟩
theorem n0_158 : In code 158 (.lastore) 1 159 := ⟨at_158, rfl⟩
theorem n0_159 : In code 159 (.astore 21) 2 161 := ⟨at_159, rfl⟩
theorem n0_161 : Jm code 161 (.goto 23) 23 164 184 := ⟨at_161, rfl, by decide, by decide⟩
theorem n0_254 : In code 254 (.iconst 1) 1 255 := ⟨at_254, rfl⟩
theorem n0_255 : Jm code 255 (.goto 4) 4 258 259 := ⟨at_255, rfl, by decide, by decide⟩
theorem n0_164 : In code 164 (.iconst 3) 1 165 := ⟨at_164, rfl⟩
theorem n0_165 : In code 165 (.newarray .long) 2 167 := ⟨at_165, rfl⟩
theorem n0_167 : In code 167 (.dup) 1 168 := ⟨at_167, rfl⟩
theorem n0_168 : In code 168 (.iconst 0) 1 169 := ⟨at_168, rfl⟩
theorem n0_169 : In code 169 (.lload 8) 2 171 := ⟨at_169, rfl⟩
theorem n0_171 : In code 171 (.lastore) 1 172 := ⟨at_171, rfl⟩
theorem n0_172 : In code 172 (.dup) 1 173 := ⟨at_172, rfl⟩
theorem n0_173 : In code 173 (.iconst 1) 1 174 := ⟨at_173, rfl⟩
theorem n0_174 : In code 174 (.lload 10) 2 176 := ⟨at_174, rfl⟩
theorem n0_176 : In code 176 (.lastore) 1 177 := ⟨at_176, rfl⟩
theorem n0_177 : In code 177 (.dup) 1 178 := ⟨at_177, rfl⟩
theorem n0_178 : In code 178 (.iconst 2) 1 179 := ⟨at_178, rfl⟩
theorem n0_179 : In code 179 (.lload 12) 2 181 := ⟨at_179, rfl⟩
theorem n0_181 : In code 181 (.lastore) 1 182 := ⟨at_181, rfl⟩
theorem n0_182 : In code 182 (.astore 21) 2 184 := ⟨at_182, rfl⟩
theorem n0_277 : In code 277 (.iconst 1) 1 278 := ⟨at_277, rfl⟩
theorem n0_278 : Jm code 278 (.goto 4) 4 281 282 := ⟨at_278, rfl, by decide, by decide⟩
theorem n0_0 : In code 0 (.lload_n 0) 1 1 := ⟨at_0, rfl⟩
theorem n0_1 : In code 1 (.ldc2_w 9) 3 4 := ⟨at_1, rfl⟩
theorem n0_4 : In code 4 (.lcmp) 1 5 := ⟨at_4, rfl⟩
theorem n0_5 : Jm code 5 (.ifCond .lt 11) 11 8 16 := ⟨at_5, rfl, by decide, by decide⟩
theorem n0_16 : In code 16 (.iconst 1) 1 17 := ⟨at_16, rfl⟩
theorem n0_17 : In code 17 (.ireturn) 1 18 := ⟨at_17, rfl⟩
theorem n0_8 : In code 8 (.lload_n 0) 1 9 := ⟨at_8, rfl⟩
theorem n0_9 : In code 9 (.ldc2_w 11) 3 12 := ⟨at_9, rfl⟩
theorem n0_12 : In code 12 (.lcmp) 1 13 := ⟨at_12, rfl⟩
theorem n0_13 : Jm code 13 (.ifCond .le 5) 5 16 18 := ⟨at_13, rfl, by decide, by decide⟩
theorem n0_18 : In code 18 (.lload_n 0) 1 19 := ⟨at_18, rfl⟩
theorem n0_19 : In code 19 (.lstore 8) 2 21 := ⟨at_19, rfl⟩
theorem n0_21 : In code 21 (.lload 8) 2 23 := ⟨at_21, rfl⟩
theorem n0_23 : In code 23 (.lconst 1) 1 24 := ⟨at_23, rfl⟩
theorem n0_24 : In code 24 (.ladd) 1 25 := ⟨at_24, rfl⟩
theorem n0_25 : In code 25 (.iload_n 2) 1 26 := ⟨at_25, rfl⟩
theorem n0_26 : In code 26 (.bipush 7) 2 28 := ⟨at_26, rfl⟩
theorem n0_28 : In code 28 (.iand) 1 29 := ⟨at_28, rfl⟩
theorem n0_29 : In code 29 (.i2l) 1 30 := ⟨at_29, rfl⟩
theorem n0_30 : In code 30 (.ladd) 1 31 := ⟨at_30, rfl⟩
theorem n0_31 : In code 31 (.lstore 10) 2 33 := ⟨at_31, rfl⟩
theorem n0_33 : In code 33 (.lload 10) 2 35 := ⟨at_33, rfl⟩
theorem n0_35 : In code 35 (.lconst 1) 1 36 := ⟨at_35, rfl⟩
theorem n0_36 : In code 36 (.ladd) 1 37 := ⟨at_36, rfl⟩
theorem n0_37 : In code 37 (.iload_n 2) 1 38 := ⟨at_37, rfl⟩
theorem n0_38 : In code 38 (.iconst 3) 1 39 := ⟨at_38, rfl⟩
theorem n0_39 : In code 39 (.iushr) 1 40 := ⟨at_39, rfl⟩
theorem n0_40 : In code 40 (.bipush 7) 2 42 := ⟨at_40, rfl⟩
theorem n0_42 : In code 42 (.iand) 1 43 := ⟨at_42, rfl⟩
theorem n0_43 : In code 43 (.i2l) 1 44 := ⟨at_43, rfl⟩
theorem n0_44 : In code 44 (.ladd) 1 45 := ⟨at_44, rfl⟩
theorem n0_45 : In code 45 (.lstore 12) 2 47 := ⟨at_45, rfl⟩
theorem n0_47 : In code 47 (.lload_n 0) 1 48 := ⟨at_47, rfl⟩
theorem n0_48 : In code 48 (.iload_n 3) 1 49 := ⟨at_48, rfl⟩
theorem n0_49 : In code 49 (.bipush 31) 2 51 := ⟨at_49, rfl⟩
theorem n0_51 : In code 51 (.iand) 1 52 := ⟨at_51, rfl⟩
theorem n0_52 : In code 52 (.bipush 8) 2 54 := ⟨at_52, rfl⟩
theorem n0_54 : In code 54 (.isub) 1 55 := ⟨at_54, rfl⟩
theorem n0_55 : In code 55 (.i2l) 1 56 := ⟨at_55, rfl⟩
theorem n0_56 : In code 56 (.ladd) 1 57 := ⟨at_56, rfl⟩
theorem n0_57 : In code 57 (.lstore 14) 2 59 := ⟨at_57, rfl⟩
theorem n0_59 : In code 59 (.lload 14) 2 61 := ⟨at_59, rfl⟩
theorem n0_61 : In code 61 (.lconst 1) 1 62 := ⟨at_61, rfl⟩
theorem n0_62 : In code 62 (.ladd) 1 63 := ⟨at_62, rfl⟩
theorem n0_63 : In code 63 (.iload 4) 2 65 := ⟨at_63, rfl⟩
theorem n0_65 : In code 65 (.bipush 31) 2 67 := ⟨at_65, rfl⟩
theorem n0_67 : In code 67 (.iand) 1 68 := ⟨at_67, rfl⟩
theorem n0_68 : In code 68 (.i2l) 1 69 := ⟨at_68, rfl⟩
theorem n0_69 : In code 69 (.ladd) 1 70 := ⟨at_69, rfl⟩
theorem n0_70 : In code 70 (.lstore 16) 2 72 := ⟨at_70, rfl⟩
theorem n0_72 : In code 72 (.iload 7) 2 74 := ⟨at_72, rfl⟩
theorem n0_74 : In code 74 (.iconst 1) 1 75 := ⟨at_74, rfl⟩
theorem n0_75 : In code 75 (.iand) 1 76 := ⟨at_75, rfl⟩
theorem n0_76 : Jm code 76 (.ifCond .eq 10) 10 79 86 := ⟨at_76, rfl, by decide, by decide⟩
theorem n0_86 : In code 86 (.lload_n 0) 1 87 := ⟨at_86, rfl⟩
theorem n0_87 : In code 87 (.lload 5) 2 89 := ⟨at_87, rfl⟩
theorem n0_89 : In code 89 (.ldc2_w 13) 3 92 := ⟨at_89, rfl⟩
theorem n0_92 : In code 92 (.land) 1 93 := ⟨at_92, rfl⟩
theorem n0_93 : In code 93 (.ldc2_w 15) 3 96 := ⟨at_93, rfl⟩
theorem n0_96 : In code 96 (.lsub) 1 97 := ⟨at_96, rfl⟩
theorem n0_97 : In code 97 (.ladd) 1 98 := ⟨at_97, rfl⟩
theorem n0_98 : In code 98 (.lstore 18) 2 100 := ⟨at_98, rfl⟩
theorem n0_79 : In code 79 (.lload 5) 2 81 := ⟨at_79, rfl⟩
theorem n0_81 : In code 81 (.lstore 18) 2 83 := ⟨at_81, rfl⟩
theorem n0_83 : Jm code 83 (.goto 17) 17 86 100 := ⟨at_83, rfl, by decide, by decide⟩
theorem pn_0 : plainFor (⟨"com/example/panoptes/panoptes/CutsPositionPinLaw", "law", "(JIIIJI)Z"⟩ : MethodName) = true := plainFor_of_name (by first | (simp [plainName, overriddenIn]; done) | decide +kernel)
theorem own_eqI {t : Term} {k : Int32} {args : Array Value} {s : State} (h : (Cond.eq t (.int k)).value args s none s [] = some true) : t.eval args s none [] s = some (.int k) := by
  obtain ⟨x, y, h1, h2, h3, -⟩ := cmp_v (Or.inl h)
  cases (Option.some.inj h2 : (Value.int k) = y)
  cases x <;> first | (have := gotT (Cond.eq_ints h1 h2) h; rw [h1, this]; done) | (simp [Kin, Value.isRef] at h3; done)
theorem own_eqL {t : Term} {k : Int64} {args : Array Value} {s : State} (h : (Cond.eq t (.long k)).value args s none s [] = some true) : t.eval args s none [] s = some (.long k) := by
  obtain ⟨x, y, h1, h2, h3, -⟩ := cmp_v (Or.inl h)
  cases (Option.some.inj h2 : (Value.long k) = y)
  cases x <;> first | (have := gotT (eq_L h1 h2) h; rw [h1, this]; done) | (simp [Kin, Value.isRef] at h3; done)
theorem own_eqR {a b : Term} {y : Addr} {args : Array Value} {s : State} (h : (Cond.eq a b).value args s none s [] = some true) (hb : b.eval args s none [] s = some (.ref y)) : a.eval args s none [] s = some (.ref y) := by
  obtain ⟨x, y', h1, h2, h3, h4⟩ := cmp_v (Or.inl h)
  cases h2.symm.trans hb
  have hx : x.isRef = true := h4.2
  have := gotT (eq_R h1 h2 hx rfl) h
  rw [h1, this]
theorem own_nar1 : nar .boolean 1 = 1 := rfl
theorem own_nar0 : nar .boolean 0 = 0 := rfl
/-- the values of the array that the search sees -/
def Vals (cl : Cell) (n : Nat) (g : Nat → Int64) : Prop := cl.slots.size = n ∧ n ≤ 4 ∧ (∀ j, j < n → cl.slots[j]? = some (.long (g j))) ∧ ∀ i j, i < j → j < n → (g i).toInt < (g j).toInt
/-- r is the first place from lo to hi whose value isn't below key -/
def Fst (g : Nat → Int64) (lo hi : Nat) (key : Int64) (r : Nat) : Prop := lo ≤ r ∧ r ≤ hi ∧ (∀ j, lo ≤ j → j < r → (g j).toInt < key.toInt) ∧ ∀ j, r ≤ j → j < hi → key.toInt ≤ (g j).toInt
def own_mid (low high : Int32) : Int32 := ((low + high).toUInt32 >>> ((1 : Int32) &&& 31).toUInt32).toInt32
theorem own_mid_eq {low high : Int32} (h1 : 0 ≤ low.toInt) (h2 : low.toInt ≤ high.toInt) (h3 : high.toInt ≤ 4) : (own_mid low high).toInt = (low.toInt + high.toInt) / 2 := by
  have a := c_iadd low high
  have r := rng32 (low + high)
  have b := c_iushr (low + high) 1 1 (by decide) (by decide)
  unfold own_mid
  rw [b]; omega
theorem own_nat {x : Int32} (h : 0 ≤ x.toInt) : ((x.toNatClampNeg : Nat) : Int) = x.toInt := by
  simp only [Int32.toNatClampNeg]; omega
theorem own_of {n : Nat} (h : n ≤ 100) : (Int32.ofNat n).toInt = n := Int32.toInt_ofNat_of_lt (by omega)
theorem own_eq_of {x : Int32} {n : Nat} (h : n ≤ 100) (e : x.toInt = n) : x = Int32.ofNat n := Int32.toInt_inj.mp (by rw [own_of h, e])

theorem own_hi {r1 r2 : Nat} (h1 : r1 ≤ 4) (h2 : r2 ≤ 4) : (Int32.ofNat r1 + ((Int32.ofNat r2 - Int32.ofNat r1) + 1)) - 1 = Int32.ofNat r2 := by
  have a1 := own_of (n := r1) (by omega)
  have a2 := own_of (n := r2) (by omega)
  have b1 := c_isub (Int32.ofNat r2) (Int32.ofNat r1)
  have b2 := c_iadd (Int32.ofNat r2 - Int32.ofNat r1) 1
  have b3 := c_iadd (Int32.ofNat r1) ((Int32.ofNat r2 - Int32.ofNat r1) + 1)
  have b4 := c_isub (Int32.ofNat r1 + ((Int32.ofNat r2 - Int32.ofNat r1) + 1)) 1
  have c1 := rng32 (Int32.ofNat r2 - Int32.ofNat r1)
  have c2 := rng32 ((Int32.ofNat r2 - Int32.ofNat r1) + 1)
  have c3 := rng32 (Int32.ofNat r1 + ((Int32.ofNat r2 - Int32.ofNat r1) + 1))
  have c4 := rng32 ((Int32.ofNat r1 + ((Int32.ofNat r2 - Int32.ofNat r1) + 1)) - 1)
  have k1 : (1 : Int32).toInt = 1 := by decide
  apply Int32.toInt_inj.mp
  omega

def own_ct (t : Int64) (b : Int32) (f u s : Int64) : Int32 := if b = 0 then 0 else if f < t then (if t < u then (if t < s then 1 else 0) else 0) else 0
theorem own_ct0 (t f u s : Int64) : own_ct t 0 f u s = 0 := rfl
theorem own_ct1 (t f u s : Int64) : (own_ct t 1 f u s = 1 ∧ f.toInt < t.toInt ∧ t.toInt < u.toInt ∧ t.toInt < s.toInt) ∨ (own_ct t 1 f u s = 0 ∧ ¬ (f.toInt < t.toInt ∧ t.toInt < u.toInt ∧ t.toInt < s.toInt)) := by
  simp only [← Int64.lt_iff_toInt_lt]
  unfold own_ct
  by_cases h1 : f < t <;> by_cases h2 : t < u <;> by_cases h3 : t < s <;> simp [h1, h2, h3]
theorem own_r {r1 r3 : Nat} (h1 : r1 ≤ 4) (h3 : r3 ≤ 4) : ((Int32.ofNat r3 - Int32.ofNat r1) + 1).toInt = (r3 : Int) - r1 + 1 := by
  have a1 := own_of (n := r1) (by omega)
  have a2 := own_of (n := r3) (by omega)
  have b1 := c_isub (Int32.ofNat r3) (Int32.ofNat r1)
  have b2 := c_iadd (Int32.ofNat r3 - Int32.ofNat r1) 1
  have c1 := rng32 (Int32.ofNat r3 - Int32.ofNat r1)
  have c2 := rng32 ((Int32.ofNat r3 - Int32.ofNat r1) + 1)
  have k1 : (1 : Int32).toInt = 1 := by decide
  omega
theorem own_n4 (k : Int32) : ((k.toUInt32 >>> ((1 : Int32) &&& 31).toUInt32).toInt32) &&& 3 = 0 ∨ ((k.toUInt32 >>> ((1 : Int32) &&& 31).toUInt32).toInt32) &&& 3 = 1 ∨ ((k.toUInt32 >>> ((1 : Int32) &&& 31).toUInt32).toInt32) &&& 3 = 2 ∨ ((k.toUInt32 >>> ((1 : Int32) &&& 31).toUInt32).toInt32) &&& 3 = 3 := by
  have h := c_mask ((k.toUInt32 >>> ((1 : Int32) &&& 31).toUInt32).toInt32) 3 2 (by decide) (by decide)
  have k0 : (0 : Int32).toInt = 0 := by decide
  have k1 : (1 : Int32).toInt = 1 := by decide
  have k2 : (2 : Int32).toInt = 2 := by decide
  have k3 : (3 : Int32).toInt = 3 := by decide
  rw [← Int32.toInt_inj, ← Int32.toInt_inj, ← Int32.toInt_inj, ← Int32.toInt_inj, h, k0, k1, k2, k3]
  omega
def own_g (t0 t1 t2 : Int64) (j : Nat) : Int64 := if j = 0 then t0 else if j = 1 then t1 else t2
theorem own_one {g : Nat → Int64} {n r1 r2 r3 : Nat} {f u s : Int64} (hf : (f + 1).toInt = f.toInt + 1) (hF1 : Fst g 0 n (f + 1) r1) (hF2 : Fst g r1 n u r2) (hF3 : Fst g r1 r2 s r3) (j : Nat) (hj : j < n) : own_ct (g j) 1 f u s = if r1 ≤ j ∧ j < r3 then 1 else 0 := by
  obtain ⟨a1, a2, a3, a4⟩ := hF1
  obtain ⟨b1, b2, b3, b4⟩ := hF2
  obtain ⟨c1, c2, c3, c4⟩ := hF3
  rcases own_ct1 (g j) f u s with ⟨p, q1, q2, q3⟩ | ⟨p, q⟩
  · rw [p, if_pos]
    have x1 : r1 ≤ j := Nat.le_of_not_lt fun y => by have := a3 j (Nat.zero_le _) y; omega
    have x2 : j < r2 := Nat.lt_of_not_le fun y => by have := b4 j y hj; omega
    have x3 : j < r3 := Nat.lt_of_not_le fun y => by have := c4 j y x2; omega
    exact ⟨x1, x3⟩
  · rw [p, if_neg]
    rintro ⟨x1, x3⟩
    have y1 := a4 j x1 hj
    have y2 := b3 j x1 (by omega)
    have y3 := c3 j x1 x3
    exact q ⟨by omega, y2, y3⟩
theorem own_fin (n : Nat) (hn : n ≤ 3) {t0 t1 t2 f u s : Int64} (hf : (f + 1).toInt = f.toInt + 1) {r1 r2 r3 : Nat} (hF1 : Fst (own_g t0 t1 t2) 0 n (f + 1) r1) (hF2 : Fst (own_g t0 t1 t2) r1 n u r2) (hF3 : Fst (own_g t0 t1 t2) r1 r2 s r3) (b0 b1 b2 : Int32) (e0 : b0 = if 0 < n then 1 else 0) (e1 : b1 = if 1 < n then 1 else 0) (e2 : b2 = if 2 < n then 1 else 0) :
    (Int32.ofNat r3 - Int32.ofNat r1) + 1 = (((1 : Int32) + own_ct t0 b0 f u s) + own_ct t1 b1 f u s) + own_ct t2 b2 f u s := by
  have z1 := hF1.2.1; have z2 := hF2.2.1; have z3 := hF3.1; have z4 := hF3.2.1
  have hr := own_r (r1 := r1) (r3 := r3) (by omega) (by omega)
  have key : ∀ z : Int32, (r3 : Int) - r1 + 1 = z.toInt → (Int32.ofNat r3 - Int32.ofNat r1) + 1 = z := fun z q => Int32.toInt_inj.mp (hr.trans q)
  have g0 : own_ct t0 b0 f u s = if r1 ≤ 0 ∧ 0 < r3 then 1 else 0 := by
    by_cases h : 0 < n
    · rw [e0, if_pos h]; exact own_one hf hF1 hF2 hF3 0 h
    · rw [e0, if_neg h, own_ct0, if_neg (by omega)]
  have g1 : own_ct t1 b1 f u s = if r1 ≤ 1 ∧ 1 < r3 then 1 else 0 := by
    by_cases h : 1 < n
    · rw [e1, if_pos h]; exact own_one hf hF1 hF2 hF3 1 h
    · rw [e1, if_neg h, own_ct0, if_neg (by omega)]
  have g2 : own_ct t2 b2 f u s = if r1 ≤ 2 ∧ 2 < r3 then 1 else 0 := by
    by_cases h : 2 < n
    · rw [e2, if_pos h]; exact own_one hf hF1 hF2 hF3 2 h
    · rw [e2, if_neg h, own_ct0, if_neg (by omega)]
  rw [g0, g1, g2]
  by_cases w0 : r1 ≤ 0 ∧ 0 < r3 <;> by_cases w1 : r1 ≤ 1 ∧ 1 < r3 <;> by_cases w2 : r1 ≤ 2 ∧ 2 < r3
  · rw [if_pos w0, if_pos w1, if_pos w2]; exact key _ (by rw [show ((((1 : Int32) + 1) + 1) + 1).toInt = 4 from by decide]; omega)
  · rw [if_pos w0, if_pos w1, if_neg w2]; exact key _ (by rw [show ((((1 : Int32) + 1) + 1) + 0).toInt = 3 from by decide]; omega)
  · rw [if_pos w0, if_neg w1, if_pos w2]; exact key _ (by rw [show ((((1 : Int32) + 1) + 0) + 1).toInt = 3 from by decide]; omega)
  · rw [if_pos w0, if_neg w1, if_neg w2]; exact key _ (by rw [show ((((1 : Int32) + 1) + 0) + 0).toInt = 2 from by decide]; omega)
  · rw [if_neg w0, if_pos w1, if_pos w2]; exact key _ (by rw [show ((((1 : Int32) + 0) + 1) + 1).toInt = 3 from by decide]; omega)
  · rw [if_neg w0, if_pos w1, if_neg w2]; exact key _ (by rw [show ((((1 : Int32) + 0) + 1) + 0).toInt = 2 from by decide]; omega)
  · rw [if_neg w0, if_neg w1, if_pos w2]; exact key _ (by rw [show ((((1 : Int32) + 0) + 0) + 1).toInt = 2 from by decide]; omega)
  · rw [if_neg w0, if_neg w1, if_neg w2]; exact key _ (by rw [show ((((1 : Int32) + 0) + 0) + 0).toInt = 1 from by decide]; omega)
theorem own_arith (x : Int64) (a b : Int32) (h1 : ¬ x < (-9223372036854775552 : Int64)) (h2 : ¬ (9223372036854775551 : Int64) < x) : x.toInt < ((x + 1) + (a &&& 7).toInt64).toInt ∧ ((x + 1) + (a &&& 7).toInt64).toInt < ((((x + 1) + (a &&& 7).toInt64) + 1) + ((((a.toUInt32 >>> ((3 : Int32) &&& 31).toUInt32).toInt32) &&& 7).toInt64)).toInt ∧ ((x + ((b &&& 31) - 8).toInt64) + 1).toInt = (x + ((b &&& 31) - 8).toInt64).toInt + 1 := by
  rw [Int64.lt_iff_toInt_lt] at h1 h2
  have k1 : (-9223372036854775552 : Int64).toInt = -9223372036854775552 := by decide
  have k2 : (9223372036854775551 : Int64).toInt = 9223372036854775551 := by decide
  have k3 : (1 : Int64).toInt = 1 := by decide
  have k4 : (8 : Int32).toInt = 8 := by decide
  have m1 := c_mask a 7 3 (by decide) (by decide)
  have m2 := c_mask ((a.toUInt32 >>> ((3 : Int32) &&& 31).toUInt32).toInt32) 7 3 (by decide) (by decide)
  have m3 := c_mask b 31 5 (by decide) (by decide)
  have i1 := c_i2l (a &&& 7)
  have i2 := c_i2l (((a.toUInt32 >>> ((3 : Int32) &&& 31).toUInt32).toInt32) &&& 7)
  have s1 := c_isub (b &&& 31) 8
  have s2 := rng32 ((b &&& 31) - 8)
  have i3 := c_i2l ((b &&& 31) - 8)
  have a1 := c_ladd x 1
  have r1 := rng64 (x + 1)
  have a2 := c_ladd (x + 1) (a &&& 7).toInt64
  have r2 := rng64 ((x + 1) + (a &&& 7).toInt64)
  have a3 := c_ladd ((x + 1) + (a &&& 7).toInt64) 1
  have r3 := rng64 (((x + 1) + (a &&& 7).toInt64) + 1)
  have a4 := c_ladd (((x + 1) + (a &&& 7).toInt64) + 1) ((((a.toUInt32 >>> ((3 : Int32) &&& 31).toUInt32).toInt32) &&& 7).toInt64)
  have r4 := rng64 ((((x + 1) + (a &&& 7).toInt64) + 1) + ((((a.toUInt32 >>> ((3 : Int32) &&& 31).toUInt32).toInt32) &&& 7).toInt64))
  have a5 := c_ladd x ((b &&& 31) - 8).toInt64
  have r5 := rng64 (x + ((b &&& 31) - 8).toInt64)
  have a6 := c_ladd (x + ((b &&& 31) - 8).toInt64) 1
  have r6 := rng64 ((x + ((b &&& 31) - 8).toInt64) + 1)
  omega

set_option maxRecDepth 65536 in
set_option maxHeartbeats 40000000 in
theorem bs_turn (l : Launch) (Z : State) (a0 : Array Value) (hw : ∀ d ∈ tables_1, d.before a0 Z = true) (a1 : Addr) (cl : Cell) (lo hi low high : Int32) (key y : Int64) (s7 s8 s9 : Slot) (Qg : Option Value → Heap → List Loc → Prop) (h0 : Heap) {p : Program} {e : Env} {s : State} {m : MethodId} {args : Array Value} {below : List Frame} {meth : Method} {c : Code} {T0 : State} (X0 : Stand p l e ({ frames := 0, cells := 0, slots := 0, locals := 0 } : Room) s m args below meth c T0 [] 0 0) (hx : p.tables.exec = Jvm.exec) (hby : c.code = jdk_65_method_56_code) (hml : c.maxLocals = 10) (hown : s.vm.findClass "java/util/Arrays" = some m.cls) (hret : meth.sig.returnType = (some .int)) (hlk : meth.locks = false) (hZ : Z.Warmed39 s.vm) (e0 : T0.heap = h0) (Ar : Arr Z h0 a1 cl .long) (hs : (s7 = .unset ∧ s8 = .unset ∧ s9 = .unset) ∨ ∃ (u : Int32) (v : Int64), s7 = .val (.int u) ∧ s8 = .val (.long v) ∧ s9 = .second) (hat : ¬ high < low → ¬ ((((low + high).toUInt32 >>> ((1 : Int32) &&& 31).toUInt32).toInt32) < 0 ∨ cl.slots.size ≤ (((low + high).toUInt32 >>> ((1 : Int32) &&& 31).toUInt32).toInt32).toNatClampNeg) ∧ cl.slots[(((low + high).toUInt32 >>> ((1 : Int32) &&& 31).toUInt32).toInt32).toNatClampNeg]? = some (.long y)) (e1 : high < low → Qg (some (.int (-(low + (1 : Int32))))) h0 []) (e2 : ¬ high < low → ¬ y < key → ¬ key < y → Qg (some (.int (((low + high).toUInt32 >>> ((1 : Int32) &&& 31).toUInt32).toInt32))) h0 []) (i1 : ¬ high < low → y < key → Wp p e below s ({ frames := 0, cells := 0, slots := 0, locals := 0 } : Room).cells ({ frames := 0, cells := 0, slots := 0, locals := 0 } : Room).slots Qg T0 (mkF m 8 #[.val (.ref a1), .val (.int lo), .val (.int hi), .val (.long key), .second, .val (.int ((((low + high).toUInt32 >>> ((1 : Int32) &&& 31).toUInt32).toInt32) + (1 : Int32))), .val (.int high), .val (.int (((low + high).toUInt32 >>> ((1 : Int32) &&& 31).toUInt32).toInt32)), .val (.long y), .second] [])) (i2 : ¬ high < low → ¬ y < key → key < y → Wp p e below s ({ frames := 0, cells := 0, slots := 0, locals := 0 } : Room).cells ({ frames := 0, cells := 0, slots := 0, locals := 0 } : Room).slots Qg T0 (mkF m 8 #[.val (.ref a1), .val (.int lo), .val (.int hi), .val (.long key), .second, .val (.int low), .val (.int ((((low + high).toUInt32 >>> ((1 : Int32) &&& 31).toUInt32).toInt32) - (1 : Int32))), .val (.int (((low + high).toUInt32 >>> ((1 : Int32) &&& 31).toUInt32).toInt32)), .val (.long y), .second] [])) : Wp p e below s ({ frames := 0, cells := 0, slots := 0, locals := 0 } : Room).cells ({ frames := 0, cells := 0, slots := 0, locals := 0 } : Room).slots (Qg) T0 (mkF m 8 #[.val (.ref a1), .val (.int lo), .val (.int hi), .val (.long key), .second, .val (.int low), .val (.int high), s7, s8, s9] []) := by
  rcases hs with ⟨rfl, rfl, rfl⟩ | ⟨u, v, rfl, rfl, rfl⟩
  · refine w_iload X0 hx hby n6_8 rfl ?_
    refine w_iload X0 hx hby n6_10 rfl ?_
    refine f_icmp_gt X0 hx hby n6_12 (fun q12 => ?_) (fun q12 => ?_)
    · refine w_iload X0 hx hby n6_68 rfl ?_
      refine w_iconst X0 hx hby (1 : Int32) n6_70 rfl ?_
      refine w_iadd X0 hx hby n6_71 ?_
      refine w_ineg X0 hx hby n6_72 ?_
      refine w_retI X0 hx hby e0 hlk hret n6_73 (by decide) (by decide) ?_
      exact e1 q12
    · refine w_iload X0 hx hby n6_15 rfl ?_
      refine w_iload X0 hx hby n6_17 rfl ?_
      refine w_iadd X0 hx hby n6_19 ?_
      refine w_iconst X0 hx hby (1 : Int32) n6_20 rfl ?_
      refine w_iushr X0 hx hby n6_21 ?_
      refine w_istore X0 hx hby #[.val (.ref a1), .val (.int lo), .val (.int hi), .val (.long key), .second, .val (.int low), .val (.int high), .val (.int (((low + high).toUInt32 >>> ((1 : Int32) &&& 31).toUInt32).toInt32)), .unset, .unset] n6_22 rfl ?_
      refine w_aloadN X0 hx hby n6_24 rfl rfl ?_
      refine w_iload X0 hx hby n6_25 rfl ?_
      refine w_laload X0 hx hby hZ e0 Ar (hat q12).1 (hat q12).2 n6_27 ?_
      refine w_lstore X0 hx hby #[.val (.ref a1), .val (.int lo), .val (.int hi), .val (.long key), .second, .val (.int low), .val (.int high), .val (.int (((low + high).toUInt32 >>> ((1 : Int32) &&& 31).toUInt32).toInt32)), .val (.long y), .second] n6_28 rfl ?_
      refine w_lload X0 hx hby n6_30 rfl ?_
      refine w_lloadN X0 hx hby n6_32 rfl ?_
      refine f_lcmp_ge X0 hx hby n6_33 n6_34 (fun q33 => ?_) (fun q33 => ?_)
      · refine w_lload X0 hx hby n6_46 rfl ?_
        refine w_lloadN X0 hx hby n6_48 rfl ?_
        refine f_lcmp_le X0 hx hby n6_49 n6_50 (fun q49 => ?_) (fun q49 => ?_)
        · refine w_iload X0 hx hby n6_62 rfl ?_
          refine w_retI X0 hx hby e0 hlk hret n6_64 (by decide) (by decide) ?_
          exact e2 q12 q33 q49
        · refine w_iload X0 hx hby n6_53 rfl ?_
          refine w_iconst X0 hx hby (1 : Int32) n6_55 rfl ?_
          refine w_isub X0 hx hby n6_56 ?_
          refine w_istore X0 hx hby #[.val (.ref a1), .val (.int lo), .val (.int hi), .val (.long key), .second, .val (.int low), .val (.int ((((low + high).toUInt32 >>> ((1 : Int32) &&& 31).toUInt32).toInt32) - (1 : Int32))), .val (.int (((low + high).toUInt32 >>> ((1 : Int32) &&& 31).toUInt32).toInt32)), .val (.long y), .second] n6_57 rfl ?_
          refine w_goto X0 hx hby n6_59 ?_
          refine w_goto X0 hx hby n6_65 ?_
          exact i2 q12 q33 q49
      · refine w_iload X0 hx hby n6_37 rfl ?_
        refine w_iconst X0 hx hby (1 : Int32) n6_39 rfl ?_
        refine w_iadd X0 hx hby n6_40 ?_
        refine w_istore X0 hx hby #[.val (.ref a1), .val (.int lo), .val (.int hi), .val (.long key), .second, .val (.int ((((low + high).toUInt32 >>> ((1 : Int32) &&& 31).toUInt32).toInt32) + (1 : Int32))), .val (.int high), .val (.int (((low + high).toUInt32 >>> ((1 : Int32) &&& 31).toUInt32).toInt32)), .val (.long y), .second] n6_41 rfl ?_
        refine w_goto X0 hx hby n6_43 ?_
        refine w_goto X0 hx hby n6_65 ?_
        exact i1 q12 q33
  · refine w_iload X0 hx hby n6_8 rfl ?_
    refine w_iload X0 hx hby n6_10 rfl ?_
    refine f_icmp_gt X0 hx hby n6_12 (fun q12 => ?_) (fun q12 => ?_)
    · refine w_iload X0 hx hby n6_68 rfl ?_
      refine w_iconst X0 hx hby (1 : Int32) n6_70 rfl ?_
      refine w_iadd X0 hx hby n6_71 ?_
      refine w_ineg X0 hx hby n6_72 ?_
      refine w_retI X0 hx hby e0 hlk hret n6_73 (by decide) (by decide) ?_
      exact e1 q12
    · refine w_iload X0 hx hby n6_15 rfl ?_
      refine w_iload X0 hx hby n6_17 rfl ?_
      refine w_iadd X0 hx hby n6_19 ?_
      refine w_iconst X0 hx hby (1 : Int32) n6_20 rfl ?_
      refine w_iushr X0 hx hby n6_21 ?_
      refine w_istore X0 hx hby #[.val (.ref a1), .val (.int lo), .val (.int hi), .val (.long key), .second, .val (.int low), .val (.int high), .val (.int (((low + high).toUInt32 >>> ((1 : Int32) &&& 31).toUInt32).toInt32)), .val (.long v), .second] n6_22 rfl ?_
      refine w_aloadN X0 hx hby n6_24 rfl rfl ?_
      refine w_iload X0 hx hby n6_25 rfl ?_
      refine w_laload X0 hx hby hZ e0 Ar (hat q12).1 (hat q12).2 n6_27 ?_
      refine w_lstore X0 hx hby #[.val (.ref a1), .val (.int lo), .val (.int hi), .val (.long key), .second, .val (.int low), .val (.int high), .val (.int (((low + high).toUInt32 >>> ((1 : Int32) &&& 31).toUInt32).toInt32)), .val (.long y), .second] n6_28 rfl ?_
      refine w_lload X0 hx hby n6_30 rfl ?_
      refine w_lloadN X0 hx hby n6_32 rfl ?_
      refine f_lcmp_ge X0 hx hby n6_33 n6_34 (fun q33 => ?_) (fun q33 => ?_)
      · refine w_lload X0 hx hby n6_46 rfl ?_
        refine w_lloadN X0 hx hby n6_48 rfl ?_
        refine f_lcmp_le X0 hx hby n6_49 n6_50 (fun q49 => ?_) (fun q49 => ?_)
        · refine w_iload X0 hx hby n6_62 rfl ?_
          refine w_retI X0 hx hby e0 hlk hret n6_64 (by decide) (by decide) ?_
          exact e2 q12 q33 q49
        · refine w_iload X0 hx hby n6_53 rfl ?_
          refine w_iconst X0 hx hby (1 : Int32) n6_55 rfl ?_
          refine w_isub X0 hx hby n6_56 ?_
          refine w_istore X0 hx hby #[.val (.ref a1), .val (.int lo), .val (.int hi), .val (.long key), .second, .val (.int low), .val (.int ((((low + high).toUInt32 >>> ((1 : Int32) &&& 31).toUInt32).toInt32) - (1 : Int32))), .val (.int (((low + high).toUInt32 >>> ((1 : Int32) &&& 31).toUInt32).toInt32)), .val (.long y), .second] n6_57 rfl ?_
          refine w_goto X0 hx hby n6_59 ?_
          refine w_goto X0 hx hby n6_65 ?_
          exact i2 q12 q33 q49
      · refine w_iload X0 hx hby n6_37 rfl ?_
        refine w_iconst X0 hx hby (1 : Int32) n6_39 rfl ?_
        refine w_iadd X0 hx hby n6_40 ?_
        refine w_istore X0 hx hby #[.val (.ref a1), .val (.int lo), .val (.int hi), .val (.long key), .second, .val (.int ((((low + high).toUInt32 >>> ((1 : Int32) &&& 31).toUInt32).toInt32) + (1 : Int32))), .val (.int high), .val (.int (((low + high).toUInt32 >>> ((1 : Int32) &&& 31).toUInt32).toInt32)), .val (.long y), .second] n6_41 rfl ?_
        refine w_goto X0 hx hby n6_43 ?_
        refine w_goto X0 hx hby n6_65 ?_
        exact i1 q12 q33
theorem bs_loop (l : Launch) (Z : State) (a0 : Array Value) (hw : ∀ d ∈ tables_1, d.before a0 Z = true) (a1 : Addr) (cl : Cell) (n lo hi : Nat) (g : Nat → Int64) (key : Int64) (h0 : Heap) {p : Program} {e : Env} {s : State} {m : MethodId} {args : Array Value} {below : List Frame} {meth : Method} {c : Code} {T0 : State} (X0 : Stand p l e ({ frames := 0, cells := 0, slots := 0, locals := 0 } : Room) s m args below meth c T0 [] 0 0) (hx : p.tables.exec = Jvm.exec) (hby : c.code = jdk_65_method_56_code) (hml : c.maxLocals = 10) (hown : s.vm.findClass "java/util/Arrays" = some m.cls) (hret : meth.sig.returnType = (some .int)) (hlk : meth.locks = false) (hZ : Z.Warmed39 s.vm) (e0 : T0.heap = h0) (Ar : Arr Z h0 a1 cl .long) (hV : Vals cl n g) (hhi : hi ≤ n) (lo' hi' : Int32) :
    ∀ (k : Nat) (low high : Int32) (s7 s8 s9 : Slot), high.toInt + 1 - low.toInt = k → lo ≤ low.toInt → high.toInt < hi → (∀ j : Nat, lo ≤ j → (j : Int) < low.toInt → (g j).toInt < key.toInt) → (∀ j : Nat, high.toInt < j → j < hi → key.toInt < (g j).toInt) → ((s7 = .unset ∧ s8 = .unset ∧ s9 = .unset) ∨ ∃ (u : Int32) (v : Int64), s7 = .val (.int u) ∧ s8 = .val (.long v) ∧ s9 = .second) →
      Wp p e below s ({ frames := 0, cells := 0, slots := 0, locals := 0 } : Room).cells ({ frames := 0, cells := 0, slots := 0, locals := 0 } : Room).slots (fun v h L => ∃ r, Fst g lo hi key r ∧ (v = some (.int (Int32.ofNat r)) ∨ v = some (.int (-(Int32.ofNat r + 1)))) ∧ h = h0 ∧ L = []) T0 (mkF m 8 #[.val (.ref a1), .val (.int lo'), .val (.int hi'), .val (.long key), .second, .val (.int low), .val (.int high), s7, s8, s9] []) := by
  obtain ⟨hsz, hn4, hval, hsort⟩ := hV
  intro k
  induction k using Nat.strongRecOn with
  | ind k ih =>
    intro low high s7 s8 s9 hk hlo hhig hA hB hs
    have hone : (1 : Int32).toInt = 1 := by decide
    by_cases hc : high < low
    · refine bs_turn l Z a0 hw a1 cl lo' hi' low high key 0 s7 s8 s9 _ h0 X0 hx hby hml hown hret hlk hZ e0 Ar hs (fun q => absurd hc q) (fun _ => ?_) (fun q => absurd hc q) (fun q => absurd hc q) (fun q => absurd hc q)
      rw [Int32.lt_iff_toInt_lt] at hc
      have e1 : low = Int32.ofNat low.toInt.toNat := own_eq_of (by omega) (by omega)
      refine ⟨low.toInt.toNat, ⟨by omega, by omega, fun j q1 q2 => hA j q1 (by omega), fun j q1 q2 => Int.le_of_lt (hB j (by omega) q2)⟩, Or.inr ?_, rfl, rfl⟩
      rw [← e1]
    · have hc' := hc
      rw [Int32.lt_iff_toInt_lt] at hc'
      have hm := own_mid_eq (low := low) (high := high) (by omega) (by omega) (by omega)
      have hmn := own_nat (x := own_mid low high) (by omega)
      have hjn : (own_mid low high).toNatClampNeg < n := by omega
      have hg := hval _ hjn
      have k0 : (0 : Int32).toInt = 0 := by decide
      have hin : ¬ (own_mid low high < 0 ∨ cl.slots.size ≤ (own_mid low high).toNatClampNeg) := by rw [Int32.lt_iff_toInt_lt]; omega
      refine bs_turn l Z a0 hw a1 cl lo' hi' low high key (g (own_mid low high).toNatClampNeg) s7 s8 s9 _ h0 X0 hx hby hml hown hret hlk hZ e0 Ar hs (fun _ => ⟨hin, hg⟩) (fun q => absurd q hc) (fun _ q1 q2 => ?_) (fun _ q1 => ?_) (fun _ q1 q2 => ?_)
      · rw [Int64.lt_iff_toInt_lt] at q1 q2
        have e1 : own_mid low high = Int32.ofNat (own_mid low high).toNatClampNeg := own_eq_of (by omega) (by omega)
        refine ⟨(own_mid low high).toNatClampNeg, ⟨by omega, by omega, fun j u1 u2 => ?_, fun j u1 u2 => ?_⟩, Or.inl ?_, rfl, rfl⟩
        · have := hsort j _ u2 hjn; omega
        · rcases Nat.eq_or_lt_of_le u1 with u | u
          · rw [← u]; omega
          · have := hsort _ j u (by omega); omega
        · rw [← e1]; rfl
      · rw [Int64.lt_iff_toInt_lt] at q1
        have ha := c_iadd (own_mid low high) 1
        have hr := rng32 (own_mid low high + 1)
        have e2 : (own_mid low high + 1).toInt = (own_mid low high).toInt + 1 := by omega
        refine ih (high.toInt + 1 - (own_mid low high + 1).toInt).toNat (by omega) (own_mid low high + 1) high _ _ _ (by omega) (by omega) hhig (fun j u1 u2 => ?_) hB (Or.inr ⟨_, _, rfl, rfl, rfl⟩)
        rcases Nat.lt_or_eq_of_le (show j ≤ (own_mid low high).toNatClampNeg by omega) with u | u
        · have := hsort j _ u hjn; omega
        · rw [u]; exact q1
      · rw [Int64.lt_iff_toInt_lt] at q2
        have ha := c_isub (own_mid low high) 1
        have hr := rng32 (own_mid low high - 1)
        have e2 : (own_mid low high - 1).toInt = (own_mid low high).toInt - 1 := by omega
        refine ih ((own_mid low high - 1).toInt + 1 - low.toInt).toNat (by omega) low (own_mid low high - 1) _ _ _ (by omega) hlo (by omega) hA (fun j u1 u2 => ?_) (Or.inr ⟨_, _, rfl, rfl, rfl⟩)
        rcases Nat.lt_or_eq_of_le (show (own_mid low high).toNatClampNeg ≤ j by omega) with u | u
        · have := hsort _ j u (by omega); omega
        · rw [← u]; exact q2
set_option maxRecDepth 65536 in
set_option maxHeartbeats 4000000 in
theorem ef_rb0 (m : MethodId) (x0 : Addr) (x1 : Int32) (x2 : Int32) (x3 : Int64) : entryFrame m #[(.ref x0), (.int x1), (.int x2), (.long x3)] 10 = mkF m 0 #[.val (.ref x0), .val (.int x1), .val (.int x2), .val (.long x3), .second, .unset, .unset, .unset, .unset, .unset] [] := by first | (simp [entryFrame, mkF, argsToLocals, Value.category]; done) | rfl
set_option maxRecDepth 65536 in
set_option maxHeartbeats 40000000 in
theorem rb0 (l : Launch) (Z : State) (a0 : Array Value) (hw : ∀ d ∈ tables_1, d.before a0 Z = true) (a1 : Addr) (cl : Cell) (n lo hi : Nat) (g : Nat → Int64) (key : Int64) (h0 : Heap) (Ar : Arr Z h0 a1 cl .long) (hV : Vals cl n g) (hlo : lo ≤ hi) (hhi : hi ≤ n) : Con l Z (⟨"java/util/Arrays", "binarySearch0", "([JIIJ)I"⟩ : MethodName) jdk_65_method_56_code 10 (some .int) ({ frames := 0, cells := 0, slots := 0, locals := 0 } : Room) #[(.ref a1), (.int (Int32.ofNat lo)), (.int (Int32.ofNat hi)), (.long key)] h0 (fun v h L => ∃ r, Fst g lo hi key r ∧ (v = some (.int (Int32.ofNat r)) ∨ v = some (.int (-(Int32.ofNat r + 1)))) ∧ h = h0 ∧ L = []) := by
  refine w_body (Ls := #[.val (.ref a1), .val (.int (Int32.ofNat lo)), .val (.int (Int32.ofNat hi)), .val (.long key), .second, .unset, .unset, .unset, .unset, .unset]) pn_6 (fun m => ef_rb0 m a1 (Int32.ofNat lo) (Int32.ofNat hi) key) ?_
  intro p e s m below meth c T0 X0 hx hby hml hown hnm hret hlk hZ e0
  refine w_iloadN X0 hx hby n6_0 rfl ?_
  refine w_istore X0 hx hby #[.val (.ref a1), .val (.int (Int32.ofNat lo)), .val (.int (Int32.ofNat hi)), .val (.long key), .second, .val (.int (Int32.ofNat lo)), .unset, .unset, .unset, .unset] n6_1 rfl ?_
  refine w_iloadN X0 hx hby n6_3 rfl ?_
  refine w_iconst X0 hx hby (1 : Int32) n6_4 rfl ?_
  refine w_isub X0 hx hby n6_5 ?_
  refine w_istore X0 hx hby #[.val (.ref a1), .val (.int (Int32.ofNat lo)), .val (.int (Int32.ofNat hi)), .val (.long key), .second, .val (.int (Int32.ofNat lo)), .val (.int ((Int32.ofNat hi) - (1 : Int32))), .unset, .unset, .unset] n6_6 rfl ?_
  obtain ⟨-, hn4, -, -⟩ := id hV
  have o1 := own_of (n := lo) (by omega); have o2 := own_of (n := hi) (by omega); have o3 := c_isub (Int32.ofNat hi) 1; have o4 := rng32 (Int32.ofNat hi - 1); have o5 : (1 : Int32).toInt = 1 := by decide
  exact bs_loop l Z a0 hw a1 cl n lo hi g key h0 X0 hx hby hml hown hret hlk hZ e0 Ar hV hhi _ _ (hi - lo) _ _ _ _ _ (by omega) (by omega) (by omega) (fun j u1 u2 => by omega) (fun j u1 u2 => by omega) (Or.inl ⟨rfl, rfl, rfl⟩)
set_option maxRecDepth 65536 in
set_option maxHeartbeats 4000000 in
theorem ef_rb1 (m : MethodId) (x0 : Int32) (x1 : Int32) (x2 : Int32) : entryFrame m #[(.int x0), (.int x1), (.int x2)] 3 = mkF m 0 #[.val (.int x0), .val (.int x1), .val (.int x2)] [] := by first | (simp [entryFrame, mkF, argsToLocals, Value.category]; done) | rfl
set_option maxRecDepth 65536 in
set_option maxHeartbeats 40000000 in
theorem rb1 (l : Launch) (Z : State) (a0 : Array Value) (hw : ∀ d ∈ tables_1, d.before a0 Z = true) (n lo hi : Nat) (h0 : Heap) (hn4 : n ≤ 4) (hlo : lo ≤ hi) (hhi : hi ≤ n) : Con l Z (⟨"java/util/Arrays", "rangeCheck", "(III)V"⟩ : MethodName) jdk_65_method_30_code 3 none ({ frames := 0, cells := 0, slots := 0, locals := 0 } : Room) #[(.int (Int32.ofNat n)), (.int (Int32.ofNat lo)), (.int (Int32.ofNat hi))] h0 (fun v h L => v = none ∧ h = h0 ∧ L = []) := by
  refine w_body (Ls := #[.val (.int (Int32.ofNat n)), .val (.int (Int32.ofNat lo)), .val (.int (Int32.ofNat hi))]) pn_5 (fun m => ef_rb1 m (Int32.ofNat n) (Int32.ofNat lo) (Int32.ofNat hi)) ?_
  intro p e s m below meth c T0 X0 hx hby hml hown hnm hret hlk hZ e0
  refine w_iloadN X0 hx hby n5_0 rfl ?_
  refine w_iloadN X0 hx hby n5_1 rfl ?_
  refine f_icmp_le X0 hx hby n5_2 (fun q2 => ?_) (fun q2 => by rw [Int32.lt_iff_toInt_lt, own_of (by omega), own_of (by omega)] at q2; omega)
  refine w_iloadN X0 hx hby n5_46 rfl ?_
  refine f_if_ge X0 hx hby n5_47 (fun q47 => ?_) (fun q47 => by rw [Int32.lt_iff_toInt_lt, own_of (by omega)] at q47; have : (0 : Int32).toInt = 0 := (by decide); omega)
  refine w_iloadN X0 hx hby n5_59 rfl ?_
  refine w_iloadN X0 hx hby n5_60 rfl ?_
  refine f_icmp_le X0 hx hby n5_61 (fun q61 => ?_) (fun q61 => by rw [Int32.lt_iff_toInt_lt, own_of (by omega), own_of (by omega)] at q61; omega)
  refine w_retV X0 hx hby e0 hlk hret n5_73 (by decide) (by decide) ?_
  exact ⟨rfl, rfl, rfl⟩
set_option maxRecDepth 65536 in
set_option maxHeartbeats 4000000 in
theorem ef_rb2 (m : MethodId) (x0 : Addr) (x1 : Int32) (x2 : Int32) (x3 : Int64) : entryFrame m #[(.ref x0), (.int x1), (.int x2), (.long x3)] 5 = mkF m 0 #[.val (.ref x0), .val (.int x1), .val (.int x2), .val (.long x3), .second] [] := by first | (simp [entryFrame, mkF, argsToLocals, Value.category]; done) | rfl
set_option maxRecDepth 65536 in
set_option maxHeartbeats 40000000 in
theorem rb2 (l : Launch) (Z : State) (a0 : Array Value) (hw : ∀ d ∈ tables_1, d.before a0 Z = true) (a1 : Addr) (cl : Cell) (n lo hi : Nat) (g : Nat → Int64) (key : Int64) (h0 : Heap) (Ar : Arr Z h0 a1 cl .long) (hV : Vals cl n g) (hlo : lo ≤ hi) (hhi : hi ≤ n) : Con l Z (⟨"java/util/Arrays", "binarySearch", "([JIIJ)I"⟩ : MethodName) jdk_65_method_55_code 5 (some .int) ({ frames := 1, cells := 0, slots := 0, locals := 21 } : Room) #[(.ref a1), (.int (Int32.ofNat lo)), (.int (Int32.ofNat hi)), (.long key)] h0 (fun v h L => ∃ r, Fst g lo hi key r ∧ (v = some (.int (Int32.ofNat r)) ∨ v = some (.int (-(Int32.ofNat r + 1)))) ∧ h = h0 ∧ L = []) := by
  refine w_body (Ls := #[.val (.ref a1), .val (.int (Int32.ofNat lo)), .val (.int (Int32.ofNat hi)), .val (.long key), .second]) pn_4 (fun m => ef_rb2 m a1 (Int32.ofNat lo) (Int32.ofNat hi) key) ?_
  intro p e s m below meth c T0 X0 hx hby hml hown hnm hret hlk hZ e0
  refine w_aloadN X0 hx hby n4_0 rfl rfl ?_
  refine w_arraylength X0 hx hby hZ e0 Ar (z := Int32.ofNat n) (by rw [hV.1]) n4_1 ?_
  refine w_iloadN X0 hx hby n4_2 rfl ?_
  refine w_iloadN X0 hx hby n4_3 rfl ?_
  refine w_called (call_S X0 hx hby hZ hown (argsL := [(.int (Int32.ofNat n)), (.int (Int32.ofNat lo)), (.int (Int32.ofNat hi))]) (rest := []) (Wd := 0) (hw _ t_23) (hw _ t_24) (hw _ t_21) (hw _ t_25) (by decide) (rb1 l Z a0 hw n lo hi h0 hV.2.1 hlo hhi) rfl n4_4 (by rw [hml]; rfl) (lenOf pd_3734 rfl) rfl (by decide) (by decide) (by decide) (by decide) e0) fun v1 T1 L1 X1 Q1 => ?_
  obtain ⟨rfl, hh1, rfl⟩ := Q1
  show Wp p e below s _ _ _ T1 (mkF m 7 #[.val (.ref a1), .val (.int (Int32.ofNat lo)), .val (.int (Int32.ofNat hi)), .val (.long key), .second] [])
  refine w_aloadN X1 hx hby n4_7 rfl rfl ?_
  refine w_iloadN X1 hx hby n4_8 rfl ?_
  refine w_iloadN X1 hx hby n4_9 rfl ?_
  refine w_lloadN X1 hx hby n4_10 rfl ?_
  refine w_called (call_S X1 hx hby hZ hown (argsL := [(.ref a1), (.int (Int32.ofNat lo)), (.int (Int32.ofNat hi)), (.long key)]) (rest := []) (Wd := 0) (hw _ t_26) (hw _ t_27) (hw _ t_21) (hw _ t_28) (by decide) (rb0 l Z a0 hw a1 cl n lo hi g key h0 Ar hV hlo hhi) rfl n4_11 (by rw [hml]; rfl) (lenOf pd_5650 rfl) rfl (by decide) (by decide) (by decide) (by decide) hh1) fun v2 T2 L2 X2 Q2 => ?_
  obtain ⟨r, hF, hv, hh2, rfl⟩ := Q2
  obtain ⟨z, rfl, hz⟩ : ∃ z, v2 = some (.int z) ∧ (z = Int32.ofNat r ∨ z = -(Int32.ofNat r + 1)) := hv.elim (fun q => ⟨_, q, Or.inl rfl⟩) (fun q => ⟨_, q, Or.inr rfl⟩)
  show Wp p e below s _ _ _ T2 (mkF m 14 #[.val (.ref a1), .val (.int (Int32.ofNat lo)), .val (.int (Int32.ofNat hi)), .val (.long key), .second] [(.int z)])
  refine w_retI X2 hx hby hh2 hlk hret n4_14 (by decide) (by decide) ?_
  exact ⟨r, hF, hz.elim (fun q => Or.inl (by rw [q])) (fun q => Or.inr (by rw [q])), rfl, rfl⟩
set_option maxRecDepth 65536 in
set_option maxHeartbeats 4000000 in
theorem ef_rb3 (m : MethodId) (x0 : Addr) (x1 : Int32) (x2 : Int32) (x3 : Int64) : entryFrame m #[(.ref x0), (.int x1), (.int x2), (.long x3)] 6 = mkF m 0 #[.val (.ref x0), .val (.int x1), .val (.int x2), .val (.long x3), .second, .unset] [] := by first | (simp [entryFrame, mkF, argsToLocals, Value.category]; done) | rfl
set_option maxRecDepth 65536 in
set_option maxHeartbeats 40000000 in
theorem rb3 (l : Launch) (Z : State) (a0 : Array Value) (hw : ∀ d ∈ tables_1, d.before a0 Z = true) (a1 : Addr) (cl : Cell) (n lo hi : Nat) (g : Nat → Int64) (key : Int64) (h0 : Heap) (Ar : Arr Z h0 a1 cl .long) (hV : Vals cl n g) (hlo : lo ≤ hi) (hhi : hi ≤ n) : Con l Z (⟨"com/example/panoptes/panoptes/Cuts", "firstNotBefore", "([JIIJ)I"⟩ : MethodName) prog_6_method_5_code 6 (some .int) ({ frames := 2, cells := 0, slots := 0, locals := 37 } : Room) #[(.ref a1), (.int (Int32.ofNat lo)), (.int (Int32.ofNat hi)), (.long key)] h0 (fun v h L => ∃ r, Fst g lo hi key r ∧ v = some (.int (Int32.ofNat r)) ∧ h = h0 ∧ L = []) := by
  refine w_body (Ls := #[.val (.ref a1), .val (.int (Int32.ofNat lo)), .val (.int (Int32.ofNat hi)), .val (.long key), .second, .unset]) pn_3 (fun m => ef_rb3 m a1 (Int32.ofNat lo) (Int32.ofNat hi) key) ?_
  intro p e s m below meth c T0 X0 hx hby hml hown hnm hret hlk hZ e0
  refine w_aloadN X0 hx hby n3_0 rfl rfl ?_
  refine w_iloadN X0 hx hby n3_1 rfl ?_
  refine w_iloadN X0 hx hby n3_2 rfl ?_
  refine w_lloadN X0 hx hby n3_3 rfl ?_
  refine w_called (call_S X0 hx hby hZ hown (argsL := [(.ref a1), (.int (Int32.ofNat lo)), (.int (Int32.ofNat hi)), (.long key)]) (rest := []) (Wd := 0) (hw _ t_19) (hw _ t_20) (hw _ t_21) (hw _ t_22) (by decide) (rb2 l Z a0 hw a1 cl n lo hi g key h0 Ar hV hlo hhi) rfl n3_4 (by rw [hml]; rfl) (lenOf pd_5650 rfl) rfl (by decide) (by decide) (by decide) (by decide) e0) fun v1 T1 L1 X1 Q1 => ?_
  obtain ⟨r, hF, hv, hh1, rfl⟩ := Q1
  obtain ⟨z, rfl, hz⟩ : ∃ z, v1 = some (.int z) ∧ (z = Int32.ofNat r ∨ z = -(Int32.ofNat r + 1)) := hv.elim (fun q => ⟨_, q, Or.inl rfl⟩) (fun q => ⟨_, q, Or.inr rfl⟩)
  show Wp p e below s _ _ _ T1 (mkF m 7 #[.val (.ref a1), .val (.int (Int32.ofNat lo)), .val (.int (Int32.ofNat hi)), .val (.long key), .second, .unset] [(.int z)])
  refine w_istore X1 hx hby #[.val (.ref a1), .val (.int (Int32.ofNat lo)), .val (.int (Int32.ofNat hi)), .val (.long key), .second, .val (.int z)] n3_7 rfl ?_
  refine w_iload X1 hx hby n3_9 rfl ?_
  refine f_if_lt X1 hx hby n3_11 (fun q11 => ?_) (fun q11 => ?_)
  · refine w_iload X1 hx hby n3_19 rfl ?_
    refine w_ineg X1 hx hby n3_21 ?_
    refine w_iconst X1 hx hby (1 : Int32) n3_22 rfl ?_
    refine w_isub X1 hx hby n3_23 ?_
    refine w_retI X1 hx hby hh1 hlk hret n3_24 (by decide) (by decide) ?_
    obtain ⟨-, hn4, -, -⟩ := id hV; obtain ⟨f1, f2, -, -⟩ := id hF; have o1 := own_of (n := r) (by omega); have o5 : (1 : Int32).toInt = 1 := (by decide); have o6 : (0 : Int32).toInt = 0 := (by decide); have o7 := c_iadd (Int32.ofNat r) 1; have o8 := rng32 (Int32.ofNat r + 1); have o9 := c_ineg (Int32.ofNat r + 1); have o10 := rng32 (-(Int32.ofNat r + 1))
    exact ⟨r, hF, hz.elim (fun q => by rw [q, Int32.lt_iff_toInt_lt] at q11; omega) (fun q => by rw [q, Int32.neg_neg, Int32.add_sub_cancel]), rfl, rfl⟩
  · refine w_iload X1 hx hby n3_14 rfl ?_
    refine w_goto X1 hx hby n3_16 ?_
    refine w_retI X1 hx hby hh1 hlk hret n3_24 (by decide) (by decide) ?_
    obtain ⟨-, hn4, -, -⟩ := id hV; obtain ⟨f1, f2, -, -⟩ := id hF; have o1 := own_of (n := r) (by omega); have o5 : (1 : Int32).toInt = 1 := (by decide); have o6 : (0 : Int32).toInt = 0 := (by decide); have o7 := c_iadd (Int32.ofNat r) 1; have o8 := rng32 (Int32.ofNat r + 1); have o9 := c_ineg (Int32.ofNat r + 1); have o10 := rng32 (-(Int32.ofNat r + 1))
    exact ⟨r, hF, hz.elim (fun q => by rw [q]) (fun q => absurd (by rw [q, Int32.lt_iff_toInt_lt]; omega) q11), rfl, rfl⟩
set_option maxRecDepth 65536 in
set_option maxHeartbeats 4000000 in
theorem ef_rci (m : MethodId) (x0 : Addr) (x1 : Addr) (x2 : Int64) (x3 : Int64) : entryFrame m #[(.ref x0), (.ref x1), (.long x2), (.long x3)] 6 = mkF m 0 #[.val (.ref x0), .val (.ref x1), .val (.long x2), .second, .val (.long x3), .second] [] := by first | (simp [entryFrame, mkF, argsToLocals, Value.category]; done) | rfl
set_option maxRecDepth 65536 in
set_option maxHeartbeats 40000000 in
theorem rci (l : Launch) (Z : State) (a0 : Array Value) (hw : ∀ d ∈ tables_1, d.before a0 Z = true) (a1 a2 : Addr) (cl : Cell) (n : Nat) (g : Nat → Int64) (f t : Int64) (h0 : Heap) (n0 : Nat) (Z0 : n0 ≤ h0.size) (g1 : n0 ≤ a1) (E1 : Exa Z h0 a1 "com/example/panoptes/panoptes/Cuts") (F_timestamps : Fld Z h0 a1 "com/example/panoptes/panoptes/Cuts" "timestamps" "[J" .null) (F_inside : Fld Z h0 a1 "com/example/panoptes/panoptes/Cuts" "inside" "I" (.int (0 : Int32))) (F_intervals : Fld Z h0 a1 "com/example/panoptes/panoptes/Cuts" "intervals" "I" (.int (0 : Int32))) (F_from : Fld Z h0 a1 "com/example/panoptes/panoptes/Cuts" "from" "J" (.long (0 : Int64))) (F_to : Fld Z h0 a1 "com/example/panoptes/panoptes/Cuts" "to" "J" (.long (0 : Int64))) (A2 : Arr Z h0 a2 cl .long) (ne21 : a2 ≠ a1) (hV : Vals cl n g) : Con l Z (⟨"com/example/panoptes/panoptes/Cuts", "<init>", "([JJJ)V"⟩ : MethodName) prog_6_method_1_code 6 none ({ frames := 3, cells := 0, slots := 0, locals := 55 } : Room) #[(.ref a1), (.ref a2), (.long f), (.long t)] h0 (fun v h L => v = none ∧ Fr n0 L ∧ Keep h0 h [a1] ∧ Exa Z h a1 "com/example/panoptes/panoptes/Cuts" ∧ ∃ r1 r2 : Nat, Fst g 0 n (f + 1) r1 ∧ Fst g r1 n t r2 ∧ Fld Z h a1 "com/example/panoptes/panoptes/Cuts" "timestamps" "[J" (.ref a2) ∧ Fld Z h a1 "com/example/panoptes/panoptes/Cuts" "inside" "I" (.int (Int32.ofNat r1)) ∧ Fld Z h a1 "com/example/panoptes/panoptes/Cuts" "intervals" "I" (.int ((Int32.ofNat r2 - Int32.ofNat r1) + 1)) ∧ Fld Z h a1 "com/example/panoptes/panoptes/Cuts" "from" "J" (.long f) ∧ Fld Z h a1 "com/example/panoptes/panoptes/Cuts" "to" "J" (.long t)) := by
  refine w_body (Ls := #[.val (.ref a1), .val (.ref a2), .val (.long f), .second, .val (.long t), .second]) pn_1 (fun m => ef_rci m a1 a2 f t) ?_
  intro p e s m below meth c T0 X0 hx hby hml hown hnm hret hlk hZ e0
  refine w_aloadN X0 hx hby n1_0 rfl rfl ?_
  refine w_initO X0 hx hby hZ hown (by rw [hml]; rfl) (Wd := 0) (hw _ t_11) (hw _ t_12) (hw _ t_13) e0 n1_1 (by decide) rfl (by decide) fun T1 X1 e1 => ?_
  refine w_aloadN X1 hx hby n1_4 rfl rfl ?_
  refine w_aloadN X1 hx hby n1_5 rfl rfl ?_
  refine w_putFN X1 hx hby hZ hown (hw _ t_14) Via.refl e1 F_timestamps E1 (Or.inr ⟨(hw _ t_15), rfl, hnm⟩) (hw _ t_6) (ty := (.array .long)) (by decide) rfl rfl n1_6 fun T2 h2 X2 e2 W2 => ?_
  have P2 := F_timestamps.same W2
  have N2 := Fr.snoc X2 (Fr.nil n0) g1
  have z3 : h0.size ≤ h2.size := Nat.le_trans (Nat.le_refl h0.size) (Keep.of_wr W2).1
  have k3 : Keep h0 h2 [a1] := (Keep.refl h0 [a1]).wr W2 (Or.inl (List.mem_of_getElem? (i := 0) rfl))
  refine w_aloadN X2 hx hby n1_9 rfl rfl ?_
  refine w_aloadN X2 hx hby n1_10 rfl rfl ?_
  refine w_iconst X2 hx hby (0 : Int32) n1_11 rfl ?_
  refine w_aloadN X2 hx hby n1_12 rfl rfl ?_
  have f4 := (A2.other W2 ne21)
  refine w_arraylength X2 hx hby hZ e2 f4 (z := Int32.ofNat n) (by rw [hV.1]) n1_13 ?_
  refine w_lloadN X2 hx hby n1_14 rfl ?_
  refine w_lconst X2 hx hby (1 : Int64) n1_15 rfl ?_
  refine w_ladd X2 hx hby n1_16 ?_
  refine w_called (call_S X2 hx hby hZ hown (argsL := [(.ref a2), (.int (0 : Int32)), (.int (Int32.ofNat n)), (.long (f + (1 : Int64)))]) (rest := [(.ref a1)]) (Wd := 1) (hw _ t_16) (hw _ t_17) (hw _ t_7) (hw _ t_18) (by decide) (rb3 l Z a0 hw a2 cl n 0 n g (f + (1 : Int64)) h2 f4 hV (Nat.zero_le _) (Nat.le_refl _)) rfl n1_17 (by rw [hml]; rfl) (lenOf pd_5650 rfl) rfl (by decide) (by decide) (by decide) (by decide) e2) fun v5 T5 L5 X5 Q5 => ?_
  obtain ⟨r1, hF1, rfl, hh5, rfl⟩ := Q5
  rw [List.append_nil] at X5
  show Wp p e below s _ _ _ T5 (mkF m 20 #[.val (.ref a1), .val (.ref a2), .val (.long f), .second, .val (.long t), .second] [(.int (Int32.ofNat r1)), (.ref a1)])
  have f6 := (F_inside.other W2 (Or.inr (slot_ne (Or.inr (hw _ t_30)) (Or.inr (hw _ t_15)) (by decide) (t := .int) (t' := (.array .long)) (by decide) (by decide))))
  have f7 := (E1.wr W2)
  refine w_putFN X5 hx hby hZ hown (hw _ t_29) Via.refl hh5 f6 f7 (Or.inr ⟨(hw _ t_30), rfl, hnm⟩) (hw _ t_6) (ty := .int) (by decide) rfl rfl n1_20 fun T8 h8 X8 e8 W8 => ?_
  have P8 := f6.same W8
  have N8 := Fr.snoc X8 N2 g1
  have z9 : h0.size ≤ h8.size := Nat.le_trans z3 (Keep.of_wr W8).1
  have k9 : Keep h0 h8 [a1] := k3.wr W8 (Or.inl (List.mem_of_getElem? (i := 0) rfl))
  refine w_aloadN X8 hx hby n1_23 rfl rfl ?_
  refine w_aloadN X8 hx hby n1_24 rfl rfl ?_
  refine w_aloadN X8 hx hby n1_25 rfl rfl ?_
  refine w_getF X8 hx hby hZ hown (host := "") (Or.inl (hw _ t_29)) Via.refl e8 P8 n1_26 fun T10 X10 e10 => ?_
  refine w_aloadN X10 hx hby n1_29 rfl rfl ?_
  have f11 := (f4.other W8 ne21)
  refine w_arraylength X10 hx hby hZ e10 f11 (z := Int32.ofNat n) (by rw [hV.1]) n1_30 ?_
  refine w_lload X10 hx hby n1_31 rfl ?_
  refine w_called (call_S X10 hx hby hZ hown (argsL := [(.ref a2), (.int (Int32.ofNat r1)), (.int (Int32.ofNat n)), (.long t)]) (rest := [(.ref a1)]) (Wd := 1) (hw _ t_16) (hw _ t_17) (hw _ t_7) (hw _ t_18) (by decide) (rb3 l Z a0 hw a2 cl n r1 n g t h8 f11 hV hF1.2.1 (Nat.le_refl _)) rfl n1_33 (by rw [hml]; rfl) (lenOf pd_5650 rfl) rfl (by decide) (by decide) (by decide) (by decide) e10) fun v12 T12 L12 X12 Q12 => ?_
  obtain ⟨r2, hF2, rfl, hh12, rfl⟩ := Q12
  rw [List.append_nil] at X12
  show Wp p e below s _ _ _ T12 (mkF m 36 #[.val (.ref a1), .val (.ref a2), .val (.long f), .second, .val (.long t), .second] [(.int (Int32.ofNat r2)), (.ref a1)])
  refine w_aloadN X12 hx hby n1_36 rfl rfl ?_
  refine w_getF X12 hx hby hZ hown (host := "") (Or.inl (hw _ t_29)) Via.refl hh12 P8 n1_37 fun T13 X13 e13 => ?_
  refine w_isub X13 hx hby n1_40 ?_
  refine w_iconst X13 hx hby (1 : Int32) n1_41 rfl ?_
  refine w_iadd X13 hx hby n1_42 ?_
  have f14 := ((F_intervals.other W2 (Or.inr (slot_ne (Or.inr (hw _ t_32)) (Or.inr (hw _ t_15)) (by decide) (t := .int) (t' := (.array .long)) (by decide) (by decide)))).other W8 (Or.inr (slot_ne (Or.inr (hw _ t_32)) (Or.inr (hw _ t_30)) (by decide) (t := .int) (t' := .int) (by decide) (by decide))))
  have f15 := (f7.wr W8)
  refine w_putFN X13 hx hby hZ hown (hw _ t_31) Via.refl e13 f14 f15 (Or.inr ⟨(hw _ t_32), rfl, hnm⟩) (hw _ t_6) (ty := .int) (by decide) rfl rfl n1_43 fun T16 h16 X16 e16 W16 => ?_
  have P16 := f14.same W16
  have N16 := Fr.snoc X16 N8 g1
  have z17 : h0.size ≤ h16.size := Nat.le_trans z9 (Keep.of_wr W16).1
  have k17 : Keep h0 h16 [a1] := k9.wr W16 (Or.inl (List.mem_of_getElem? (i := 0) rfl))
  refine w_aloadN X16 hx hby n1_46 rfl rfl ?_
  refine w_lloadN X16 hx hby n1_47 rfl ?_
  have f18 := (((F_from.other W2 (Or.inr (slot_ne (Or.inr (hw _ t_34)) (Or.inr (hw _ t_15)) (by decide) (t := .long) (t' := (.array .long)) (by decide) (by decide)))).other W8 (Or.inr (slot_ne (Or.inr (hw _ t_34)) (Or.inr (hw _ t_30)) (by decide) (t := .long) (t' := .int) (by decide) (by decide)))).other W16 (Or.inr (slot_ne (Or.inr (hw _ t_34)) (Or.inr (hw _ t_32)) (by decide) (t := .long) (t' := .int) (by decide) (by decide))))
  have f19 := (f15.wr W16)
  refine w_putFN X16 hx hby hZ hown (hw _ t_33) Via.refl e16 f18 f19 (Or.inr ⟨(hw _ t_34), rfl, hnm⟩) (hw _ t_6) (ty := .long) (by decide) rfl rfl n1_48 fun T20 h20 X20 e20 W20 => ?_
  have P20 := f18.same W20
  have N20 := Fr.snoc X20 N16 g1
  have z21 : h0.size ≤ h20.size := Nat.le_trans z17 (Keep.of_wr W20).1
  have k21 : Keep h0 h20 [a1] := k17.wr W20 (Or.inl (List.mem_of_getElem? (i := 0) rfl))
  refine w_aloadN X20 hx hby n1_51 rfl rfl ?_
  refine w_lload X20 hx hby n1_52 rfl ?_
  have f22 := ((((F_to.other W2 (Or.inr (slot_ne (Or.inr (hw _ t_36)) (Or.inr (hw _ t_15)) (by decide) (t := .long) (t' := (.array .long)) (by decide) (by decide)))).other W8 (Or.inr (slot_ne (Or.inr (hw _ t_36)) (Or.inr (hw _ t_30)) (by decide) (t := .long) (t' := .int) (by decide) (by decide)))).other W16 (Or.inr (slot_ne (Or.inr (hw _ t_36)) (Or.inr (hw _ t_32)) (by decide) (t := .long) (t' := .int) (by decide) (by decide)))).other W20 (Or.inr (slot_ne (Or.inr (hw _ t_36)) (Or.inr (hw _ t_34)) (by decide) (t := .long) (t' := .long) (by decide) (by decide))))
  have f23 := (f19.wr W20)
  refine w_putFN X20 hx hby hZ hown (hw _ t_35) Via.refl e20 f22 f23 (Or.inr ⟨(hw _ t_36), rfl, hnm⟩) (hw _ t_6) (ty := .long) (by decide) rfl rfl n1_54 fun T24 h24 X24 e24 W24 => ?_
  have P24 := f22.same W24
  have N24 := Fr.snoc X24 N20 g1
  have z25 : h0.size ≤ h24.size := Nat.le_trans z21 (Keep.of_wr W24).1
  have k25 : Keep h0 h24 [a1] := k21.wr W24 (Or.inl (List.mem_of_getElem? (i := 0) rfl))
  refine w_retV X24 hx hby e24 hlk hret n1_57 (by decide) (by decide) ?_
  have f26 := (f23.wr W24)
  have f27 := ((((P2.other W8 (Or.inr (slot_ne (Or.inr (hw _ t_15)) (Or.inr (hw _ t_30)) (by decide) (t := (.array .long)) (t' := .int) (by decide) (by decide)))).other W16 (Or.inr (slot_ne (Or.inr (hw _ t_15)) (Or.inr (hw _ t_32)) (by decide) (t := (.array .long)) (t' := .int) (by decide) (by decide)))).other W20 (Or.inr (slot_ne (Or.inr (hw _ t_15)) (Or.inr (hw _ t_34)) (by decide) (t := (.array .long)) (t' := .long) (by decide) (by decide)))).other W24 (Or.inr (slot_ne (Or.inr (hw _ t_15)) (Or.inr (hw _ t_36)) (by decide) (t := (.array .long)) (t' := .long) (by decide) (by decide))))
  have f28 := (((P8.other W16 (Or.inr (slot_ne (Or.inr (hw _ t_30)) (Or.inr (hw _ t_32)) (by decide) (t := .int) (t' := .int) (by decide) (by decide)))).other W20 (Or.inr (slot_ne (Or.inr (hw _ t_30)) (Or.inr (hw _ t_34)) (by decide) (t := .int) (t' := .long) (by decide) (by decide)))).other W24 (Or.inr (slot_ne (Or.inr (hw _ t_30)) (Or.inr (hw _ t_36)) (by decide) (t := .int) (t' := .long) (by decide) (by decide))))
  have f29 := ((P16.other W20 (Or.inr (slot_ne (Or.inr (hw _ t_32)) (Or.inr (hw _ t_34)) (by decide) (t := .int) (t' := .long) (by decide) (by decide)))).other W24 (Or.inr (slot_ne (Or.inr (hw _ t_32)) (Or.inr (hw _ t_36)) (by decide) (t := .int) (t' := .long) (by decide) (by decide))))
  have f30 := (P20.other W24 (Or.inr (slot_ne (Or.inr (hw _ t_34)) (Or.inr (hw _ t_36)) (by decide) (t := .long) (t' := .long) (by decide) (by decide))))
  exact ⟨rfl, N24, k25, f26, r1, r2, hF1, hF2, f27, f28, f29, f30, P24⟩
set_option maxRecDepth 65536 in
set_option maxHeartbeats 4000000 in
theorem ef_rpo (m : MethodId) (x0 : Addr) (x1 : Int64) : entryFrame m #[(.ref x0), (.long x1)] 4 = mkF m 0 #[.val (.ref x0), .val (.long x1), .second, .unset] [] := by first | (simp [entryFrame, mkF, argsToLocals, Value.category]; done) | rfl
set_option maxRecDepth 65536 in
set_option maxHeartbeats 40000000 in
theorem rpo (l : Launch) (Z : State) (a0 : Array Value) (hw : ∀ d ∈ tables_1, d.before a0 Z = true) (a1 a2 : Addr) (cl : Cell) (n : Nat) (g : Nat → Int64) (f t s1 : Int64) (r1 r2 : Nat) (h0 : Heap) (F_timestamps : Fld Z h0 a1 "com/example/panoptes/panoptes/Cuts" "timestamps" "[J" (.ref a2)) (F_inside : Fld Z h0 a1 "com/example/panoptes/panoptes/Cuts" "inside" "I" (.int (Int32.ofNat r1))) (F_intervals : Fld Z h0 a1 "com/example/panoptes/panoptes/Cuts" "intervals" "I" (.int ((Int32.ofNat r2 - Int32.ofNat r1) + 1))) (F_from : Fld Z h0 a1 "com/example/panoptes/panoptes/Cuts" "from" "J" (.long f)) (F_to : Fld Z h0 a1 "com/example/panoptes/panoptes/Cuts" "to" "J" (.long t)) (A2 : Arr Z h0 a2 cl .long) (hV : Vals cl n g) (hF1 : Fst g 0 n (f + 1) r1) (hF2 : Fst g r1 n t r2) : Con l Z (⟨"com/example/panoptes/panoptes/Cuts", "position", "(J)I"⟩ : MethodName) prog_6_method_4_code 4 (some .int) ({ frames := 3, cells := 0, slots := 0, locals := 54 } : Room) #[(.ref a1), (.long s1)] h0 (fun v h L => (¬ f < s1 ∧ v = some (.int 0) ∧ h = h0 ∧ L = []) ∨ (f < s1 ∧ ∃ r3, Fst g r1 r2 s1 r3 ∧ v = some (.int ((Int32.ofNat r3 - Int32.ofNat r1) + 1)) ∧ h = h0 ∧ L = [])) := by
  refine w_body (Ls := #[.val (.ref a1), .val (.long s1), .second, .unset]) pn_7 (fun m => ef_rpo m a1 s1) ?_
  intro p e s m below meth c T0 X0 hx hby hml hown hnm hret hlk hZ e0
  refine w_lloadN X0 hx hby n7_0 rfl ?_
  refine w_aloadN X0 hx hby n7_1 rfl rfl ?_
  refine w_getF X0 hx hby hZ hown (host := "") (Or.inl (hw _ t_33)) Via.refl e0 F_from n7_2 fun T1 X1 e1 => ?_
  refine f_lcmp_gt X1 hx hby n7_5 n7_6 (fun q5 => ?_) (fun q5 => ?_)
  · refine w_aloadN X1 hx hby n7_14 rfl rfl ?_
    refine w_getF X1 hx hby hZ hown (host := "") (Or.inl (hw _ t_14)) Via.refl e1 F_timestamps n7_15 fun T2 X2 e2 => ?_
    refine w_aloadN X2 hx hby n7_18 rfl rfl ?_
    refine w_getF X2 hx hby hZ hown (host := "") (Or.inl (hw _ t_29)) Via.refl e2 F_inside n7_19 fun T3 X3 e3 => ?_
    refine w_aloadN X3 hx hby n7_22 rfl rfl ?_
    refine w_getF X3 hx hby hZ hown (host := "") (Or.inl (hw _ t_29)) Via.refl e3 F_inside n7_23 fun T4 X4 e4 => ?_
    refine w_aloadN X4 hx hby n7_26 rfl rfl ?_
    refine w_getF X4 hx hby hZ hown (host := "") (Or.inl (hw _ t_31)) Via.refl e4 F_intervals n7_27 fun T5 X5 e5 => ?_
    refine w_iadd X5 hx hby n7_30 ?_
    refine w_iconst X5 hx hby (1 : Int32) n7_31 rfl ?_
    refine w_isub X5 hx hby n7_32 ?_
    refine w_lloadN X5 hx hby n7_33 rfl ?_
    rw [own_hi (Nat.le_trans hF1.2.1 hV.2.1) (Nat.le_trans hF2.2.1 hV.2.1)]
    refine w_called (call_S X5 hx hby hZ hown (argsL := [(.ref a2), (.int (Int32.ofNat r1)), (.int (Int32.ofNat r2)), (.long s1)]) (rest := []) (Wd := 0) (hw _ t_16) (hw _ t_17) (hw _ t_7) (hw _ t_18) (by decide) (rb3 l Z a0 hw a2 cl n r1 r2 g s1 h0 A2 hV hF2.1 hF2.2.1) rfl n7_34 (by rw [hml]; rfl) (lenOf pd_5650 rfl) rfl (by decide) (by decide) (by decide) (by decide) e5) fun v6 T6 L6 X6 Q6 => ?_
    obtain ⟨r3, hF3, rfl, hh6, rfl⟩ := Q6
    rw [List.append_nil] at X6
    show Wp p e below s _ _ _ T6 (mkF m 37 #[.val (.ref a1), .val (.long s1), .second, .unset] [(.int (Int32.ofNat r3))])
    refine w_aloadN X6 hx hby n7_37 rfl rfl ?_
    refine w_getF X6 hx hby hZ hown (host := "") (Or.inl (hw _ t_29)) Via.refl hh6 F_inside n7_38 fun T7 X7 e7 => ?_
    refine w_isub X7 hx hby n7_41 ?_
    refine w_iconst X7 hx hby (1 : Int32) n7_42 rfl ?_
    refine w_iadd X7 hx hby n7_43 ?_
    refine w_istoreN X7 hx hby #[.val (.ref a1), .val (.long s1), .second, .val (.int (((Int32.ofNat r3) - (Int32.ofNat r1)) + (1 : Int32)))] n7_44 rfl ?_
    refine w_iloadN X7 hx hby n7_45 rfl ?_
    refine w_retI X7 hx hby e7 hlk hret n7_46 (by decide) (by decide) ?_
    exact Or.inr ⟨q5, r3, hF3, rfl, rfl, rfl⟩
  · refine w_iconst X1 hx hby (0 : Int32) n7_9 rfl ?_
    refine w_istoreN X1 hx hby #[.val (.ref a1), .val (.long s1), .second, .val (.int (0 : Int32))] n7_10 rfl ?_
    refine w_goto X1 hx hby n7_11 ?_
    refine w_iloadN X1 hx hby n7_45 rfl ?_
    refine w_retI X1 hx hby e1 hlk hret n7_46 (by decide) (by decide) ?_
    exact Or.inl ⟨q5, rfl, rfl, rfl⟩
set_option maxRecDepth 65536 in
set_option maxHeartbeats 4000000 in
theorem ef_rct (m : MethodId) (x0 : Int64) (x1 : Int32) (x2 : Int64) (x3 : Int64) (x4 : Int64) : entryFrame m #[(.long x0), (.int x1), (.long x2), (.long x3), (.long x4)] 9 = mkF m 0 #[.val (.long x0), .second, .val (.int x1), .val (.long x2), .second, .val (.long x3), .second, .val (.long x4), .second] [] := by first | (simp [entryFrame, mkF, argsToLocals, Value.category]; done) | rfl
set_option maxRecDepth 65536 in
set_option maxHeartbeats 40000000 in
theorem rct (l : Launch) (Z : State) (a0 : Array Value) (hw : ∀ d ∈ tables_1, d.before a0 Z = true) (t1 f1 u1 s1 : Int64) (b1 : Int32) (h0 : Heap) : Con l Z (⟨"com/example/panoptes/panoptes/CutsPositionPinLaw", "counted", "(JZJJJ)I"⟩ : MethodName) method_2_code 9 (some .int) ({ frames := 0, cells := 0, slots := 0, locals := 0 } : Room) #[(.long t1), (.int b1), (.long f1), (.long u1), (.long s1)] h0 (fun v h L => v = some (.int (own_ct t1 b1 f1 u1 s1)) ∧ h = h0 ∧ L = []) := by
  refine w_body (Ls := #[.val (.long t1), .second, .val (.int b1), .val (.long f1), .second, .val (.long u1), .second, .val (.long s1), .second]) pn_8 (fun m => ef_rct m t1 b1 f1 u1 s1) ?_
  intro p e s m below meth c T0 X0 hx hby hml hown hnm hret hlk hZ e0
  refine w_iloadN X0 hx hby n8_0 rfl ?_
  refine f_if_eq X0 hx hby n8_1 (fun q1 => ?_) (fun q1 => ?_)
  · refine w_iconst X0 hx hby (0 : Int32) n8_26 rfl ?_
    refine w_retI X0 hx hby e0 hlk hret n8_27 (by decide) (by decide) ?_
    exact ⟨congrArg (fun q => some (Value.int q)) (by first | (unfold own_ct; rw [if_pos q1] <;> rfl) | simp [own_ct, own_nar1, own_nar0, q1]), rfl, rfl⟩
  · refine w_lloadN X0 hx hby n8_4 rfl ?_
    refine w_lloadN X0 hx hby n8_5 rfl ?_
    refine f_lcmp_ge X0 hx hby n8_6 n8_7 (fun q6 => ?_) (fun q6 => ?_)
    · refine w_iconst X0 hx hby (0 : Int32) n8_26 rfl ?_
      refine w_retI X0 hx hby e0 hlk hret n8_27 (by decide) (by decide) ?_
      exact ⟨congrArg (fun q => some (Value.int q)) (by first | (unfold own_ct; rw [if_neg q1, if_neg q6] <;> rfl) | simp [own_ct, own_nar1, own_nar0, q1, q6]), rfl, rfl⟩
    · refine w_lloadN X0 hx hby n8_10 rfl ?_
      refine w_lload X0 hx hby n8_11 rfl ?_
      refine f_lcmp_ge X0 hx hby n8_13 n8_14 (fun q13 => ?_) (fun q13 => ?_)
      · refine w_iconst X0 hx hby (0 : Int32) n8_26 rfl ?_
        refine w_retI X0 hx hby e0 hlk hret n8_27 (by decide) (by decide) ?_
        exact ⟨congrArg (fun q => some (Value.int q)) (by first | (unfold own_ct; rw [if_neg q1, if_pos q6, if_neg q13] <;> rfl) | simp [own_ct, own_nar1, own_nar0, q1, q6, q13]), rfl, rfl⟩
      · refine w_lloadN X0 hx hby n8_17 rfl ?_
        refine w_lload X0 hx hby n8_18 rfl ?_
        refine f_lcmp_ge X0 hx hby n8_20 n8_21 (fun q20 => ?_) (fun q20 => ?_)
        · refine w_iconst X0 hx hby (0 : Int32) n8_26 rfl ?_
          refine w_retI X0 hx hby e0 hlk hret n8_27 (by decide) (by decide) ?_
          exact ⟨congrArg (fun q => some (Value.int q)) (by first | (unfold own_ct; rw [if_neg q1, if_pos q6, if_pos q13, if_neg q20] <;> rfl) | simp [own_ct, own_nar1, own_nar0, q1, q6, q13, q20]), rfl, rfl⟩
        · refine w_iconst X0 hx hby (1 : Int32) n8_24 rfl ?_
          refine w_retI X0 hx hby e0 hlk hret n8_25 (by decide) (by decide) ?_
          exact ⟨congrArg (fun q => some (Value.int q)) (by first | (unfold own_ct; rw [if_neg q1, if_pos q6, if_pos q13, if_pos q20] <;> rfl) | simp [own_ct, own_nar1, own_nar0, q1, q6, q13, q20]), rfl, rfl⟩
set_option maxRecDepth 65536 in
set_option maxHeartbeats 40000000 in
theorem tail100 (l : Launch) (Z : State) (a0 : Array Value) (hw : ∀ d ∈ tables_1, d.before a0 Z = true) (x0 x5 t0 t1 t2 f u s1 : Int64) (p2 p3 p4 p7 : Int32) (h0 : Heap) {p : Program} {e : Env} {s : State} {m : MethodId} {args : Array Value} {below : List Frame} {meth : Method} {c : Code} {T0 : State} (X0 : Stand p l e room_1 s m args below meth c T0 [] 0 0) (hx : p.tables.exec = Jvm.exec) (hby : c.code = code) (hml : c.maxLocals = 25) (hown : s.vm.findClass "com/example/panoptes/panoptes/CutsPositionPinLaw" = some m.cls) (hret : meth.sig.returnType = ret) (hlk : meth.locks = false) (hZ : Z.Warmed39 s.vm) (e0 : T0.heap = h0) (H1 : t0.toInt < t1.toInt) (H2 : t1.toInt < t2.toInt) (H3 : (f + 1).toInt = f.toInt + 1) : Wp p e below s room_1.cells room_1.slots (fun v h L => v = some (.int 1) ∧ Fr h0.size L) T0 (mkF m 100 #[.val (.long x0), .second, .val (.int p2), .val (.int p3), .val (.int p4), .val (.long x5), .second, .val (.int p7), .val (.long t0), .second, .val (.long t1), .second, .val (.long t2), .second, .val (.long f), .second, .val (.long u), .second, .val (.long s1), .second, .unset, .unset, .unset, .unset, .unset] []) := by
  refine w_iload X0 hx hby n0_100 rfl ?_
  refine w_iconst X0 hx hby (1 : Int32) n0_102 rfl ?_
  refine w_iushr X0 hx hby n0_103 ?_
  refine w_iconst X0 hx hby (3 : Int32) n0_104 rfl ?_
  refine w_iand X0 hx hby n0_105 ?_
  rcases own_n4 p7 with hn | hn | hn | hn
  · rw [hn]
    refine w_istore X0 hx hby #[.val (.long x0), .second, .val (.int p2), .val (.int p3), .val (.int p4), .val (.long x5), .second, .val (.int p7), .val (.long t0), .second, .val (.long t1), .second, .val (.long t2), .second, .val (.long f), .second, .val (.long u), .second, .val (.long s1), .second, .val (.int (0 : Int32)), .unset, .unset, .unset, .unset] n0_106 rfl ?_
    refine w_iload X0 hx hby n0_108 rfl ?_
    refine f_if_ne X0 hx hby n0_110 (fun q110 => by exact absurd q110 (by decide)) (fun q110 => ?_)
    refine w_iconst X0 hx hby (0 : Int32) n0_113 rfl ?_
    refine w_newP X0 hx hby hZ (aty := .long) (hw _ t_4) e0 n0_114 (by decide) 0 (by decide) (by decide) (by decide) (by decide) fun T1 h1 b1 k1 g1 X1 e1 E1 A1 => ?_
    have old_b1 : h0.size ≤ b1 := Nat.le_trans (Nat.le_refl h0.size) (Nat.le_of_eq g1.symm)
    have z2 : h0.size ≤ h1.size := Nat.le_trans (Nat.le_refl h0.size) E1.1
    have V1 : Arv Z h1 b1 k1 .long (0 : Int32) [] (.long (0 : Int64)) := (Arv.new A1 (by decide)).pad (pad_rep [] (.long (0 : Int64)) 0)
    refine w_astore X1 hx hby #[.val (.long x0), .second, .val (.int p2), .val (.int p3), .val (.int p4), .val (.long x5), .second, .val (.int p7), .val (.long t0), .second, .val (.long t1), .second, .val (.long t2), .second, .val (.long f), .second, .val (.long u), .second, .val (.long s1), .second, .val (.int (0 : Int32)), .val (.ref b1), .unset, .unset, .unset] n0_116 rfl rfl ?_
    refine w_goto X1 hx hby n0_118 ?_
    obtain ⟨cl, Ar3, qk3, Sz3, Nn3, Ha3, Gf3⟩ := id V1
    have hV : Vals cl 0 (own_g t0 t1 t2) := ⟨Sz3, by decide, fun j hj => by rw [Ha3 j (by rw [Sz3]; exact hj)]; omega, fun i j hij hj => by omega⟩
    refine w_newO X1 hx hby hZ hown (hw _ t_5) (hw _ t_6) (hw _ t_7) e1 n0_184 (by decide) (by decide) fun T4 h4 b4 g4 X4 e4 E4 A4 D4 => ?_
    have ne_b1_b4 : b1 ≠ b4 := Nat.ne_of_lt (Nat.lt_of_lt_of_eq V1.lt g4.symm)
    have old_b4 : h0.size ≤ b4 := Nat.le_trans z2 (Nat.le_of_eq g4.symm)
    have z5 : h0.size ≤ h4.size := Nat.le_trans z2 E4.1
    have F4_timestamps : Fld Z h4 b4 "com/example/panoptes/panoptes/Cuts" "timestamps" "[J" .null := D4 (Or.inr (hw _ t_15)) (ty := (.array .long)) (by decide)
    have F4_inside : Fld Z h4 b4 "com/example/panoptes/panoptes/Cuts" "inside" "I" (.int (0 : Int32)) := D4 (Or.inr (hw _ t_30)) (ty := .int) (by decide)
    have F4_intervals : Fld Z h4 b4 "com/example/panoptes/panoptes/Cuts" "intervals" "I" (.int (0 : Int32)) := D4 (Or.inr (hw _ t_32)) (ty := .int) (by decide)
    have F4_from : Fld Z h4 b4 "com/example/panoptes/panoptes/Cuts" "from" "J" (.long (0 : Int64)) := D4 (Or.inr (hw _ t_34)) (ty := .long) (by decide)
    have F4_to : Fld Z h4 b4 "com/example/panoptes/panoptes/Cuts" "to" "J" (.long (0 : Int64)) := D4 (Or.inr (hw _ t_36)) (ty := .long) (by decide)
    refine w_dup X4 hx hby n0_187 rfl ?_
    refine w_aload X4 hx hby n0_188 rfl rfl ?_
    refine w_lload X4 hx hby n0_190 rfl ?_
    refine w_lload X4 hx hby n0_192 rfl ?_
    have f6 := (Ar3.ext E4)
    refine w_called (call_N X4 hx hby hZ hown (argsL := [(.ref b1), (.long f), (.long u)]) (rest := [(.ref b4)]) (Wd := 1) (a := b4) rfl (hw _ t_8) (hw _ t_9) (hw _ t_7) (hw _ t_10) (by decide) (rci l Z a0 hw b4 b1 cl 0 (own_g t0 t1 t2) f u h4 h0.size z5 old_b4 A4 F4_timestamps F4_inside F4_intervals F4_from F4_to f6 ne_b1_b4 hV) rfl n0_194 (by rw [hml]; rfl) (lenOf pd_4838 rfl) rfl (by decide) (by decide) (by decide) (by decide) e4) fun v7 T7 L7 X7 Q7 => ?_
    obtain ⟨rfl, n7, k7, ea7, r1, r2, hF1, hF2, c7_timestamps, c7_inside, c7_intervals, c7_from, c7_to⟩ := Q7
    have N7 := Fr.app (Fr.nil h0.size) n7
    have z8 : h0.size ≤ T7.heap.size := Nat.le_trans z5 k7.1
    show Wp p e below s _ _ _ T7 (mkF m 197 #[.val (.long x0), .second, .val (.int p2), .val (.int p3), .val (.int p4), .val (.long x5), .second, .val (.int p7), .val (.long t0), .second, .val (.long t1), .second, .val (.long t2), .second, .val (.long f), .second, .val (.long u), .second, .val (.long s1), .second, .val (.int (0 : Int32)), .val (.ref b1), .unset, .unset, .unset] [(.ref b4)])
    refine w_astore X7 hx hby #[.val (.long x0), .second, .val (.int p2), .val (.int p3), .val (.int p4), .val (.long x5), .second, .val (.int p7), .val (.long t0), .second, .val (.long t1), .second, .val (.long t2), .second, .val (.long f), .second, .val (.long u), .second, .val (.long s1), .second, .val (.int (0 : Int32)), .val (.ref b1), .val (.ref b4), .unset, .unset] n0_197 rfl rfl ?_
    refine w_aload X7 hx hby n0_199 rfl rfl ?_
    refine w_lload X7 hx hby n0_201 rfl ?_
    have f9 := (own_arr_keep f6 k7 (ninS ne_b1_b4 nin0))
    refine w_called (call_V X7 hx hby hZ hown (argsL := [(.long s1)]) (rest := []) (Wd := 0) (a := b4) (hw _ t_37) (hw _ t_38) (hw _ t_40) (hw _ t_39) (hw _ t_7) (hw _ t_41) (by decide) ea7 (rpo l Z a0 hw b4 b1 cl 0 (own_g t0 t1 t2) f u s1 r1 r2 T7.heap c7_timestamps c7_inside c7_intervals c7_from c7_to f9 hV hF1 hF2) rfl n0_203 (by rw [hml]; rfl) (lenOf pd_1971 rfl) rfl (by decide) (by decide) (by decide) (by decide) rfl) fun v10 T10 L10 X10 Q10 => ?_
    rcases Q10 with ⟨qs, rfl, hh10, rfl⟩ | ⟨qs, r3, hF3, rfl, hh10, rfl⟩
    · rw [List.append_nil] at X10
      show Wp p e below s _ _ _ T10 (mkF m 206 #[.val (.long x0), .second, .val (.int p2), .val (.int p3), .val (.int p4), .val (.long x5), .second, .val (.int p7), .val (.long t0), .second, .val (.long t1), .second, .val (.long t2), .second, .val (.long f), .second, .val (.long u), .second, .val (.long s1), .second, .val (.int (0 : Int32)), .val (.ref b1), .val (.ref b4), .unset, .unset] [(.int (0 : Int32))])
      refine w_istore X10 hx hby #[.val (.long x0), .second, .val (.int p2), .val (.int p3), .val (.int p4), .val (.long x5), .second, .val (.int p7), .val (.long t0), .second, .val (.long t1), .second, .val (.long t2), .second, .val (.long f), .second, .val (.long u), .second, .val (.long s1), .second, .val (.int (0 : Int32)), .val (.ref b1), .val (.ref b4), .val (.int (0 : Int32)), .unset] n0_206 rfl ?_
      refine w_lload X10 hx hby n0_208 rfl ?_
      refine w_lload X10 hx hby n0_210 rfl ?_
      refine f_lcmp_gt X10 hx hby n0_212 n0_213 (fun q212 => by exact absurd q212 qs) (fun q212 => ?_)
      refine w_iconst X10 hx hby (0 : Int32) n0_216 rfl ?_
      refine w_istore X10 hx hby #[.val (.long x0), .second, .val (.int p2), .val (.int p3), .val (.int p4), .val (.long x5), .second, .val (.int p7), .val (.long t0), .second, .val (.long t1), .second, .val (.long t2), .second, .val (.long f), .second, .val (.long u), .second, .val (.long s1), .second, .val (.int (0 : Int32)), .val (.ref b1), .val (.ref b4), .val (.int (0 : Int32)), .val (.int (0 : Int32))] n0_217 rfl ?_
      refine w_goto X10 hx hby n0_219 ?_
      refine w_iload X10 hx hby n0_294 rfl ?_
      refine w_iload X10 hx hby n0_296 rfl ?_
      refine f_icmp_ne X10 hx hby n0_298 (fun q298 => by exact absurd q298 (by decide)) (fun q298 => ?_)
      refine w_iconst X10 hx hby (1 : Int32) n0_301 rfl ?_
      refine w_goto X10 hx hby n0_302 ?_
      refine w_retN X10 hx hby hh10 hlk hret (by simp) n0_306 (by decide) (by decide) ?_
      exact ⟨rfl, N7⟩
    · rw [List.append_nil] at X10
      show Wp p e below s _ _ _ T10 (mkF m 206 #[.val (.long x0), .second, .val (.int p2), .val (.int p3), .val (.int p4), .val (.long x5), .second, .val (.int p7), .val (.long t0), .second, .val (.long t1), .second, .val (.long t2), .second, .val (.long f), .second, .val (.long u), .second, .val (.long s1), .second, .val (.int (0 : Int32)), .val (.ref b1), .val (.ref b4), .unset, .unset] [(.int ((Int32.ofNat r3 - Int32.ofNat r1) + 1))])
      refine w_istore X10 hx hby #[.val (.long x0), .second, .val (.int p2), .val (.int p3), .val (.int p4), .val (.long x5), .second, .val (.int p7), .val (.long t0), .second, .val (.long t1), .second, .val (.long t2), .second, .val (.long f), .second, .val (.long u), .second, .val (.long s1), .second, .val (.int (0 : Int32)), .val (.ref b1), .val (.ref b4), .val (.int ((Int32.ofNat r3 - Int32.ofNat r1) + 1)), .unset] n0_206 rfl ?_
      refine w_lload X10 hx hby n0_208 rfl ?_
      refine w_lload X10 hx hby n0_210 rfl ?_
      refine f_lcmp_gt X10 hx hby n0_212 n0_213 (fun q212 => ?_) (fun q212 => by exact absurd qs q212)
      refine w_iconst X10 hx hby (1 : Int32) n0_222 rfl ?_
      refine w_lload X10 hx hby n0_223 rfl ?_
      refine w_iload X10 hx hby n0_225 rfl ?_
      refine w_iconst X10 hx hby (1 : Int32) n0_227 rfl ?_
      refine f_icmp_lt X10 hx hby n0_228 (fun q228 => ?_) (fun q228 => by exact absurd q228 (by decide))
      refine w_iconst X10 hx hby (0 : Int32) n0_235 rfl ?_
      refine w_lload X10 hx hby n0_236 rfl ?_
      refine w_lload X10 hx hby n0_238 rfl ?_
      refine w_lload X10 hx hby n0_240 rfl ?_
      refine w_calledp (call_S X10 hx hby hZ hown (argsL := [(.long t0), (.int (0 : Int32)), (.long f), (.long u), (.long s1)]) (rest := [(.int (1 : Int32))]) (Wd := 1) (hw _ t_42) (hw _ t_43) (hw _ t_44) (hw _ t_45) (by decide) (rct l Z a0 hw t0 f u s1 (0 : Int32) T7.heap) rfl n0_242 (by rw [hml]; rfl) (lenOf pd_5679 rfl) rfl (by decide) (by decide) (by decide) (by decide) hh10) rfl rfl fun T11 X11 e11 => ?_
      refine w_iadd X11 hx hby n0_245 ?_
      refine w_lload X11 hx hby n0_246 rfl ?_
      refine w_iload X11 hx hby n0_248 rfl ?_
      refine w_iconst X11 hx hby (2 : Int32) n0_250 rfl ?_
      refine f_icmp_lt X11 hx hby n0_251 (fun q251 => ?_) (fun q251 => by exact absurd q251 (by decide))
      refine w_iconst X11 hx hby (0 : Int32) n0_258 rfl ?_
      refine w_lload X11 hx hby n0_259 rfl ?_
      refine w_lload X11 hx hby n0_261 rfl ?_
      refine w_lload X11 hx hby n0_263 rfl ?_
      refine w_calledp (call_S X11 hx hby hZ hown (argsL := [(.long t1), (.int (0 : Int32)), (.long f), (.long u), (.long s1)]) (rest := [(.int ((1 : Int32) + (own_ct t0 (0 : Int32) f u s1)))]) (Wd := 1) (hw _ t_42) (hw _ t_43) (hw _ t_44) (hw _ t_45) (by decide) (rct l Z a0 hw t1 f u s1 (0 : Int32) T7.heap) rfl n0_265 (by rw [hml]; rfl) (lenOf pd_5679 rfl) rfl (by decide) (by decide) (by decide) (by decide) e11) rfl rfl fun T12 X12 e12 => ?_
      refine w_iadd X12 hx hby n0_268 ?_
      refine w_lload X12 hx hby n0_269 rfl ?_
      refine w_iload X12 hx hby n0_271 rfl ?_
      refine w_iconst X12 hx hby (3 : Int32) n0_273 rfl ?_
      refine f_icmp_lt X12 hx hby n0_274 (fun q274 => ?_) (fun q274 => by exact absurd q274 (by decide))
      refine w_iconst X12 hx hby (0 : Int32) n0_281 rfl ?_
      refine w_lload X12 hx hby n0_282 rfl ?_
      refine w_lload X12 hx hby n0_284 rfl ?_
      refine w_lload X12 hx hby n0_286 rfl ?_
      refine w_calledp (call_S X12 hx hby hZ hown (argsL := [(.long t2), (.int (0 : Int32)), (.long f), (.long u), (.long s1)]) (rest := [(.int (((1 : Int32) + (own_ct t0 (0 : Int32) f u s1)) + (own_ct t1 (0 : Int32) f u s1)))]) (Wd := 1) (hw _ t_42) (hw _ t_43) (hw _ t_44) (hw _ t_45) (by decide) (rct l Z a0 hw t2 f u s1 (0 : Int32) T7.heap) rfl n0_288 (by rw [hml]; rfl) (lenOf pd_5679 rfl) rfl (by decide) (by decide) (by decide) (by decide) e12) rfl rfl fun T13 X13 e13 => ?_
      refine w_iadd X13 hx hby n0_291 ?_
      refine w_istore X13 hx hby #[.val (.long x0), .second, .val (.int p2), .val (.int p3), .val (.int p4), .val (.long x5), .second, .val (.int p7), .val (.long t0), .second, .val (.long t1), .second, .val (.long t2), .second, .val (.long f), .second, .val (.long u), .second, .val (.long s1), .second, .val (.int (0 : Int32)), .val (.ref b1), .val (.ref b4), .val (.int ((Int32.ofNat r3 - Int32.ofNat r1) + 1)), .val (.int ((((1 : Int32) + (own_ct t0 (0 : Int32) f u s1)) + (own_ct t1 (0 : Int32) f u s1)) + (own_ct t2 (0 : Int32) f u s1)))] n0_292 rfl ?_
      refine w_iload X13 hx hby n0_294 rfl ?_
      refine w_iload X13 hx hby n0_296 rfl ?_
      refine f_icmp_ne X13 hx hby n0_298 (fun q298 => by exact absurd (own_fin 0 (by decide) H3 hF1 hF2 hF3 _ _ _ rfl rfl rfl) q298) (fun q298 => ?_)
      refine w_iconst X13 hx hby (1 : Int32) n0_301 rfl ?_
      refine w_goto X13 hx hby n0_302 ?_
      refine w_retN X13 hx hby e13 hlk hret (by simp) n0_306 (by decide) (by decide) ?_
      exact ⟨rfl, N7⟩
  · rw [hn]
    refine w_istore X0 hx hby #[.val (.long x0), .second, .val (.int p2), .val (.int p3), .val (.int p4), .val (.long x5), .second, .val (.int p7), .val (.long t0), .second, .val (.long t1), .second, .val (.long t2), .second, .val (.long f), .second, .val (.long u), .second, .val (.long s1), .second, .val (.int (1 : Int32)), .unset, .unset, .unset, .unset] n0_106 rfl ?_
    refine w_iload X0 hx hby n0_108 rfl ?_
    refine f_if_ne X0 hx hby n0_110 (fun q110 => ?_) (fun q110 => by exact absurd q110 (by decide))
    refine w_iload X0 hx hby n0_121 rfl ?_
    refine w_iconst X0 hx hby (1 : Int32) n0_123 rfl ?_
    refine f_icmp_ne X0 hx hby n0_124 (fun q124 => by exact absurd q124 (by decide)) (fun q124 => ?_)
    refine w_iconst X0 hx hby (1 : Int32) n0_127 rfl ?_
    refine w_newP X0 hx hby hZ (aty := .long) (hw _ t_4) e0 n0_128 (by decide) 1 (by decide) (by decide) (by decide) (by decide) fun T14 h14 b14 k14 g14 X14 e14 E14 A14 => ?_
    have old_b14 : h0.size ≤ b14 := Nat.le_trans (Nat.le_refl h0.size) (Nat.le_of_eq g14.symm)
    have z15 : h0.size ≤ h14.size := Nat.le_trans (Nat.le_refl h0.size) E14.1
    have V14 : Arv Z h14 b14 k14 .long (1 : Int32) [(.long (0 : Int64))] (.long (0 : Int64)) := (Arv.new A14 (by decide)).pad (pad_rep [] (.long (0 : Int64)) 1)
    refine w_dup X14 hx hby n0_130 rfl ?_
    refine w_iconst X14 hx hby (0 : Int32) n0_131 rfl ?_
    refine w_lload X14 hx hby n0_132 rfl ?_
    obtain ⟨cl16, Ar16, qk16, Sz16, Nn16, Ha16, Gf16⟩ := id V14
    refine w_stJ X14 hx hby hZ e14 Ar16 (j := (0 : Int32)) (inb_of Sz16 ⟨by decide, by decide⟩) n0_134 fun T16 h16 X16 e16 W16 => ?_
    have V16 : Arv Z h16 b14 k14 .long (1 : Int32) [(.long t0)] (.long (0 : Int64)) := Arv.set Ar16 qk16 Sz16 Nn16 Ha16 Gf16 rfl W16 0 rfl (Nat.le_of_ble_eq_true rfl)
    have N16 := Fr.snoc X16 (Fr.nil h0.size) old_b14
    have z17 : h0.size ≤ h16.size := Nat.le_trans z15 (Keep.of_wr W16).1
    refine w_astore X16 hx hby #[.val (.long x0), .second, .val (.int p2), .val (.int p3), .val (.int p4), .val (.long x5), .second, .val (.int p7), .val (.long t0), .second, .val (.long t1), .second, .val (.long t2), .second, .val (.long f), .second, .val (.long u), .second, .val (.long s1), .second, .val (.int (1 : Int32)), .val (.ref b14), .unset, .unset, .unset] n0_135 rfl rfl ?_
    refine w_goto X16 hx hby n0_137 ?_
    obtain ⟨cl, Ar18, qk18, Sz18, Nn18, Ha18, Gf18⟩ := id V16
    have hV : Vals cl 1 (own_g t0 t1 t2) := ⟨Sz18, by decide, fun j hj => by rw [Ha18 j (by rw [Sz18]; exact hj)]; rcases (by omega : j = 0) with rfl <;> rfl, fun i j hij hj => by omega⟩
    refine w_newO X16 hx hby hZ hown (hw _ t_5) (hw _ t_6) (hw _ t_7) e16 n0_184 (by decide) (by decide) fun T19 h19 b19 g19 X19 e19 E19 A19 D19 => ?_
    have ne_b14_b19 : b14 ≠ b19 := Nat.ne_of_lt (Nat.lt_of_lt_of_eq V16.lt g19.symm)
    have old_b19 : h0.size ≤ b19 := Nat.le_trans z17 (Nat.le_of_eq g19.symm)
    have z20 : h0.size ≤ h19.size := Nat.le_trans z17 E19.1
    have F19_timestamps : Fld Z h19 b19 "com/example/panoptes/panoptes/Cuts" "timestamps" "[J" .null := D19 (Or.inr (hw _ t_15)) (ty := (.array .long)) (by decide)
    have F19_inside : Fld Z h19 b19 "com/example/panoptes/panoptes/Cuts" "inside" "I" (.int (0 : Int32)) := D19 (Or.inr (hw _ t_30)) (ty := .int) (by decide)
    have F19_intervals : Fld Z h19 b19 "com/example/panoptes/panoptes/Cuts" "intervals" "I" (.int (0 : Int32)) := D19 (Or.inr (hw _ t_32)) (ty := .int) (by decide)
    have F19_from : Fld Z h19 b19 "com/example/panoptes/panoptes/Cuts" "from" "J" (.long (0 : Int64)) := D19 (Or.inr (hw _ t_34)) (ty := .long) (by decide)
    have F19_to : Fld Z h19 b19 "com/example/panoptes/panoptes/Cuts" "to" "J" (.long (0 : Int64)) := D19 (Or.inr (hw _ t_36)) (ty := .long) (by decide)
    refine w_dup X19 hx hby n0_187 rfl ?_
    refine w_aload X19 hx hby n0_188 rfl rfl ?_
    refine w_lload X19 hx hby n0_190 rfl ?_
    refine w_lload X19 hx hby n0_192 rfl ?_
    have f21 := (Ar18.ext E19)
    refine w_called (call_N X19 hx hby hZ hown (argsL := [(.ref b14), (.long f), (.long u)]) (rest := [(.ref b19)]) (Wd := 1) (a := b19) rfl (hw _ t_8) (hw _ t_9) (hw _ t_7) (hw _ t_10) (by decide) (rci l Z a0 hw b19 b14 cl 1 (own_g t0 t1 t2) f u h19 h0.size z20 old_b19 A19 F19_timestamps F19_inside F19_intervals F19_from F19_to f21 ne_b14_b19 hV) rfl n0_194 (by rw [hml]; rfl) (lenOf pd_4838 rfl) rfl (by decide) (by decide) (by decide) (by decide) e19) fun v22 T22 L22 X22 Q22 => ?_
    obtain ⟨rfl, n22, k22, ea22, r1, r2, hF1, hF2, c22_timestamps, c22_inside, c22_intervals, c22_from, c22_to⟩ := Q22
    have N22 := Fr.app N16 n22
    have z23 : h0.size ≤ T22.heap.size := Nat.le_trans z20 k22.1
    show Wp p e below s _ _ _ T22 (mkF m 197 #[.val (.long x0), .second, .val (.int p2), .val (.int p3), .val (.int p4), .val (.long x5), .second, .val (.int p7), .val (.long t0), .second, .val (.long t1), .second, .val (.long t2), .second, .val (.long f), .second, .val (.long u), .second, .val (.long s1), .second, .val (.int (1 : Int32)), .val (.ref b14), .unset, .unset, .unset] [(.ref b19)])
    refine w_astore X22 hx hby #[.val (.long x0), .second, .val (.int p2), .val (.int p3), .val (.int p4), .val (.long x5), .second, .val (.int p7), .val (.long t0), .second, .val (.long t1), .second, .val (.long t2), .second, .val (.long f), .second, .val (.long u), .second, .val (.long s1), .second, .val (.int (1 : Int32)), .val (.ref b14), .val (.ref b19), .unset, .unset] n0_197 rfl rfl ?_
    refine w_aload X22 hx hby n0_199 rfl rfl ?_
    refine w_lload X22 hx hby n0_201 rfl ?_
    have f24 := (own_arr_keep f21 k22 (ninS ne_b14_b19 nin0))
    refine w_called (call_V X22 hx hby hZ hown (argsL := [(.long s1)]) (rest := []) (Wd := 0) (a := b19) (hw _ t_37) (hw _ t_38) (hw _ t_40) (hw _ t_39) (hw _ t_7) (hw _ t_41) (by decide) ea22 (rpo l Z a0 hw b19 b14 cl 1 (own_g t0 t1 t2) f u s1 r1 r2 T22.heap c22_timestamps c22_inside c22_intervals c22_from c22_to f24 hV hF1 hF2) rfl n0_203 (by rw [hml]; rfl) (lenOf pd_1971 rfl) rfl (by decide) (by decide) (by decide) (by decide) rfl) fun v25 T25 L25 X25 Q25 => ?_
    rcases Q25 with ⟨qs, rfl, hh25, rfl⟩ | ⟨qs, r3, hF3, rfl, hh25, rfl⟩
    · rw [List.append_nil] at X25
      show Wp p e below s _ _ _ T25 (mkF m 206 #[.val (.long x0), .second, .val (.int p2), .val (.int p3), .val (.int p4), .val (.long x5), .second, .val (.int p7), .val (.long t0), .second, .val (.long t1), .second, .val (.long t2), .second, .val (.long f), .second, .val (.long u), .second, .val (.long s1), .second, .val (.int (1 : Int32)), .val (.ref b14), .val (.ref b19), .unset, .unset] [(.int (0 : Int32))])
      refine w_istore X25 hx hby #[.val (.long x0), .second, .val (.int p2), .val (.int p3), .val (.int p4), .val (.long x5), .second, .val (.int p7), .val (.long t0), .second, .val (.long t1), .second, .val (.long t2), .second, .val (.long f), .second, .val (.long u), .second, .val (.long s1), .second, .val (.int (1 : Int32)), .val (.ref b14), .val (.ref b19), .val (.int (0 : Int32)), .unset] n0_206 rfl ?_
      refine w_lload X25 hx hby n0_208 rfl ?_
      refine w_lload X25 hx hby n0_210 rfl ?_
      refine f_lcmp_gt X25 hx hby n0_212 n0_213 (fun q212 => by exact absurd q212 qs) (fun q212 => ?_)
      refine w_iconst X25 hx hby (0 : Int32) n0_216 rfl ?_
      refine w_istore X25 hx hby #[.val (.long x0), .second, .val (.int p2), .val (.int p3), .val (.int p4), .val (.long x5), .second, .val (.int p7), .val (.long t0), .second, .val (.long t1), .second, .val (.long t2), .second, .val (.long f), .second, .val (.long u), .second, .val (.long s1), .second, .val (.int (1 : Int32)), .val (.ref b14), .val (.ref b19), .val (.int (0 : Int32)), .val (.int (0 : Int32))] n0_217 rfl ?_
      refine w_goto X25 hx hby n0_219 ?_
      refine w_iload X25 hx hby n0_294 rfl ?_
      refine w_iload X25 hx hby n0_296 rfl ?_
      refine f_icmp_ne X25 hx hby n0_298 (fun q298 => by exact absurd q298 (by decide)) (fun q298 => ?_)
      refine w_iconst X25 hx hby (1 : Int32) n0_301 rfl ?_
      refine w_goto X25 hx hby n0_302 ?_
      refine w_retN X25 hx hby hh25 hlk hret (by simp) n0_306 (by decide) (by decide) ?_
      exact ⟨rfl, N22⟩
    · rw [List.append_nil] at X25
      show Wp p e below s _ _ _ T25 (mkF m 206 #[.val (.long x0), .second, .val (.int p2), .val (.int p3), .val (.int p4), .val (.long x5), .second, .val (.int p7), .val (.long t0), .second, .val (.long t1), .second, .val (.long t2), .second, .val (.long f), .second, .val (.long u), .second, .val (.long s1), .second, .val (.int (1 : Int32)), .val (.ref b14), .val (.ref b19), .unset, .unset] [(.int ((Int32.ofNat r3 - Int32.ofNat r1) + 1))])
      refine w_istore X25 hx hby #[.val (.long x0), .second, .val (.int p2), .val (.int p3), .val (.int p4), .val (.long x5), .second, .val (.int p7), .val (.long t0), .second, .val (.long t1), .second, .val (.long t2), .second, .val (.long f), .second, .val (.long u), .second, .val (.long s1), .second, .val (.int (1 : Int32)), .val (.ref b14), .val (.ref b19), .val (.int ((Int32.ofNat r3 - Int32.ofNat r1) + 1)), .unset] n0_206 rfl ?_
      refine w_lload X25 hx hby n0_208 rfl ?_
      refine w_lload X25 hx hby n0_210 rfl ?_
      refine f_lcmp_gt X25 hx hby n0_212 n0_213 (fun q212 => ?_) (fun q212 => by exact absurd qs q212)
      refine w_iconst X25 hx hby (1 : Int32) n0_222 rfl ?_
      refine w_lload X25 hx hby n0_223 rfl ?_
      refine w_iload X25 hx hby n0_225 rfl ?_
      refine w_iconst X25 hx hby (1 : Int32) n0_227 rfl ?_
      refine f_icmp_lt X25 hx hby n0_228 (fun q228 => by exact absurd q228 (by decide)) (fun q228 => ?_)
      refine w_iconst X25 hx hby (1 : Int32) n0_231 rfl ?_
      refine w_goto X25 hx hby n0_232 ?_
      refine w_lload X25 hx hby n0_236 rfl ?_
      refine w_lload X25 hx hby n0_238 rfl ?_
      refine w_lload X25 hx hby n0_240 rfl ?_
      refine w_calledp (call_S X25 hx hby hZ hown (argsL := [(.long t0), (.int (1 : Int32)), (.long f), (.long u), (.long s1)]) (rest := [(.int (1 : Int32))]) (Wd := 1) (hw _ t_42) (hw _ t_43) (hw _ t_44) (hw _ t_45) (by decide) (rct l Z a0 hw t0 f u s1 (1 : Int32) T22.heap) rfl n0_242 (by rw [hml]; rfl) (lenOf pd_5679 rfl) rfl (by decide) (by decide) (by decide) (by decide) hh25) rfl rfl fun T26 X26 e26 => ?_
      refine w_iadd X26 hx hby n0_245 ?_
      refine w_lload X26 hx hby n0_246 rfl ?_
      refine w_iload X26 hx hby n0_248 rfl ?_
      refine w_iconst X26 hx hby (2 : Int32) n0_250 rfl ?_
      refine f_icmp_lt X26 hx hby n0_251 (fun q251 => ?_) (fun q251 => by exact absurd q251 (by decide))
      refine w_iconst X26 hx hby (0 : Int32) n0_258 rfl ?_
      refine w_lload X26 hx hby n0_259 rfl ?_
      refine w_lload X26 hx hby n0_261 rfl ?_
      refine w_lload X26 hx hby n0_263 rfl ?_
      refine w_calledp (call_S X26 hx hby hZ hown (argsL := [(.long t1), (.int (0 : Int32)), (.long f), (.long u), (.long s1)]) (rest := [(.int ((1 : Int32) + (own_ct t0 (1 : Int32) f u s1)))]) (Wd := 1) (hw _ t_42) (hw _ t_43) (hw _ t_44) (hw _ t_45) (by decide) (rct l Z a0 hw t1 f u s1 (0 : Int32) T22.heap) rfl n0_265 (by rw [hml]; rfl) (lenOf pd_5679 rfl) rfl (by decide) (by decide) (by decide) (by decide) e26) rfl rfl fun T27 X27 e27 => ?_
      refine w_iadd X27 hx hby n0_268 ?_
      refine w_lload X27 hx hby n0_269 rfl ?_
      refine w_iload X27 hx hby n0_271 rfl ?_
      refine w_iconst X27 hx hby (3 : Int32) n0_273 rfl ?_
      refine f_icmp_lt X27 hx hby n0_274 (fun q274 => ?_) (fun q274 => by exact absurd q274 (by decide))
      refine w_iconst X27 hx hby (0 : Int32) n0_281 rfl ?_
      refine w_lload X27 hx hby n0_282 rfl ?_
      refine w_lload X27 hx hby n0_284 rfl ?_
      refine w_lload X27 hx hby n0_286 rfl ?_
      refine w_calledp (call_S X27 hx hby hZ hown (argsL := [(.long t2), (.int (0 : Int32)), (.long f), (.long u), (.long s1)]) (rest := [(.int (((1 : Int32) + (own_ct t0 (1 : Int32) f u s1)) + (own_ct t1 (0 : Int32) f u s1)))]) (Wd := 1) (hw _ t_42) (hw _ t_43) (hw _ t_44) (hw _ t_45) (by decide) (rct l Z a0 hw t2 f u s1 (0 : Int32) T22.heap) rfl n0_288 (by rw [hml]; rfl) (lenOf pd_5679 rfl) rfl (by decide) (by decide) (by decide) (by decide) e27) rfl rfl fun T28 X28 e28 => ?_
      refine w_iadd X28 hx hby n0_291 ?_
      refine w_istore X28 hx hby #[.val (.long x0), .second, .val (.int p2), .val (.int p3), .val (.int p4), .val (.long x5), .second, .val (.int p7), .val (.long t0), .second, .val (.long t1), .second, .val (.long t2), .second, .val (.long f), .second, .val (.long u), .second, .val (.long s1), .second, .val (.int (1 : Int32)), .val (.ref b14), .val (.ref b19), .val (.int ((Int32.ofNat r3 - Int32.ofNat r1) + 1)), .val (.int ((((1 : Int32) + (own_ct t0 (1 : Int32) f u s1)) + (own_ct t1 (0 : Int32) f u s1)) + (own_ct t2 (0 : Int32) f u s1)))] n0_292 rfl ?_
      refine w_iload X28 hx hby n0_294 rfl ?_
      refine w_iload X28 hx hby n0_296 rfl ?_
      refine f_icmp_ne X28 hx hby n0_298 (fun q298 => by exact absurd (own_fin 1 (by decide) H3 hF1 hF2 hF3 _ _ _ rfl rfl rfl) q298) (fun q298 => ?_)
      refine w_iconst X28 hx hby (1 : Int32) n0_301 rfl ?_
      refine w_goto X28 hx hby n0_302 ?_
      refine w_retN X28 hx hby e28 hlk hret (by simp) n0_306 (by decide) (by decide) ?_
      exact ⟨rfl, N22⟩
  · rw [hn]
    refine w_istore X0 hx hby #[.val (.long x0), .second, .val (.int p2), .val (.int p3), .val (.int p4), .val (.long x5), .second, .val (.int p7), .val (.long t0), .second, .val (.long t1), .second, .val (.long t2), .second, .val (.long f), .second, .val (.long u), .second, .val (.long s1), .second, .val (.int (2 : Int32)), .unset, .unset, .unset, .unset] n0_106 rfl ?_
    refine w_iload X0 hx hby n0_108 rfl ?_
    refine f_if_ne X0 hx hby n0_110 (fun q110 => ?_) (fun q110 => by exact absurd q110 (by decide))
    refine w_iload X0 hx hby n0_121 rfl ?_
    refine w_iconst X0 hx hby (1 : Int32) n0_123 rfl ?_
    refine f_icmp_ne X0 hx hby n0_124 (fun q124 => ?_) (fun q124 => by exact absurd q124 (by decide))
    refine w_iload X0 hx hby n0_140 rfl ?_
    refine w_iconst X0 hx hby (2 : Int32) n0_142 rfl ?_
    refine f_icmp_ne X0 hx hby n0_143 (fun q143 => by exact absurd q143 (by decide)) (fun q143 => ?_)
    refine w_iconst X0 hx hby (2 : Int32) n0_146 rfl ?_
    refine w_newP X0 hx hby hZ (aty := .long) (hw _ t_4) e0 n0_147 (by decide) 2 (by decide) (by decide) (by decide) (by decide) fun T29 h29 b29 k29 g29 X29 e29 E29 A29 => ?_
    have old_b29 : h0.size ≤ b29 := Nat.le_trans (Nat.le_refl h0.size) (Nat.le_of_eq g29.symm)
    have z30 : h0.size ≤ h29.size := Nat.le_trans (Nat.le_refl h0.size) E29.1
    have V29 : Arv Z h29 b29 k29 .long (2 : Int32) [(.long (0 : Int64)), (.long (0 : Int64))] (.long (0 : Int64)) := (Arv.new A29 (by decide)).pad (pad_rep [] (.long (0 : Int64)) 2)
    refine w_dup X29 hx hby n0_149 rfl ?_
    refine w_iconst X29 hx hby (0 : Int32) n0_150 rfl ?_
    refine w_lload X29 hx hby n0_151 rfl ?_
    obtain ⟨cl31, Ar31, qk31, Sz31, Nn31, Ha31, Gf31⟩ := id V29
    refine w_stJ X29 hx hby hZ e29 Ar31 (j := (0 : Int32)) (inb_of Sz31 ⟨by decide, by decide⟩) n0_153 fun T31 h31 X31 e31 W31 => ?_
    have V31 : Arv Z h31 b29 k29 .long (2 : Int32) [(.long t0), (.long (0 : Int64))] (.long (0 : Int64)) := Arv.set Ar31 qk31 Sz31 Nn31 Ha31 Gf31 rfl W31 0 rfl (Nat.le_of_ble_eq_true rfl)
    have N31 := Fr.snoc X31 (Fr.nil h0.size) old_b29
    have z32 : h0.size ≤ h31.size := Nat.le_trans z30 (Keep.of_wr W31).1
    refine w_dup X31 hx hby n0_154 rfl ?_
    refine w_iconst X31 hx hby (1 : Int32) n0_155 rfl ?_
    refine w_lload X31 hx hby n0_156 rfl ?_
    obtain ⟨cl33, Ar33, qk33, Sz33, Nn33, Ha33, Gf33⟩ := id V31
    refine w_stJ X31 hx hby hZ e31 Ar33 (j := (1 : Int32)) (inb_of Sz33 ⟨by decide, by decide⟩) n0_158 fun T33 h33 X33 e33 W33 => ?_
    have V33 : Arv Z h33 b29 k29 .long (2 : Int32) [(.long t0), (.long t1)] (.long (0 : Int64)) := Arv.set Ar33 qk33 Sz33 Nn33 Ha33 Gf33 rfl W33 1 rfl (Nat.le_of_ble_eq_true rfl)
    have N33 := Fr.snoc X33 N31 old_b29
    have z34 : h0.size ≤ h33.size := Nat.le_trans z32 (Keep.of_wr W33).1
    refine w_astore X33 hx hby #[.val (.long x0), .second, .val (.int p2), .val (.int p3), .val (.int p4), .val (.long x5), .second, .val (.int p7), .val (.long t0), .second, .val (.long t1), .second, .val (.long t2), .second, .val (.long f), .second, .val (.long u), .second, .val (.long s1), .second, .val (.int (2 : Int32)), .val (.ref b29), .unset, .unset, .unset] n0_159 rfl rfl ?_
    refine w_goto X33 hx hby n0_161 ?_
    obtain ⟨cl, Ar35, qk35, Sz35, Nn35, Ha35, Gf35⟩ := id V33
    have hV : Vals cl 2 (own_g t0 t1 t2) := ⟨Sz35, by decide, fun j hj => by rw [Ha35 j (by rw [Sz35]; exact hj)]; rcases (by omega : j = 0 ∨ j = 1) with rfl | rfl <;> rfl, fun i j hij hj => by rcases (by omega : i = 0 ∧ j = 1) with ⟨rfl, rfl⟩ <;> simp only [own_g] <;> first | exact H1 | exact H2 | exact Int.lt_trans H1 H2⟩
    refine w_newO X33 hx hby hZ hown (hw _ t_5) (hw _ t_6) (hw _ t_7) e33 n0_184 (by decide) (by decide) fun T36 h36 b36 g36 X36 e36 E36 A36 D36 => ?_
    have ne_b29_b36 : b29 ≠ b36 := Nat.ne_of_lt (Nat.lt_of_lt_of_eq V33.lt g36.symm)
    have old_b36 : h0.size ≤ b36 := Nat.le_trans z34 (Nat.le_of_eq g36.symm)
    have z37 : h0.size ≤ h36.size := Nat.le_trans z34 E36.1
    have F36_timestamps : Fld Z h36 b36 "com/example/panoptes/panoptes/Cuts" "timestamps" "[J" .null := D36 (Or.inr (hw _ t_15)) (ty := (.array .long)) (by decide)
    have F36_inside : Fld Z h36 b36 "com/example/panoptes/panoptes/Cuts" "inside" "I" (.int (0 : Int32)) := D36 (Or.inr (hw _ t_30)) (ty := .int) (by decide)
    have F36_intervals : Fld Z h36 b36 "com/example/panoptes/panoptes/Cuts" "intervals" "I" (.int (0 : Int32)) := D36 (Or.inr (hw _ t_32)) (ty := .int) (by decide)
    have F36_from : Fld Z h36 b36 "com/example/panoptes/panoptes/Cuts" "from" "J" (.long (0 : Int64)) := D36 (Or.inr (hw _ t_34)) (ty := .long) (by decide)
    have F36_to : Fld Z h36 b36 "com/example/panoptes/panoptes/Cuts" "to" "J" (.long (0 : Int64)) := D36 (Or.inr (hw _ t_36)) (ty := .long) (by decide)
    refine w_dup X36 hx hby n0_187 rfl ?_
    refine w_aload X36 hx hby n0_188 rfl rfl ?_
    refine w_lload X36 hx hby n0_190 rfl ?_
    refine w_lload X36 hx hby n0_192 rfl ?_
    have f38 := (Ar35.ext E36)
    refine w_called (call_N X36 hx hby hZ hown (argsL := [(.ref b29), (.long f), (.long u)]) (rest := [(.ref b36)]) (Wd := 1) (a := b36) rfl (hw _ t_8) (hw _ t_9) (hw _ t_7) (hw _ t_10) (by decide) (rci l Z a0 hw b36 b29 cl 2 (own_g t0 t1 t2) f u h36 h0.size z37 old_b36 A36 F36_timestamps F36_inside F36_intervals F36_from F36_to f38 ne_b29_b36 hV) rfl n0_194 (by rw [hml]; rfl) (lenOf pd_4838 rfl) rfl (by decide) (by decide) (by decide) (by decide) e36) fun v39 T39 L39 X39 Q39 => ?_
    obtain ⟨rfl, n39, k39, ea39, r1, r2, hF1, hF2, c39_timestamps, c39_inside, c39_intervals, c39_from, c39_to⟩ := Q39
    have N39 := Fr.app N33 n39
    have z40 : h0.size ≤ T39.heap.size := Nat.le_trans z37 k39.1
    show Wp p e below s _ _ _ T39 (mkF m 197 #[.val (.long x0), .second, .val (.int p2), .val (.int p3), .val (.int p4), .val (.long x5), .second, .val (.int p7), .val (.long t0), .second, .val (.long t1), .second, .val (.long t2), .second, .val (.long f), .second, .val (.long u), .second, .val (.long s1), .second, .val (.int (2 : Int32)), .val (.ref b29), .unset, .unset, .unset] [(.ref b36)])
    refine w_astore X39 hx hby #[.val (.long x0), .second, .val (.int p2), .val (.int p3), .val (.int p4), .val (.long x5), .second, .val (.int p7), .val (.long t0), .second, .val (.long t1), .second, .val (.long t2), .second, .val (.long f), .second, .val (.long u), .second, .val (.long s1), .second, .val (.int (2 : Int32)), .val (.ref b29), .val (.ref b36), .unset, .unset] n0_197 rfl rfl ?_
    refine w_aload X39 hx hby n0_199 rfl rfl ?_
    refine w_lload X39 hx hby n0_201 rfl ?_
    have f41 := (own_arr_keep f38 k39 (ninS ne_b29_b36 nin0))
    refine w_called (call_V X39 hx hby hZ hown (argsL := [(.long s1)]) (rest := []) (Wd := 0) (a := b36) (hw _ t_37) (hw _ t_38) (hw _ t_40) (hw _ t_39) (hw _ t_7) (hw _ t_41) (by decide) ea39 (rpo l Z a0 hw b36 b29 cl 2 (own_g t0 t1 t2) f u s1 r1 r2 T39.heap c39_timestamps c39_inside c39_intervals c39_from c39_to f41 hV hF1 hF2) rfl n0_203 (by rw [hml]; rfl) (lenOf pd_1971 rfl) rfl (by decide) (by decide) (by decide) (by decide) rfl) fun v42 T42 L42 X42 Q42 => ?_
    rcases Q42 with ⟨qs, rfl, hh42, rfl⟩ | ⟨qs, r3, hF3, rfl, hh42, rfl⟩
    · rw [List.append_nil] at X42
      show Wp p e below s _ _ _ T42 (mkF m 206 #[.val (.long x0), .second, .val (.int p2), .val (.int p3), .val (.int p4), .val (.long x5), .second, .val (.int p7), .val (.long t0), .second, .val (.long t1), .second, .val (.long t2), .second, .val (.long f), .second, .val (.long u), .second, .val (.long s1), .second, .val (.int (2 : Int32)), .val (.ref b29), .val (.ref b36), .unset, .unset] [(.int (0 : Int32))])
      refine w_istore X42 hx hby #[.val (.long x0), .second, .val (.int p2), .val (.int p3), .val (.int p4), .val (.long x5), .second, .val (.int p7), .val (.long t0), .second, .val (.long t1), .second, .val (.long t2), .second, .val (.long f), .second, .val (.long u), .second, .val (.long s1), .second, .val (.int (2 : Int32)), .val (.ref b29), .val (.ref b36), .val (.int (0 : Int32)), .unset] n0_206 rfl ?_
      refine w_lload X42 hx hby n0_208 rfl ?_
      refine w_lload X42 hx hby n0_210 rfl ?_
      refine f_lcmp_gt X42 hx hby n0_212 n0_213 (fun q212 => by exact absurd q212 qs) (fun q212 => ?_)
      refine w_iconst X42 hx hby (0 : Int32) n0_216 rfl ?_
      refine w_istore X42 hx hby #[.val (.long x0), .second, .val (.int p2), .val (.int p3), .val (.int p4), .val (.long x5), .second, .val (.int p7), .val (.long t0), .second, .val (.long t1), .second, .val (.long t2), .second, .val (.long f), .second, .val (.long u), .second, .val (.long s1), .second, .val (.int (2 : Int32)), .val (.ref b29), .val (.ref b36), .val (.int (0 : Int32)), .val (.int (0 : Int32))] n0_217 rfl ?_
      refine w_goto X42 hx hby n0_219 ?_
      refine w_iload X42 hx hby n0_294 rfl ?_
      refine w_iload X42 hx hby n0_296 rfl ?_
      refine f_icmp_ne X42 hx hby n0_298 (fun q298 => by exact absurd q298 (by decide)) (fun q298 => ?_)
      refine w_iconst X42 hx hby (1 : Int32) n0_301 rfl ?_
      refine w_goto X42 hx hby n0_302 ?_
      refine w_retN X42 hx hby hh42 hlk hret (by simp) n0_306 (by decide) (by decide) ?_
      exact ⟨rfl, N39⟩
    · rw [List.append_nil] at X42
      show Wp p e below s _ _ _ T42 (mkF m 206 #[.val (.long x0), .second, .val (.int p2), .val (.int p3), .val (.int p4), .val (.long x5), .second, .val (.int p7), .val (.long t0), .second, .val (.long t1), .second, .val (.long t2), .second, .val (.long f), .second, .val (.long u), .second, .val (.long s1), .second, .val (.int (2 : Int32)), .val (.ref b29), .val (.ref b36), .unset, .unset] [(.int ((Int32.ofNat r3 - Int32.ofNat r1) + 1))])
      refine w_istore X42 hx hby #[.val (.long x0), .second, .val (.int p2), .val (.int p3), .val (.int p4), .val (.long x5), .second, .val (.int p7), .val (.long t0), .second, .val (.long t1), .second, .val (.long t2), .second, .val (.long f), .second, .val (.long u), .second, .val (.long s1), .second, .val (.int (2 : Int32)), .val (.ref b29), .val (.ref b36), .val (.int ((Int32.ofNat r3 - Int32.ofNat r1) + 1)), .unset] n0_206 rfl ?_
      refine w_lload X42 hx hby n0_208 rfl ?_
      refine w_lload X42 hx hby n0_210 rfl ?_
      refine f_lcmp_gt X42 hx hby n0_212 n0_213 (fun q212 => ?_) (fun q212 => by exact absurd qs q212)
      refine w_iconst X42 hx hby (1 : Int32) n0_222 rfl ?_
      refine w_lload X42 hx hby n0_223 rfl ?_
      refine w_iload X42 hx hby n0_225 rfl ?_
      refine w_iconst X42 hx hby (1 : Int32) n0_227 rfl ?_
      refine f_icmp_lt X42 hx hby n0_228 (fun q228 => by exact absurd q228 (by decide)) (fun q228 => ?_)
      refine w_iconst X42 hx hby (1 : Int32) n0_231 rfl ?_
      refine w_goto X42 hx hby n0_232 ?_
      refine w_lload X42 hx hby n0_236 rfl ?_
      refine w_lload X42 hx hby n0_238 rfl ?_
      refine w_lload X42 hx hby n0_240 rfl ?_
      refine w_calledp (call_S X42 hx hby hZ hown (argsL := [(.long t0), (.int (1 : Int32)), (.long f), (.long u), (.long s1)]) (rest := [(.int (1 : Int32))]) (Wd := 1) (hw _ t_42) (hw _ t_43) (hw _ t_44) (hw _ t_45) (by decide) (rct l Z a0 hw t0 f u s1 (1 : Int32) T39.heap) rfl n0_242 (by rw [hml]; rfl) (lenOf pd_5679 rfl) rfl (by decide) (by decide) (by decide) (by decide) hh42) rfl rfl fun T43 X43 e43 => ?_
      refine w_iadd X43 hx hby n0_245 ?_
      refine w_lload X43 hx hby n0_246 rfl ?_
      refine w_iload X43 hx hby n0_248 rfl ?_
      refine w_iconst X43 hx hby (2 : Int32) n0_250 rfl ?_
      refine f_icmp_lt X43 hx hby n0_251 (fun q251 => by exact absurd q251 (by decide)) (fun q251 => ?_)
      refine w_iconst X43 hx hby (1 : Int32) n0_254 rfl ?_
      refine w_goto X43 hx hby n0_255 ?_
      refine w_lload X43 hx hby n0_259 rfl ?_
      refine w_lload X43 hx hby n0_261 rfl ?_
      refine w_lload X43 hx hby n0_263 rfl ?_
      refine w_calledp (call_S X43 hx hby hZ hown (argsL := [(.long t1), (.int (1 : Int32)), (.long f), (.long u), (.long s1)]) (rest := [(.int ((1 : Int32) + (own_ct t0 (1 : Int32) f u s1)))]) (Wd := 1) (hw _ t_42) (hw _ t_43) (hw _ t_44) (hw _ t_45) (by decide) (rct l Z a0 hw t1 f u s1 (1 : Int32) T39.heap) rfl n0_265 (by rw [hml]; rfl) (lenOf pd_5679 rfl) rfl (by decide) (by decide) (by decide) (by decide) e43) rfl rfl fun T44 X44 e44 => ?_
      refine w_iadd X44 hx hby n0_268 ?_
      refine w_lload X44 hx hby n0_269 rfl ?_
      refine w_iload X44 hx hby n0_271 rfl ?_
      refine w_iconst X44 hx hby (3 : Int32) n0_273 rfl ?_
      refine f_icmp_lt X44 hx hby n0_274 (fun q274 => ?_) (fun q274 => by exact absurd q274 (by decide))
      refine w_iconst X44 hx hby (0 : Int32) n0_281 rfl ?_
      refine w_lload X44 hx hby n0_282 rfl ?_
      refine w_lload X44 hx hby n0_284 rfl ?_
      refine w_lload X44 hx hby n0_286 rfl ?_
      refine w_calledp (call_S X44 hx hby hZ hown (argsL := [(.long t2), (.int (0 : Int32)), (.long f), (.long u), (.long s1)]) (rest := [(.int (((1 : Int32) + (own_ct t0 (1 : Int32) f u s1)) + (own_ct t1 (1 : Int32) f u s1)))]) (Wd := 1) (hw _ t_42) (hw _ t_43) (hw _ t_44) (hw _ t_45) (by decide) (rct l Z a0 hw t2 f u s1 (0 : Int32) T39.heap) rfl n0_288 (by rw [hml]; rfl) (lenOf pd_5679 rfl) rfl (by decide) (by decide) (by decide) (by decide) e44) rfl rfl fun T45 X45 e45 => ?_
      refine w_iadd X45 hx hby n0_291 ?_
      refine w_istore X45 hx hby #[.val (.long x0), .second, .val (.int p2), .val (.int p3), .val (.int p4), .val (.long x5), .second, .val (.int p7), .val (.long t0), .second, .val (.long t1), .second, .val (.long t2), .second, .val (.long f), .second, .val (.long u), .second, .val (.long s1), .second, .val (.int (2 : Int32)), .val (.ref b29), .val (.ref b36), .val (.int ((Int32.ofNat r3 - Int32.ofNat r1) + 1)), .val (.int ((((1 : Int32) + (own_ct t0 (1 : Int32) f u s1)) + (own_ct t1 (1 : Int32) f u s1)) + (own_ct t2 (0 : Int32) f u s1)))] n0_292 rfl ?_
      refine w_iload X45 hx hby n0_294 rfl ?_
      refine w_iload X45 hx hby n0_296 rfl ?_
      refine f_icmp_ne X45 hx hby n0_298 (fun q298 => by exact absurd (own_fin 2 (by decide) H3 hF1 hF2 hF3 _ _ _ rfl rfl rfl) q298) (fun q298 => ?_)
      refine w_iconst X45 hx hby (1 : Int32) n0_301 rfl ?_
      refine w_goto X45 hx hby n0_302 ?_
      refine w_retN X45 hx hby e45 hlk hret (by simp) n0_306 (by decide) (by decide) ?_
      exact ⟨rfl, N39⟩
  · rw [hn]
    refine w_istore X0 hx hby #[.val (.long x0), .second, .val (.int p2), .val (.int p3), .val (.int p4), .val (.long x5), .second, .val (.int p7), .val (.long t0), .second, .val (.long t1), .second, .val (.long t2), .second, .val (.long f), .second, .val (.long u), .second, .val (.long s1), .second, .val (.int (3 : Int32)), .unset, .unset, .unset, .unset] n0_106 rfl ?_
    refine w_iload X0 hx hby n0_108 rfl ?_
    refine f_if_ne X0 hx hby n0_110 (fun q110 => ?_) (fun q110 => by exact absurd q110 (by decide))
    refine w_iload X0 hx hby n0_121 rfl ?_
    refine w_iconst X0 hx hby (1 : Int32) n0_123 rfl ?_
    refine f_icmp_ne X0 hx hby n0_124 (fun q124 => ?_) (fun q124 => by exact absurd q124 (by decide))
    refine w_iload X0 hx hby n0_140 rfl ?_
    refine w_iconst X0 hx hby (2 : Int32) n0_142 rfl ?_
    refine f_icmp_ne X0 hx hby n0_143 (fun q143 => ?_) (fun q143 => by exact absurd q143 (by decide))
    refine w_iconst X0 hx hby (3 : Int32) n0_164 rfl ?_
    refine w_newP X0 hx hby hZ (aty := .long) (hw _ t_4) e0 n0_165 (by decide) 3 (by decide) (by decide) (by decide) (by decide) fun T46 h46 b46 k46 g46 X46 e46 E46 A46 => ?_
    have old_b46 : h0.size ≤ b46 := Nat.le_trans (Nat.le_refl h0.size) (Nat.le_of_eq g46.symm)
    have z47 : h0.size ≤ h46.size := Nat.le_trans (Nat.le_refl h0.size) E46.1
    have V46 : Arv Z h46 b46 k46 .long (3 : Int32) [(.long (0 : Int64)), (.long (0 : Int64)), (.long (0 : Int64))] (.long (0 : Int64)) := (Arv.new A46 (by decide)).pad (pad_rep [] (.long (0 : Int64)) 3)
    refine w_dup X46 hx hby n0_167 rfl ?_
    refine w_iconst X46 hx hby (0 : Int32) n0_168 rfl ?_
    refine w_lload X46 hx hby n0_169 rfl ?_
    obtain ⟨cl48, Ar48, qk48, Sz48, Nn48, Ha48, Gf48⟩ := id V46
    refine w_stJ X46 hx hby hZ e46 Ar48 (j := (0 : Int32)) (inb_of Sz48 ⟨by decide, by decide⟩) n0_171 fun T48 h48 X48 e48 W48 => ?_
    have V48 : Arv Z h48 b46 k46 .long (3 : Int32) [(.long t0), (.long (0 : Int64)), (.long (0 : Int64))] (.long (0 : Int64)) := Arv.set Ar48 qk48 Sz48 Nn48 Ha48 Gf48 rfl W48 0 rfl (Nat.le_of_ble_eq_true rfl)
    have N48 := Fr.snoc X48 (Fr.nil h0.size) old_b46
    have z49 : h0.size ≤ h48.size := Nat.le_trans z47 (Keep.of_wr W48).1
    refine w_dup X48 hx hby n0_172 rfl ?_
    refine w_iconst X48 hx hby (1 : Int32) n0_173 rfl ?_
    refine w_lload X48 hx hby n0_174 rfl ?_
    obtain ⟨cl50, Ar50, qk50, Sz50, Nn50, Ha50, Gf50⟩ := id V48
    refine w_stJ X48 hx hby hZ e48 Ar50 (j := (1 : Int32)) (inb_of Sz50 ⟨by decide, by decide⟩) n0_176 fun T50 h50 X50 e50 W50 => ?_
    have V50 : Arv Z h50 b46 k46 .long (3 : Int32) [(.long t0), (.long t1), (.long (0 : Int64))] (.long (0 : Int64)) := Arv.set Ar50 qk50 Sz50 Nn50 Ha50 Gf50 rfl W50 1 rfl (Nat.le_of_ble_eq_true rfl)
    have N50 := Fr.snoc X50 N48 old_b46
    have z51 : h0.size ≤ h50.size := Nat.le_trans z49 (Keep.of_wr W50).1
    refine w_dup X50 hx hby n0_177 rfl ?_
    refine w_iconst X50 hx hby (2 : Int32) n0_178 rfl ?_
    refine w_lload X50 hx hby n0_179 rfl ?_
    obtain ⟨cl52, Ar52, qk52, Sz52, Nn52, Ha52, Gf52⟩ := id V50
    refine w_stJ X50 hx hby hZ e50 Ar52 (j := (2 : Int32)) (inb_of Sz52 ⟨by decide, by decide⟩) n0_181 fun T52 h52 X52 e52 W52 => ?_
    have V52 : Arv Z h52 b46 k46 .long (3 : Int32) [(.long t0), (.long t1), (.long t2)] (.long (0 : Int64)) := Arv.set Ar52 qk52 Sz52 Nn52 Ha52 Gf52 rfl W52 2 rfl (Nat.le_of_ble_eq_true rfl)
    have N52 := Fr.snoc X52 N50 old_b46
    have z53 : h0.size ≤ h52.size := Nat.le_trans z51 (Keep.of_wr W52).1
    refine w_astore X52 hx hby #[.val (.long x0), .second, .val (.int p2), .val (.int p3), .val (.int p4), .val (.long x5), .second, .val (.int p7), .val (.long t0), .second, .val (.long t1), .second, .val (.long t2), .second, .val (.long f), .second, .val (.long u), .second, .val (.long s1), .second, .val (.int (3 : Int32)), .val (.ref b46), .unset, .unset, .unset] n0_182 rfl rfl ?_
    obtain ⟨cl, Ar54, qk54, Sz54, Nn54, Ha54, Gf54⟩ := id V52
    have hV : Vals cl 3 (own_g t0 t1 t2) := ⟨Sz54, by decide, fun j hj => by rw [Ha54 j (by rw [Sz54]; exact hj)]; rcases (by omega : j = 0 ∨ j = 1 ∨ j = 2) with rfl | rfl | rfl <;> rfl, fun i j hij hj => by rcases (by omega : i = 0 ∧ j = 1 ∨ i = 0 ∧ j = 2 ∨ i = 1 ∧ j = 2) with ⟨rfl, rfl⟩ | ⟨rfl, rfl⟩ | ⟨rfl, rfl⟩ <;> simp only [own_g] <;> first | exact H1 | exact H2 | exact Int.lt_trans H1 H2⟩
    refine w_newO X52 hx hby hZ hown (hw _ t_5) (hw _ t_6) (hw _ t_7) e52 n0_184 (by decide) (by decide) fun T55 h55 b55 g55 X55 e55 E55 A55 D55 => ?_
    have ne_b46_b55 : b46 ≠ b55 := Nat.ne_of_lt (Nat.lt_of_lt_of_eq V52.lt g55.symm)
    have old_b55 : h0.size ≤ b55 := Nat.le_trans z53 (Nat.le_of_eq g55.symm)
    have z56 : h0.size ≤ h55.size := Nat.le_trans z53 E55.1
    have F55_timestamps : Fld Z h55 b55 "com/example/panoptes/panoptes/Cuts" "timestamps" "[J" .null := D55 (Or.inr (hw _ t_15)) (ty := (.array .long)) (by decide)
    have F55_inside : Fld Z h55 b55 "com/example/panoptes/panoptes/Cuts" "inside" "I" (.int (0 : Int32)) := D55 (Or.inr (hw _ t_30)) (ty := .int) (by decide)
    have F55_intervals : Fld Z h55 b55 "com/example/panoptes/panoptes/Cuts" "intervals" "I" (.int (0 : Int32)) := D55 (Or.inr (hw _ t_32)) (ty := .int) (by decide)
    have F55_from : Fld Z h55 b55 "com/example/panoptes/panoptes/Cuts" "from" "J" (.long (0 : Int64)) := D55 (Or.inr (hw _ t_34)) (ty := .long) (by decide)
    have F55_to : Fld Z h55 b55 "com/example/panoptes/panoptes/Cuts" "to" "J" (.long (0 : Int64)) := D55 (Or.inr (hw _ t_36)) (ty := .long) (by decide)
    refine w_dup X55 hx hby n0_187 rfl ?_
    refine w_aload X55 hx hby n0_188 rfl rfl ?_
    refine w_lload X55 hx hby n0_190 rfl ?_
    refine w_lload X55 hx hby n0_192 rfl ?_
    have f57 := (Ar54.ext E55)
    refine w_called (call_N X55 hx hby hZ hown (argsL := [(.ref b46), (.long f), (.long u)]) (rest := [(.ref b55)]) (Wd := 1) (a := b55) rfl (hw _ t_8) (hw _ t_9) (hw _ t_7) (hw _ t_10) (by decide) (rci l Z a0 hw b55 b46 cl 3 (own_g t0 t1 t2) f u h55 h0.size z56 old_b55 A55 F55_timestamps F55_inside F55_intervals F55_from F55_to f57 ne_b46_b55 hV) rfl n0_194 (by rw [hml]; rfl) (lenOf pd_4838 rfl) rfl (by decide) (by decide) (by decide) (by decide) e55) fun v58 T58 L58 X58 Q58 => ?_
    obtain ⟨rfl, n58, k58, ea58, r1, r2, hF1, hF2, c58_timestamps, c58_inside, c58_intervals, c58_from, c58_to⟩ := Q58
    have N58 := Fr.app N52 n58
    have z59 : h0.size ≤ T58.heap.size := Nat.le_trans z56 k58.1
    show Wp p e below s _ _ _ T58 (mkF m 197 #[.val (.long x0), .second, .val (.int p2), .val (.int p3), .val (.int p4), .val (.long x5), .second, .val (.int p7), .val (.long t0), .second, .val (.long t1), .second, .val (.long t2), .second, .val (.long f), .second, .val (.long u), .second, .val (.long s1), .second, .val (.int (3 : Int32)), .val (.ref b46), .unset, .unset, .unset] [(.ref b55)])
    refine w_astore X58 hx hby #[.val (.long x0), .second, .val (.int p2), .val (.int p3), .val (.int p4), .val (.long x5), .second, .val (.int p7), .val (.long t0), .second, .val (.long t1), .second, .val (.long t2), .second, .val (.long f), .second, .val (.long u), .second, .val (.long s1), .second, .val (.int (3 : Int32)), .val (.ref b46), .val (.ref b55), .unset, .unset] n0_197 rfl rfl ?_
    refine w_aload X58 hx hby n0_199 rfl rfl ?_
    refine w_lload X58 hx hby n0_201 rfl ?_
    have f60 := (own_arr_keep f57 k58 (ninS ne_b46_b55 nin0))
    refine w_called (call_V X58 hx hby hZ hown (argsL := [(.long s1)]) (rest := []) (Wd := 0) (a := b55) (hw _ t_37) (hw _ t_38) (hw _ t_40) (hw _ t_39) (hw _ t_7) (hw _ t_41) (by decide) ea58 (rpo l Z a0 hw b55 b46 cl 3 (own_g t0 t1 t2) f u s1 r1 r2 T58.heap c58_timestamps c58_inside c58_intervals c58_from c58_to f60 hV hF1 hF2) rfl n0_203 (by rw [hml]; rfl) (lenOf pd_1971 rfl) rfl (by decide) (by decide) (by decide) (by decide) rfl) fun v61 T61 L61 X61 Q61 => ?_
    rcases Q61 with ⟨qs, rfl, hh61, rfl⟩ | ⟨qs, r3, hF3, rfl, hh61, rfl⟩
    · rw [List.append_nil] at X61
      show Wp p e below s _ _ _ T61 (mkF m 206 #[.val (.long x0), .second, .val (.int p2), .val (.int p3), .val (.int p4), .val (.long x5), .second, .val (.int p7), .val (.long t0), .second, .val (.long t1), .second, .val (.long t2), .second, .val (.long f), .second, .val (.long u), .second, .val (.long s1), .second, .val (.int (3 : Int32)), .val (.ref b46), .val (.ref b55), .unset, .unset] [(.int (0 : Int32))])
      refine w_istore X61 hx hby #[.val (.long x0), .second, .val (.int p2), .val (.int p3), .val (.int p4), .val (.long x5), .second, .val (.int p7), .val (.long t0), .second, .val (.long t1), .second, .val (.long t2), .second, .val (.long f), .second, .val (.long u), .second, .val (.long s1), .second, .val (.int (3 : Int32)), .val (.ref b46), .val (.ref b55), .val (.int (0 : Int32)), .unset] n0_206 rfl ?_
      refine w_lload X61 hx hby n0_208 rfl ?_
      refine w_lload X61 hx hby n0_210 rfl ?_
      refine f_lcmp_gt X61 hx hby n0_212 n0_213 (fun q212 => by exact absurd q212 qs) (fun q212 => ?_)
      refine w_iconst X61 hx hby (0 : Int32) n0_216 rfl ?_
      refine w_istore X61 hx hby #[.val (.long x0), .second, .val (.int p2), .val (.int p3), .val (.int p4), .val (.long x5), .second, .val (.int p7), .val (.long t0), .second, .val (.long t1), .second, .val (.long t2), .second, .val (.long f), .second, .val (.long u), .second, .val (.long s1), .second, .val (.int (3 : Int32)), .val (.ref b46), .val (.ref b55), .val (.int (0 : Int32)), .val (.int (0 : Int32))] n0_217 rfl ?_
      refine w_goto X61 hx hby n0_219 ?_
      refine w_iload X61 hx hby n0_294 rfl ?_
      refine w_iload X61 hx hby n0_296 rfl ?_
      refine f_icmp_ne X61 hx hby n0_298 (fun q298 => by exact absurd q298 (by decide)) (fun q298 => ?_)
      refine w_iconst X61 hx hby (1 : Int32) n0_301 rfl ?_
      refine w_goto X61 hx hby n0_302 ?_
      refine w_retN X61 hx hby hh61 hlk hret (by simp) n0_306 (by decide) (by decide) ?_
      exact ⟨rfl, N58⟩
    · rw [List.append_nil] at X61
      show Wp p e below s _ _ _ T61 (mkF m 206 #[.val (.long x0), .second, .val (.int p2), .val (.int p3), .val (.int p4), .val (.long x5), .second, .val (.int p7), .val (.long t0), .second, .val (.long t1), .second, .val (.long t2), .second, .val (.long f), .second, .val (.long u), .second, .val (.long s1), .second, .val (.int (3 : Int32)), .val (.ref b46), .val (.ref b55), .unset, .unset] [(.int ((Int32.ofNat r3 - Int32.ofNat r1) + 1))])
      refine w_istore X61 hx hby #[.val (.long x0), .second, .val (.int p2), .val (.int p3), .val (.int p4), .val (.long x5), .second, .val (.int p7), .val (.long t0), .second, .val (.long t1), .second, .val (.long t2), .second, .val (.long f), .second, .val (.long u), .second, .val (.long s1), .second, .val (.int (3 : Int32)), .val (.ref b46), .val (.ref b55), .val (.int ((Int32.ofNat r3 - Int32.ofNat r1) + 1)), .unset] n0_206 rfl ?_
      refine w_lload X61 hx hby n0_208 rfl ?_
      refine w_lload X61 hx hby n0_210 rfl ?_
      refine f_lcmp_gt X61 hx hby n0_212 n0_213 (fun q212 => ?_) (fun q212 => by exact absurd qs q212)
      refine w_iconst X61 hx hby (1 : Int32) n0_222 rfl ?_
      refine w_lload X61 hx hby n0_223 rfl ?_
      refine w_iload X61 hx hby n0_225 rfl ?_
      refine w_iconst X61 hx hby (1 : Int32) n0_227 rfl ?_
      refine f_icmp_lt X61 hx hby n0_228 (fun q228 => by exact absurd q228 (by decide)) (fun q228 => ?_)
      refine w_iconst X61 hx hby (1 : Int32) n0_231 rfl ?_
      refine w_goto X61 hx hby n0_232 ?_
      refine w_lload X61 hx hby n0_236 rfl ?_
      refine w_lload X61 hx hby n0_238 rfl ?_
      refine w_lload X61 hx hby n0_240 rfl ?_
      refine w_calledp (call_S X61 hx hby hZ hown (argsL := [(.long t0), (.int (1 : Int32)), (.long f), (.long u), (.long s1)]) (rest := [(.int (1 : Int32))]) (Wd := 1) (hw _ t_42) (hw _ t_43) (hw _ t_44) (hw _ t_45) (by decide) (rct l Z a0 hw t0 f u s1 (1 : Int32) T58.heap) rfl n0_242 (by rw [hml]; rfl) (lenOf pd_5679 rfl) rfl (by decide) (by decide) (by decide) (by decide) hh61) rfl rfl fun T62 X62 e62 => ?_
      refine w_iadd X62 hx hby n0_245 ?_
      refine w_lload X62 hx hby n0_246 rfl ?_
      refine w_iload X62 hx hby n0_248 rfl ?_
      refine w_iconst X62 hx hby (2 : Int32) n0_250 rfl ?_
      refine f_icmp_lt X62 hx hby n0_251 (fun q251 => by exact absurd q251 (by decide)) (fun q251 => ?_)
      refine w_iconst X62 hx hby (1 : Int32) n0_254 rfl ?_
      refine w_goto X62 hx hby n0_255 ?_
      refine w_lload X62 hx hby n0_259 rfl ?_
      refine w_lload X62 hx hby n0_261 rfl ?_
      refine w_lload X62 hx hby n0_263 rfl ?_
      refine w_calledp (call_S X62 hx hby hZ hown (argsL := [(.long t1), (.int (1 : Int32)), (.long f), (.long u), (.long s1)]) (rest := [(.int ((1 : Int32) + (own_ct t0 (1 : Int32) f u s1)))]) (Wd := 1) (hw _ t_42) (hw _ t_43) (hw _ t_44) (hw _ t_45) (by decide) (rct l Z a0 hw t1 f u s1 (1 : Int32) T58.heap) rfl n0_265 (by rw [hml]; rfl) (lenOf pd_5679 rfl) rfl (by decide) (by decide) (by decide) (by decide) e62) rfl rfl fun T63 X63 e63 => ?_
      refine w_iadd X63 hx hby n0_268 ?_
      refine w_lload X63 hx hby n0_269 rfl ?_
      refine w_iload X63 hx hby n0_271 rfl ?_
      refine w_iconst X63 hx hby (3 : Int32) n0_273 rfl ?_
      refine f_icmp_lt X63 hx hby n0_274 (fun q274 => by exact absurd q274 (by decide)) (fun q274 => ?_)
      refine w_iconst X63 hx hby (1 : Int32) n0_277 rfl ?_
      refine w_goto X63 hx hby n0_278 ?_
      refine w_lload X63 hx hby n0_282 rfl ?_
      refine w_lload X63 hx hby n0_284 rfl ?_
      refine w_lload X63 hx hby n0_286 rfl ?_
      refine w_calledp (call_S X63 hx hby hZ hown (argsL := [(.long t2), (.int (1 : Int32)), (.long f), (.long u), (.long s1)]) (rest := [(.int (((1 : Int32) + (own_ct t0 (1 : Int32) f u s1)) + (own_ct t1 (1 : Int32) f u s1)))]) (Wd := 1) (hw _ t_42) (hw _ t_43) (hw _ t_44) (hw _ t_45) (by decide) (rct l Z a0 hw t2 f u s1 (1 : Int32) T58.heap) rfl n0_288 (by rw [hml]; rfl) (lenOf pd_5679 rfl) rfl (by decide) (by decide) (by decide) (by decide) e63) rfl rfl fun T64 X64 e64 => ?_
      refine w_iadd X64 hx hby n0_291 ?_
      refine w_istore X64 hx hby #[.val (.long x0), .second, .val (.int p2), .val (.int p3), .val (.int p4), .val (.long x5), .second, .val (.int p7), .val (.long t0), .second, .val (.long t1), .second, .val (.long t2), .second, .val (.long f), .second, .val (.long u), .second, .val (.long s1), .second, .val (.int (3 : Int32)), .val (.ref b46), .val (.ref b55), .val (.int ((Int32.ofNat r3 - Int32.ofNat r1) + 1)), .val (.int ((((1 : Int32) + (own_ct t0 (1 : Int32) f u s1)) + (own_ct t1 (1 : Int32) f u s1)) + (own_ct t2 (1 : Int32) f u s1)))] n0_292 rfl ?_
      refine w_iload X64 hx hby n0_294 rfl ?_
      refine w_iload X64 hx hby n0_296 rfl ?_
      refine f_icmp_ne X64 hx hby n0_298 (fun q298 => by exact absurd (own_fin 3 (by decide) H3 hF1 hF2 hF3 _ _ _ rfl rfl rfl) q298) (fun q298 => ?_)
      refine w_iconst X64 hx hby (1 : Int32) n0_301 rfl ?_
      refine w_goto X64 hx hby n0_302 ?_
      refine w_retN X64 hx hby e64 hlk hret (by simp) n0_306 (by decide) (by decide) ?_
      exact ⟨rfl, N58⟩
set_option maxRecDepth 65536 in
set_option maxHeartbeats 4000000 in
theorem ef_law0 (m : MethodId) (x0 : Int64) (x1 : Int32) (x2 : Int32) (x3 : Int32) (x4 : Int64) (x5 : Int32) : entryFrame m #[(.long x0), (.int x1), (.int x2), (.int x3), (.long x4), (.int x5)] maxLocals = mkF m 0 #[.val (.long x0), .second, .val (.int x1), .val (.int x2), .val (.int x3), .val (.long x4), .second, .val (.int x5), .unset, .unset, .unset, .unset, .unset, .unset, .unset, .unset, .unset, .unset, .unset, .unset, .unset, .unset, .unset, .unset, .unset] [] := by first | (simp [entryFrame, mkF, argsToLocals, Value.category, maxLocals]; done) | rfl
set_option maxRecDepth 65536 in
set_option maxHeartbeats 40000000 in
theorem law0 (l : Launch) (Z : State) (a0 : Array Value) (hw : ∀ d ∈ tables_1, d.before a0 Z = true) (x0 x5 : Int64) (p2 p3 p4 p7 : Int32) (h0 : Heap) : Con l Z x code maxLocals ret room_1 #[(.long x0), (.int p2), (.int p3), (.int p4), (.long x5), (.int p7)] h0 (fun v h L => v = some (.int 1) ∧ Fr h0.size L) := by
  refine w_body (Ls := #[.val (.long x0), .second, .val (.int p2), .val (.int p3), .val (.int p4), .val (.long x5), .second, .val (.int p7), .unset, .unset, .unset, .unset, .unset, .unset, .unset, .unset, .unset, .unset, .unset, .unset, .unset, .unset, .unset, .unset, .unset]) pn_0 (fun m => ef_law0 m x0 p2 p3 p4 x5 p7) ?_
  intro p e s m below meth c T0 X0 hx hby hml hown hnm hret hlk hZ e0
  have hml : c.maxLocals = 25 := hml
  refine w_lloadN X0 hx hby n0_0 rfl ?_
  refine w_ldc2J X0 hx hby hZ hown (hw _ t_0) n0_1 ?_
  refine f_lcmp_lt X0 hx hby n0_4 n0_5 (fun q4 => ?_) (fun q4 => ?_)
  · refine w_iconst X0 hx hby (1 : Int32) n0_16 rfl ?_
    refine w_retN X0 hx hby e0 hlk hret (by simp) n0_17 (by decide) (by decide) ?_
    exact ⟨rfl, (Fr.nil h0.size)⟩
  · refine w_lloadN X0 hx hby n0_8 rfl ?_
    refine w_ldc2J X0 hx hby hZ hown (hw _ t_1) n0_9 ?_
    refine f_lcmp_le X0 hx hby n0_12 n0_13 (fun q12 => ?_) (fun q12 => ?_)
    · refine w_lloadN X0 hx hby n0_18 rfl ?_
      refine w_lstore X0 hx hby #[.val (.long x0), .second, .val (.int p2), .val (.int p3), .val (.int p4), .val (.long x5), .second, .val (.int p7), .val (.long x0), .second, .unset, .unset, .unset, .unset, .unset, .unset, .unset, .unset, .unset, .unset, .unset, .unset, .unset, .unset, .unset] n0_19 rfl ?_
      refine w_lload X0 hx hby n0_21 rfl ?_
      refine w_lconst X0 hx hby (1 : Int64) n0_23 rfl ?_
      refine w_ladd X0 hx hby n0_24 ?_
      refine w_iloadN X0 hx hby n0_25 rfl ?_
      refine w_bipush X0 hx hby (7 : Int32) n0_26 rfl ?_
      refine w_iand X0 hx hby n0_28 ?_
      refine w_i2l X0 hx hby n0_29 ?_
      refine w_ladd X0 hx hby n0_30 ?_
      refine w_lstore X0 hx hby #[.val (.long x0), .second, .val (.int p2), .val (.int p3), .val (.int p4), .val (.long x5), .second, .val (.int p7), .val (.long x0), .second, .val (.long ((x0 + (1 : Int64)) + ((p2 &&& (7 : Int32)).toInt64))), .second, .unset, .unset, .unset, .unset, .unset, .unset, .unset, .unset, .unset, .unset, .unset, .unset, .unset] n0_31 rfl ?_
      refine w_lload X0 hx hby n0_33 rfl ?_
      refine w_lconst X0 hx hby (1 : Int64) n0_35 rfl ?_
      refine w_ladd X0 hx hby n0_36 ?_
      refine w_iloadN X0 hx hby n0_37 rfl ?_
      refine w_iconst X0 hx hby (3 : Int32) n0_38 rfl ?_
      refine w_iushr X0 hx hby n0_39 ?_
      refine w_bipush X0 hx hby (7 : Int32) n0_40 rfl ?_
      refine w_iand X0 hx hby n0_42 ?_
      refine w_i2l X0 hx hby n0_43 ?_
      refine w_ladd X0 hx hby n0_44 ?_
      refine w_lstore X0 hx hby #[.val (.long x0), .second, .val (.int p2), .val (.int p3), .val (.int p4), .val (.long x5), .second, .val (.int p7), .val (.long x0), .second, .val (.long ((x0 + (1 : Int64)) + ((p2 &&& (7 : Int32)).toInt64))), .second, .val (.long ((((x0 + (1 : Int64)) + ((p2 &&& (7 : Int32)).toInt64)) + (1 : Int64)) + ((((p2.toUInt32 >>> ((3 : Int32) &&& 31).toUInt32).toInt32) &&& (7 : Int32)).toInt64))), .second, .unset, .unset, .unset, .unset, .unset, .unset, .unset, .unset, .unset, .unset, .unset] n0_45 rfl ?_
      refine w_lloadN X0 hx hby n0_47 rfl ?_
      refine w_iloadN X0 hx hby n0_48 rfl ?_
      refine w_bipush X0 hx hby (31 : Int32) n0_49 rfl ?_
      refine w_iand X0 hx hby n0_51 ?_
      refine w_bipush X0 hx hby (8 : Int32) n0_52 rfl ?_
      refine w_isub X0 hx hby n0_54 ?_
      refine w_i2l X0 hx hby n0_55 ?_
      refine w_ladd X0 hx hby n0_56 ?_
      refine w_lstore X0 hx hby #[.val (.long x0), .second, .val (.int p2), .val (.int p3), .val (.int p4), .val (.long x5), .second, .val (.int p7), .val (.long x0), .second, .val (.long ((x0 + (1 : Int64)) + ((p2 &&& (7 : Int32)).toInt64))), .second, .val (.long ((((x0 + (1 : Int64)) + ((p2 &&& (7 : Int32)).toInt64)) + (1 : Int64)) + ((((p2.toUInt32 >>> ((3 : Int32) &&& 31).toUInt32).toInt32) &&& (7 : Int32)).toInt64))), .second, .val (.long (x0 + (((p3 &&& (31 : Int32)) - (8 : Int32)).toInt64))), .second, .unset, .unset, .unset, .unset, .unset, .unset, .unset, .unset, .unset] n0_57 rfl ?_
      refine w_lload X0 hx hby n0_59 rfl ?_
      refine w_lconst X0 hx hby (1 : Int64) n0_61 rfl ?_
      refine w_ladd X0 hx hby n0_62 ?_
      refine w_iload X0 hx hby n0_63 rfl ?_
      refine w_bipush X0 hx hby (31 : Int32) n0_65 rfl ?_
      refine w_iand X0 hx hby n0_67 ?_
      refine w_i2l X0 hx hby n0_68 ?_
      refine w_ladd X0 hx hby n0_69 ?_
      refine w_lstore X0 hx hby #[.val (.long x0), .second, .val (.int p2), .val (.int p3), .val (.int p4), .val (.long x5), .second, .val (.int p7), .val (.long x0), .second, .val (.long ((x0 + (1 : Int64)) + ((p2 &&& (7 : Int32)).toInt64))), .second, .val (.long ((((x0 + (1 : Int64)) + ((p2 &&& (7 : Int32)).toInt64)) + (1 : Int64)) + ((((p2.toUInt32 >>> ((3 : Int32) &&& 31).toUInt32).toInt32) &&& (7 : Int32)).toInt64))), .second, .val (.long (x0 + (((p3 &&& (31 : Int32)) - (8 : Int32)).toInt64))), .second, .val (.long (((x0 + (((p3 &&& (31 : Int32)) - (8 : Int32)).toInt64)) + (1 : Int64)) + ((p4 &&& (31 : Int32)).toInt64))), .second, .unset, .unset, .unset, .unset, .unset, .unset, .unset] n0_70 rfl ?_
      refine w_iload X0 hx hby n0_72 rfl ?_
      refine w_iconst X0 hx hby (1 : Int32) n0_74 rfl ?_
      refine w_iand X0 hx hby n0_75 ?_
      refine f_if_eq X0 hx hby n0_76 (fun q76 => ?_) (fun q76 => ?_)
      · refine w_lloadN X0 hx hby n0_86 rfl ?_
        refine w_lload X0 hx hby n0_87 rfl ?_
        refine w_ldc2J X0 hx hby hZ hown (hw _ t_2) n0_89 ?_
        refine w_land X0 hx hby n0_92 ?_
        refine w_ldc2J X0 hx hby hZ hown (hw _ t_3) n0_93 ?_
        refine w_lsub X0 hx hby n0_96 ?_
        refine w_ladd X0 hx hby n0_97 ?_
        refine w_lstore X0 hx hby #[.val (.long x0), .second, .val (.int p2), .val (.int p3), .val (.int p4), .val (.long x5), .second, .val (.int p7), .val (.long x0), .second, .val (.long ((x0 + (1 : Int64)) + ((p2 &&& (7 : Int32)).toInt64))), .second, .val (.long ((((x0 + (1 : Int64)) + ((p2 &&& (7 : Int32)).toInt64)) + (1 : Int64)) + ((((p2.toUInt32 >>> ((3 : Int32) &&& 31).toUInt32).toInt32) &&& (7 : Int32)).toInt64))), .second, .val (.long (x0 + (((p3 &&& (31 : Int32)) - (8 : Int32)).toInt64))), .second, .val (.long (((x0 + (((p3 &&& (31 : Int32)) - (8 : Int32)).toInt64)) + (1 : Int64)) + ((p4 &&& (31 : Int32)).toInt64))), .second, .val (.long (x0 + ((x5 &&& (127 : Int64)) - (16 : Int64)))), .second, .unset, .unset, .unset, .unset, .unset] n0_98 rfl ?_
        obtain ⟨u1, u2, u3⟩ := own_arith x0 p2 p3 q4 q12
        exact tail100 l Z a0 hw x0 x5 x0 ((x0 + (1 : Int64)) + ((p2 &&& (7 : Int32)).toInt64)) ((((x0 + (1 : Int64)) + ((p2 &&& (7 : Int32)).toInt64)) + (1 : Int64)) + ((((p2.toUInt32 >>> ((3 : Int32) &&& 31).toUInt32).toInt32) &&& (7 : Int32)).toInt64)) (x0 + (((p3 &&& (31 : Int32)) - (8 : Int32)).toInt64)) (((x0 + (((p3 &&& (31 : Int32)) - (8 : Int32)).toInt64)) + (1 : Int64)) + ((p4 &&& (31 : Int32)).toInt64)) (x0 + ((x5 &&& (127 : Int64)) - (16 : Int64))) p2 p3 p4 p7 h0 X0 hx hby hml hown hret hlk hZ e0 u1 u2 u3
      · refine w_lload X0 hx hby n0_79 rfl ?_
        refine w_lstore X0 hx hby #[.val (.long x0), .second, .val (.int p2), .val (.int p3), .val (.int p4), .val (.long x5), .second, .val (.int p7), .val (.long x0), .second, .val (.long ((x0 + (1 : Int64)) + ((p2 &&& (7 : Int32)).toInt64))), .second, .val (.long ((((x0 + (1 : Int64)) + ((p2 &&& (7 : Int32)).toInt64)) + (1 : Int64)) + ((((p2.toUInt32 >>> ((3 : Int32) &&& 31).toUInt32).toInt32) &&& (7 : Int32)).toInt64))), .second, .val (.long (x0 + (((p3 &&& (31 : Int32)) - (8 : Int32)).toInt64))), .second, .val (.long (((x0 + (((p3 &&& (31 : Int32)) - (8 : Int32)).toInt64)) + (1 : Int64)) + ((p4 &&& (31 : Int32)).toInt64))), .second, .val (.long x5), .second, .unset, .unset, .unset, .unset, .unset] n0_81 rfl ?_
        refine w_goto X0 hx hby n0_83 ?_
        obtain ⟨u1, u2, u3⟩ := own_arith x0 p2 p3 q4 q12
        exact tail100 l Z a0 hw x0 x5 x0 ((x0 + (1 : Int64)) + ((p2 &&& (7 : Int32)).toInt64)) ((((x0 + (1 : Int64)) + ((p2 &&& (7 : Int32)).toInt64)) + (1 : Int64)) + ((((p2.toUInt32 >>> ((3 : Int32) &&& 31).toUInt32).toInt32) &&& (7 : Int32)).toInt64)) (x0 + (((p3 &&& (31 : Int32)) - (8 : Int32)).toInt64)) (((x0 + (((p3 &&& (31 : Int32)) - (8 : Int32)).toInt64)) + (1 : Int64)) + ((p4 &&& (31 : Int32)).toInt64)) x5 p2 p3 p4 p7 h0 X0 hx hby hml hown hret hlk hZ e0 u1 u2 u3
    · refine w_iconst X0 hx hby (1 : Int32) n0_16 rfl ?_
      refine w_retN X0 hx hby e0 hlk hret (by simp) n0_17 (by decide) (by decide) ?_
      exact ⟨rfl, (Fr.nil h0.size)⟩
set_option maxRecDepth 65536 in
set_option maxHeartbeats 40000000 in
theorem comes_1 {Post : Tables → Env → Array Value → State → Outcome → State → Prop} (hpost : ∀ tb e args s v u, (limb_1_1.after args s (.returned v) u = true ∧ limb_1_2.after args s (.returned v) u = true) → FrameEnd s (.returned v) u (Jvm.fieldLocs frame_1_writes args s ++ Jvm.arrayLocs frame_1_arrays args s ++ Jvm.staticLocs frame_1_statics s) 16 128 → Post tb e args s (.returned v) u) :
    ArmFor flags0 classFile x code maxLocals ret World_1 tables_1 room_1 Calls_1 rest_1 Pre_1 Post := by
  intro l hfl _ _ p e ha hc hk s m args below hf hA hF happ hP
  obtain ⟨hcalls, hrest, hpre⟩ := hP
  obtain ⟨-, -, -, hnamed, -, -, -, hat⟩ := (Spec.applies_iff hf).mp happ
  obtain ⟨hg, hn⟩ := and_e (Cond.before_iff.mp (show (Jvm.Cond.and given_1 narrow_1).before args s = true from hpre))
  obtain ⟨hcnt, hg⟩ := and_e hg
  obtain ⟨hg0, hg⟩ := and_e hg
  obtain ⟨hg1, hg⟩ := and_e hg
  obtain ⟨hg2, hg⟩ := and_e hg
  obtain ⟨hg3, hg⟩ := and_e hg
  obtain ⟨hg4, hg⟩ := and_e hg
  have hg5 := hg
  obtain ⟨w0, w1, w2, w3, w4, w5, rfl⟩ : ∃ w0 w1 w2 w3 w4 w5 : Value, args = #[w0, w1, w2, w3, w4, w5] := by
    have hs : args.size = 6 := by simpa [Cond.value, given_1] using hcnt
    obtain ⟨L⟩ := args
    match L, hs with
    | [w0, w1, w2, w3, w4, w5], _ => exact ⟨w0, w1, w2, w3, w4, w5, rfl⟩
  have hw := fun d (hd : d ∈ tables_1) => atoms_spec (ws := Jvm.Cond.code x code maxLocals ret :: tables_1) hat d (List.mem_cons_of_mem _ hd)
  have hfit : Fit s := fun {y c} hc i hi => by
    obtain ⟨ha, rfl⟩ := Array.getElem?_eq_some_iff.mp hc
    have q := List.all_eq_true.mp ((Array.all_eq_true_iff_forall_mem.mp hF) _ (Array.getElem_mem ha)) i (List.mem_range.mpr hi)
    simpa [Array.getElem?_eq_getElem hi] using q
  obtain ⟨i0, ei0⟩ := isL_v hg0
  obtain rfl : w0 = (.long i0) := Option.some.inj ei0
  obtain ⟨i1, ei1⟩ := is_v hg1
  obtain rfl : w1 = (.int i1) := Option.some.inj ei1
  obtain ⟨i2, ei2⟩ := is_v hg2
  obtain rfl : w2 = (.int i2) := Option.some.inj ei2
  obtain ⟨i3, ei3⟩ := is_v hg3
  obtain rfl : w3 = (.int i3) := Option.some.inj ei3
  obtain ⟨i4, ei4⟩ := isL_v hg4
  obtain rfl : w4 = (.long i4) := Option.some.inj ei4
  obtain ⟨i5, ei5⟩ := is_v hg5
  obtain rfl : w5 = (.int i5) := Option.some.inj ei5
  obtain ⟨n, o, h1, h2, h3, _, L, rfl, ⟨rfl, N⟩, hq⟩ := law0 l s _ hw i0 i4 i1 i2 i3 i5 s.heap tables_1 p e ha hc hk s m _ below hf ((Spec.applies_iff_loose hf).mp happ).1 ⟨rfl, State.Warmed39.refl s, rfl⟩ trivial
  exact ⟨n, _, h1, h2, h3, hpost _ _ _ _ _ _ ⟨Cond.after_iff.mpr rfl, Cond.after_iff.mpr (eq_i res_at (Term.int_eval (1)) rfl)⟩ ⟨hq.1, hq.2.1, (hq.2.2.sift fun y hy => Or.inr (N y hy)).mono (by decide) (by decide)⟩⟩
theorem main_1_1 : Claimed_1_1 := comes_1 fun _ _ _ _ _ _ h hF => ⟨h.1, hF⟩
theorem main_1_2 : Claimed_1_2 := comes_1 fun _ _ _ _ _ _ h hF => ⟨h.2, hF⟩
end Jvm.Pilot.@@N@@
namespace Jvm.Pilot.@@N@@
open Jvm Jvm.ClassFile Sem Op Lib Jvm.Free Jvm.Stand Jvm.Pilot.@@N@@.Jvm.D
/-! MADE BY PROGRAM (witnessworld.py) out of the Statement's table words and the real class files: 12 classes; the members and pool entries that the words name. The judged class is class 1, her method 2. -/
namespace start1
open Jvm.ClassFile
def u (s : String) : CpInfo := .utf8 (stringToUtf16 s)
/-- a pool by its gaps: so many unusable entries, then the entry; so many at the end -/
def gap : Nat → List CpInfo → List CpInfo
  | 0, r => r
  | n + 1, r => .unusable :: gap n r
def poolList (es : List (Nat × CpInfo)) (last : Nat) : List CpInfo := es.foldr (fun e r => gap e.1 (e.2 :: r)) (gap last [])
def pool (es : List (Nat × CpInfo)) (last : Nat) : Array CpInfo := ⟨poolList es last⟩
def fileOf (pool : Array CpInfo) (this : Nat) (attrs : Array Attribute := #[]) (ms : Array MethodInfo := #[]) (fl : Nat := 33) (sup : Nat := 0) (ifs : Array Nat := #[]) (fds : Array FieldInfo := #[]) : ClassFile where
  minorVersion := 0
  majorVersion := 65
  constantPool := pool
  accessFlags := fl
  thisClass := this
  superClass := sup
  interfaces := ifs
  fields := fds
  methods := ms
  attributes := attrs
def plain (name : String) (sup : Option ClassId) : Class where
  name := name
  kind := .ordinary
  loader := none
  accessFlags := 33
  super := sup
  interfaces := #[]
  cf := none
  fields := #[]
  methods := #[]
  instanceTypes := #[]
  staticTypes := #[]
  resolved := #[]
  callSites := []
  init := .initialized
  statics := none
  mirror := none

def pool0 : Array CpInfo := pool [(5, u "<init>"), (0, u "()V"), (1, .class_ 10), (1, u "java/lang/Object")] 113

def k0c0 : Code := { maxStack := 0, maxLocals := 1, code := object_method_1_code, exceptionTable := #[], attributes := #[] }
def k0m0 : Method := { name := "<init>", desc := "()V", sig := { parameters := [], returnType := none }, accessFlags := 1, code := some k0c0 }
/-- java/lang/Object -/
def k0 : Class := { plain "java/lang/Object" none with
  accessFlags := 33
  interfaces := #[]
  cf := some (fileOf pool0 8 #[] #[{ accessFlags := 1, nameIndex := 5, descriptorIndex := 6, attributes := #[] }] 33 0 #[] #[])
  fields := #[]
  methods := #[k0m0]
  instanceTypes := #[]
  staticTypes := #[]
  resolved := Array.replicate 124 none
  statics := none }

def pool1 : Array CpInfo := pool [(2, .class_ 4), (1, u "java/lang/Object"), (0, u "<init>"), (0, u "()V"), (2, .long 9223372036854776064), (1, .long 9223372036854775551), (1, .long 127), (1, .long 16), (1, .class_ 18), (0, u "com/example/panoptes/panoptes/Cuts"), (0, .methodref 17 20), (0, .nameAndType 5 21), (0, u "([JJJ)V"), (0, .methodref 17 23), (0, .nameAndType 24 25), (0, u "position"), (0, u "(J)I"), (0, .methodref 27 28), (0, .class_ 29), (0, .nameAndType 30 31), (0, u "com/example/panoptes/panoptes/CutsPositionPinLaw"), (0, u "counted"), (0, u "(JZJJJ)I"), (3, u "law"), (0, u "(JIIIJI)Z")] 4

def k1m0 : Method := { name := "<init>", desc := "()V", sig := { parameters := [], returnType := none }, accessFlags := 1, code := none }
def k1c1 : Code := { maxStack := 4, maxLocals := 9, code := method_2_code, exceptionTable := #[], attributes := #[] }
def k1m1 : Method := { name := "counted", desc := "(JZJJJ)I", sig := { parameters := [.long, .boolean, .long, .long, .long], returnType := some .int }, accessFlags := 10, code := some k1c1 }
def k1c2 : Code := { maxStack := 10, maxLocals := 25, code := code, exceptionTable := #[], attributes := #[] }
def k1m2 : Method := { name := "law", desc := "(JIIIJI)Z", sig := { parameters := [.long, .int, .int, .int, .long, .int], returnType := some .boolean }, accessFlags := 9, code := some k1c2 }
/-- com/example/panoptes/panoptes/CutsPositionPinLaw -/
def k1 : Class := { plain "com/example/panoptes/panoptes/CutsPositionPinLaw" (some 0) with
  accessFlags := 49
  interfaces := #[]
  cf := some (fileOf pool1 27 #[] #[{ accessFlags := 1, nameIndex := 5, descriptorIndex := 6, attributes := #[] }, { accessFlags := 10, nameIndex := 30, descriptorIndex := 31, attributes := #[] }, { accessFlags := 9, nameIndex := 35, descriptorIndex := 36, attributes := #[] }] 49 2 #[] #[])
  fields := #[]
  methods := #[k1m0, k1m1, k1m2]
  instanceTypes := #[]
  staticTypes := #[]
  resolved := Array.replicate 41 none
  statics := none }

def pool2 : Array CpInfo := pool [(1, .methodref 2 3), (0, .class_ 4), (0, .nameAndType 5 6), (0, u "java/lang/Object"), (0, u "<init>"), (0, u "()V"), (0, .fieldref 8 9), (0, .class_ 10), (0, .nameAndType 11 12), (0, u "com/example/panoptes/panoptes/Cuts"), (0, u "timestamps"), (0, u "[J"), (0, .methodref 8 14), (0, .nameAndType 15 16), (0, u "firstNotBefore"), (0, u "([JIIJ)I"), (0, .fieldref 8 18), (0, .nameAndType 19 20), (0, u "inside"), (0, u "I"), (0, .fieldref 8 22), (0, .nameAndType 23 20), (0, u "intervals"), (0, .fieldref 8 25), (0, .nameAndType 26 27), (0, u "from"), (0, u "J"), (0, .fieldref 8 29), (0, .nameAndType 30 27), (0, u "to"), (0, .methodref 32 33), (0, .class_ 34), (0, .nameAndType 35 16), (0, u "java/util/Arrays"), (0, u "binarySearch"), (0, u "([JJJ)V"), (6, u "position"), (0, u "(J)I")] 2

def k2c0 : Code := { maxStack := 8, maxLocals := 6, code := prog_6_method_1_code, exceptionTable := #[], attributes := #[] }
def k2m0 : Method := { name := "<init>", desc := "([JJJ)V", sig := { parameters := [(.array .long), .long, .long], returnType := none }, accessFlags := 0, code := some k2c0 }
def k2c1 : Code := { maxStack := 5, maxLocals := 4, code := prog_6_method_4_code, exceptionTable := #[], attributes := #[] }
def k2m1 : Method := { name := "position", desc := "(J)I", sig := { parameters := [.long], returnType := some .int }, accessFlags := 0, code := some k2c1 }
def k2c2 : Code := { maxStack := 5, maxLocals := 6, code := prog_6_method_5_code, exceptionTable := #[], attributes := #[] }
def k2m2 : Method := { name := "firstNotBefore", desc := "([JIIJ)I", sig := { parameters := [(.array .long), .int, .int, .long], returnType := some .int }, accessFlags := 10, code := some k2c2 }
/-- com/example/panoptes/panoptes/Cuts -/
def k2 : Class := { plain "com/example/panoptes/panoptes/Cuts" (some 0) with
  accessFlags := 32
  interfaces := #[]
  cf := some (fileOf pool2 8 #[] #[{ accessFlags := 0, nameIndex := 5, descriptorIndex := 36, attributes := #[] }, { accessFlags := 0, nameIndex := 43, descriptorIndex := 44, attributes := #[] }, { accessFlags := 10, nameIndex := 15, descriptorIndex := 16, attributes := #[] }] 32 2 #[] #[{ accessFlags := 18, nameIndex := 11, descriptorIndex := 12, attributes := #[] }, { accessFlags := 18, nameIndex := 19, descriptorIndex := 20, attributes := #[] }, { accessFlags := 18, nameIndex := 23, descriptorIndex := 20, attributes := #[] }, { accessFlags := 18, nameIndex := 26, descriptorIndex := 27, attributes := #[] }, { accessFlags := 18, nameIndex := 30, descriptorIndex := 27, attributes := #[] }])
  fields := #[{ name := "timestamps", type := (.array .long), accessFlags := 18, slot := 0, constantValue := 0 }, { name := "inside", type := .int, accessFlags := 18, slot := 1, constantValue := 0 }, { name := "intervals", type := .int, accessFlags := 18, slot := 2, constantValue := 0 }, { name := "from", type := .long, accessFlags := 18, slot := 3, constantValue := 0 }, { name := "to", type := .long, accessFlags := 18, slot := 4, constantValue := 0 }]
  methods := #[k2m0, k2m1, k2m2]
  instanceTypes := #[(.array .long), .int, .int, .long, .long]
  staticTypes := #[]
  resolved := Array.replicate 47 none
  statics := none }

def pool3 : Array CpInfo := pool [(2, .class_ 4), (1, u "java/lang/Object"), (0, u "<init>"), (0, u "()V"), (6, .methodref 14 15), (0, .class_ 16), (0, .nameAndType 17 18), (0, u "java/util/Arrays"), (0, u "rangeCheck"), (0, u "(III)V"), (55, .class_ 76), (1, u "java/util/Arrays$NaturalOrder"), (36, .class_ 115), (1, u "java/util/Arrays$LegacyMergeSort"), (1, u "Z"), (87, .methodref 14 206), (0, .nameAndType 207 208), (0, u "binarySearch0"), (0, u "([JIIJ)I"), (166, .class_ 376), (0, u "java/util/Arrays$ArrayList"), (68, u "$assertionsDisabled"), (269, u "MIN_ARRAY_SORT_GRAN"), (0, u "I"), (2, u "INSERTIONSORT_THRESHOLD"), (74, u "binarySearch"), (180, .class_ 976), (0, u "java/util/Arrays$ArrayItr")] 52

def k3m0 : Method := { name := "<init>", desc := "()V", sig := { parameters := [], returnType := none }, accessFlags := 2, code := none }
def k3c1 : Code := { maxStack := 4, maxLocals := 3, code := jdk_65_method_30_code, exceptionTable := #[], attributes := #[] }
def k3m1 : Method := { name := "rangeCheck", desc := "(III)V", sig := { parameters := [.int, .int, .int], returnType := none }, accessFlags := 8, code := some k3c1 }
def k3c2 : Code := { maxStack := 5, maxLocals := 5, code := jdk_65_method_55_code, exceptionTable := #[], attributes := #[] }
def k3m2 : Method := { name := "binarySearch", desc := "([JIIJ)I", sig := { parameters := [(.array .long), .int, .int, .long], returnType := some .int }, accessFlags := 9, code := some k3c2 }
def k3c3 : Code := { maxStack := 4, maxLocals := 10, code := jdk_65_method_56_code, exceptionTable := #[], attributes := #[] }
def k3m3 : Method := { name := "binarySearch0", desc := "([JIIJ)I", sig := { parameters := [(.array .long), .int, .int, .long], returnType := some .int }, accessFlags := 10, code := some k3c3 }
/-- java/util/Arrays -/
def k3 : Class := { plain "java/util/Arrays" (some 0) with
  accessFlags := 49
  interfaces := #[]
  cf := some (fileOf pool3 14 #[.nestMembers #[975, 375, 113, 74]] #[{ accessFlags := 2, nameIndex := 5, descriptorIndex := 6, attributes := #[] }, { accessFlags := 8, nameIndex := 17, descriptorIndex := 18, attributes := #[] }, { accessFlags := 9, nameIndex := 794, descriptorIndex := 208, attributes := #[] }, { accessFlags := 10, nameIndex := 207, descriptorIndex := 208, attributes := #[] }] 49 2 #[] #[{ accessFlags := 26, nameIndex := 715, descriptorIndex := 716, attributes := #[] }, { accessFlags := 26, nameIndex := 719, descriptorIndex := 716, attributes := #[] }, { accessFlags := 4120, nameIndex := 445, descriptorIndex := 117, attributes := #[] }])
  fields := #[{ name := "MIN_ARRAY_SORT_GRAN", type := .int, accessFlags := 26, slot := 0, constantValue := 0 }, { name := "INSERTIONSORT_THRESHOLD", type := .int, accessFlags := 26, slot := 1, constantValue := 0 }, { name := "$assertionsDisabled", type := .boolean, accessFlags := 4120, slot := 2, constantValue := 0 }]
  methods := #[k3m0, k3m1, k3m2, k3m3]
  instanceTypes := #[]
  staticTypes := #[.int, .int, .boolean]
  resolved := Array.replicate 1029 none
  statics := none }

def pool4 : Array CpInfo := pool [(1, u "java/lang/Cloneable"), (0, .class_ 1), (0, u "java/lang/Object"), (0, .class_ 3)] 3

/-- java/lang/Cloneable -/
def k4 : Class := { plain "java/lang/Cloneable" (some 0) with
  accessFlags := 1537
  interfaces := #[]
  cf := some (fileOf pool4 2 #[] #[] 1537 4 #[] #[])
  fields := #[]
  methods := #[]
  instanceTypes := #[]
  staticTypes := #[]
  resolved := Array.replicate 8 none
  statics := none }

def pool5 : Array CpInfo := pool [(1, u "java/io/Serializable"), (0, .class_ 1), (0, u "java/lang/Object"), (0, .class_ 3)] 3

/-- java/io/Serializable -/
def k5 : Class := { plain "java/io/Serializable" (some 0) with
  accessFlags := 1537
  interfaces := #[]
  cf := some (fileOf pool5 2 #[] #[] 1537 4 #[] #[])
  fields := #[]
  methods := #[]
  instanceTypes := #[]
  staticTypes := #[]
  resolved := Array.replicate 8 none
  statics := none }

/-- the primitive byte -/
def k6 : Class := { plain "byte" none with kind := .primitive 'B', accessFlags := 0x411 }
/-- [B -/
def k7 : Class := { plain "[B" (some 0) with kind := .array 6 .byte, interfaces := #[4, 5], accessFlags := 1041 }

/-- the primitive int -/
def k8 : Class := { plain "int" none with kind := .primitive 'I', accessFlags := 0x411 }
/-- [I -/
def k9 : Class := { plain "[I" (some 0) with kind := .array 8 .int, interfaces := #[4, 5], accessFlags := 1041 }

/-- the primitive long -/
def k10 : Class := { plain "long" none with kind := .primitive 'J', accessFlags := 0x411 }
/-- [J -/
def k11 : Class := { plain "[J" (some 0) with kind := .array 10 .long, interfaces := #[4, 5], accessFlags := 1041 }

def heap : Heap := #[]
def classes : Array Class := #[k0, k1, k2, k3, k4, k5, k6, k7, k8, k9, k10, k11]
def interned : List (Array UInt16 × Addr) := []
def slotsUsed : Nat := 0
def theMethod : MethodId := ⟨1, 2⟩
def args0 : Array Value := #[.long 1, .int 1, .int 2, .int 3, .long 4, .int 5]
def aboutOver (below : List Frame) : State where
  vm := { classes := classes, interned := interned.toArray }
  heap := heap
  slotsUsed := slotsUsed
  threads := #[{ frames := .invoking theMethod args0 :: below }]
def below0 : List Frame := [.native { method := ⟨0, 0⟩, args := #[] }]
def about1 : State := aboutOver below0
def p0 : Program := .bare "" "" ""
def e0 : Env := launch0.env 0 0 0
theorem w_frames : about1.frames = Frame.invoking theMethod args0 :: below0 := rfl
set_option maxRecDepth 65536 in
theorem w_args : argsFit about1.vm theMethod args0 = true := by decide +kernel
set_option maxRecDepth 65536 in
theorem w_heap : heapFits about1 = true := by decide +kernel
set_option maxRecDepth 65536 in
theorem w_runnable : about1.curStatus? = some .runnable := by decide +kernel
set_option maxRecDepth 65536 in
theorem w_alone : about1.alone = true := by decide +kernel
set_option maxRecDepth 65536 in
theorem w_named : about1.methodNamed? x = some theMethod := by decide +kernel
set_option maxRecDepth 65536 in
theorem w_hears : about1.hears theMethod below0 = true := by decide +kernel
set_option maxRecDepth 65536 in
theorem w_ripe : about1.ripe theMethod args0 below0 = true := by decide +kernel
theorem w_running : about1.status = .running := rfl
set_option maxRecDepth 65536 in
theorem w_room : about1.hasRoom e0.platform room_1 = true :=
  launch0.hasRoom_least _ room_1 (by decide +kernel) (by decide +kernel) (by decide +kernel) (by decide +kernel) (by decide +kernel) (by decide +kernel)
theorem allAtoms_all (ts : List Jvm.Cond) (a : Array Jvm.Value) (st : Jvm.State) : (allAtoms ts).before a st = ts.all (fun c => c.before a st) := by
  induction ts with
  | nil => rfl
  | cons c t ih =>
    show (Jvm.Cond.and c (allAtoms t)).before a st = _
    rw [Jvm.Cond.before_and, ih, List.all_cons]
def words1 : List Jvm.Cond := Jvm.Cond.code x code maxLocals ret :: tables_1
/-- a 'code' word, met by the world's own term for the bytes: nothing is compared byte by byte -/
theorem code_word {y : MethodName} {bytes : ByteArray} {mx : Nat} {rt : Option FieldType} {a : Array Value} {s : State} {m : MethodId} {meth : Method} {c : Code} (h1 : s.methodNamed? y = some m) (h2 : s.vm.method? m = some meth) (h3 : meth.code = some c) (h4 : c.code = bytes)
    (h5 : (c.maxLocals == mx && c.exceptionTable.isEmpty && decide (c.maxStack ≤ mostOperands) && decide (meth.sig.returnType = rt) && !meth.locks && decide (parseMethodDescriptor y.desc = some meth.sig)) = true) : (Jvm.Cond.code y bytes mx rt).before a s = true := by
  simp only [Bool.and_eq_true, beq_iff_eq, Bool.not_eq_true', decide_eq_true_eq] at h5
  obtain ⟨⟨⟨⟨⟨g1, g2⟩, g3⟩, g4⟩, g5⟩, g6⟩ := h5
  simp [Cond.before, Cond.holds, Cond.value, h1, h2, h3, h4, g1, g2, g3, g4, g5, g6]
def isCode : Jvm.Cond → Bool
  | .code _ _ _ _ => true
  | _ => false
theorem all_split {L : List Jvm.Cond} {P : Jvm.Cond → Bool} (h1 : L.all (fun c => isCode c || P c) = true) (h2 : ∀ c ∈ L.filter isCode, P c = true) : L.all P = true := by
  refine List.all_eq_true.mpr fun c hc => ?_
  have h := List.all_eq_true.mp h1 c hc
  rcases Bool.eq_false_or_eq_true (isCode c) with hi | hi
  · exact h2 c (List.mem_filter.mpr ⟨hc, hi⟩)
  · simpa [hi] using h
set_option maxRecDepth 65536 in
theorem w_c0 : (Jvm.Cond.code x code maxLocals ret).before args0 about1 = true := code_word (m := ⟨1, 2⟩) (meth := k1m2) (c := k1c2) (by decide +kernel) rfl rfl rfl (by decide +kernel)
set_option maxRecDepth 65536 in
theorem w_c1 : (Jvm.Cond.code ({ cls := "com/example/panoptes/panoptes/Cuts", name := "<init>", desc := "([JJJ)V" } : Jvm.MethodName) prog_6_method_1_code (6 : Nat) (Option.none : Option Jvm.ClassFile.FieldType)).before args0 about1 = true := code_word (m := ⟨2, 0⟩) (meth := k2m0) (c := k2c0) (by decide +kernel) rfl rfl rfl (by decide +kernel)
set_option maxRecDepth 65536 in
theorem w_c2 : (Jvm.Cond.code ({ cls := "java/lang/Object", name := "<init>", desc := "()V" } : Jvm.MethodName) object_method_1_code (1 : Nat) (Option.none : Option Jvm.ClassFile.FieldType)).before args0 about1 = true := code_word (m := ⟨0, 0⟩) (meth := k0m0) (c := k0c0) (by decide +kernel) rfl rfl rfl (by decide +kernel)
set_option maxRecDepth 65536 in
theorem w_c3 : (Jvm.Cond.code ({ cls := "com/example/panoptes/panoptes/Cuts", name := "firstNotBefore", desc := "([JIIJ)I" } : Jvm.MethodName) prog_6_method_5_code (6 : Nat) (Option.some Jvm.ClassFile.FieldType.int)).before args0 about1 = true := code_word (m := ⟨2, 2⟩) (meth := k2m2) (c := k2c2) (by decide +kernel) rfl rfl rfl (by decide +kernel)
set_option maxRecDepth 65536 in
theorem w_c4 : (Jvm.Cond.code ({ cls := "java/util/Arrays", name := "binarySearch", desc := "([JIIJ)I" } : Jvm.MethodName) jdk_65_method_55_code (5 : Nat) (Option.some Jvm.ClassFile.FieldType.int)).before args0 about1 = true := code_word (m := ⟨3, 2⟩) (meth := k3m2) (c := k3c2) (by decide +kernel) rfl rfl rfl (by decide +kernel)
set_option maxRecDepth 65536 in
theorem w_c5 : (Jvm.Cond.code ({ cls := "java/util/Arrays", name := "rangeCheck", desc := "(III)V" } : Jvm.MethodName) jdk_65_method_30_code (3 : Nat) (Option.none : Option Jvm.ClassFile.FieldType)).before args0 about1 = true := code_word (m := ⟨3, 1⟩) (meth := k3m1) (c := k3c1) (by decide +kernel) rfl rfl rfl (by decide +kernel)
set_option maxRecDepth 65536 in
theorem w_c6 : (Jvm.Cond.code ({ cls := "java/util/Arrays", name := "binarySearch0", desc := "([JIIJ)I" } : Jvm.MethodName) jdk_65_method_56_code (10 : Nat) (Option.some Jvm.ClassFile.FieldType.int)).before args0 about1 = true := code_word (m := ⟨3, 3⟩) (meth := k3m3) (c := k3c3) (by decide +kernel) rfl rfl rfl (by decide +kernel)
set_option maxRecDepth 65536 in
theorem w_c7 : (Jvm.Cond.code ({ cls := "com/example/panoptes/panoptes/Cuts", name := "position", desc := "(J)I" } : Jvm.MethodName) prog_6_method_4_code (4 : Nat) (Option.some Jvm.ClassFile.FieldType.int)).before args0 about1 = true := code_word (m := ⟨2, 1⟩) (meth := k2m1) (c := k2c1) (by decide +kernel) rfl rfl rfl (by decide +kernel)
set_option maxRecDepth 65536 in
theorem w_c8 : (Jvm.Cond.code ({ cls := "com/example/panoptes/panoptes/CutsPositionPinLaw", name := "counted", desc := "(JZJJJ)I" } : Jvm.MethodName) method_2_code (9 : Nat) (Option.some Jvm.ClassFile.FieldType.int)).before args0 about1 = true := code_word (m := ⟨1, 1⟩) (meth := k1m1) (c := k1c1) (by decide +kernel) rfl rfl rfl (by decide +kernel)
def codes1 : List Jvm.Cond := [Jvm.Cond.code x code maxLocals ret, Jvm.Cond.code ({ cls := "com/example/panoptes/panoptes/Cuts", name := "<init>", desc := "([JJJ)V" } : Jvm.MethodName) prog_6_method_1_code (6 : Nat) (Option.none : Option Jvm.ClassFile.FieldType), Jvm.Cond.code ({ cls := "java/lang/Object", name := "<init>", desc := "()V" } : Jvm.MethodName) object_method_1_code (1 : Nat) (Option.none : Option Jvm.ClassFile.FieldType), Jvm.Cond.code ({ cls := "com/example/panoptes/panoptes/Cuts", name := "firstNotBefore", desc := "([JIIJ)I" } : Jvm.MethodName) prog_6_method_5_code (6 : Nat) (Option.some Jvm.ClassFile.FieldType.int), Jvm.Cond.code ({ cls := "java/util/Arrays", name := "binarySearch", desc := "([JIIJ)I" } : Jvm.MethodName) jdk_65_method_55_code (5 : Nat) (Option.some Jvm.ClassFile.FieldType.int), Jvm.Cond.code ({ cls := "java/util/Arrays", name := "rangeCheck", desc := "(III)V" } : Jvm.MethodName) jdk_65_method_30_code (3 : Nat) (Option.none : Option Jvm.ClassFile.FieldType), Jvm.Cond.code ({ cls := "java/util/Arrays", name := "binarySearch0", desc := "([JIIJ)I" } : Jvm.MethodName) jdk_65_method_56_code (10 : Nat) (Option.some Jvm.ClassFile.FieldType.int), Jvm.Cond.code ({ cls := "com/example/panoptes/panoptes/Cuts", name := "position", desc := "(J)I" } : Jvm.MethodName) prog_6_method_4_code (4 : Nat) (Option.some Jvm.ClassFile.FieldType.int), Jvm.Cond.code ({ cls := "com/example/panoptes/panoptes/CutsPositionPinLaw", name := "counted", desc := "(JZJJJ)I" } : Jvm.MethodName) method_2_code (9 : Nat) (Option.some Jvm.ClassFile.FieldType.int)]
set_option maxRecDepth 65536 in
theorem codes_eq : words1.filter isCode = codes1 := rfl
theorem w_codes : ∀ c ∈ words1.filter isCode, c.before args0 about1 = true := by
  rw [codes_eq]
  intro c hc
  simp only [codes1, List.mem_cons, List.not_mem_nil, or_false] at hc
  rcases hc with rfl | rfl | rfl | rfl | rfl | rfl | rfl | rfl | rfl
  · exact w_c0
  · exact w_c1
  · exact w_c2
  · exact w_c3
  · exact w_c4
  · exact w_c5
  · exact w_c6
  · exact w_c7
  · exact w_c8
set_option maxRecDepth 65536 in
theorem w_t1 : (words1.take 24).all (fun c => isCode c || c.before args0 about1) = true := by decide +kernel
set_option maxRecDepth 65536 in
theorem w_t2 : (words1.drop 24).all (fun c => isCode c || c.before args0 about1) = true := by decide +kernel
theorem w_tables : (allAtoms (Jvm.Cond.code x code maxLocals ret :: tables_1)).before args0 about1 = true := by
  rw [allAtoms_all]
  show words1.all (fun c => c.before args0 about1) = true
  refine all_split ?_ w_codes
  rw [← List.take_append_drop 24 words1, List.all_append, w_t1, w_t2]
  rfl
set_option maxRecDepth 65536 in
theorem w_case : (Jvm.Cond.and given_1 narrow_1).before args0 about1 = true := by decide +kernel
theorem w_applies : (headSpec (Jvm.Cond.code x code maxLocals ret :: tables_1) room_1).applies x e0.platform about1 = true :=
  (Spec.applies_iff w_frames).mpr ⟨w_running, w_runnable, w_alone, w_named, w_hears, w_ripe, w_room, w_tables⟩
theorem atStart : AtStart classFile x code maxLocals ret World_1 tables_1 room_1 Calls_1 rest_1 Pre_1 launch0 p0 e0 about1 theMethod args0 below0 :=
  ⟨lists_1, trivial, launch0.admits_env _ _ _, launch0.least_env, fairChoices_fair.cas, fairChoices_fair.clock, w_frames, w_args, w_heap, w_applies, trivial, trivial, w_case⟩
end start1
theorem witness_1 : WitnessClaimed_1 := ⟨start1.p0, start1.e0, start1.about1, start1.theMethod, start1.args0, start1.below0, start1.atStart⟩
end Jvm.Pilot.@@N@@
