import JvmDerived
import JvmDerived.Pilot.@@N@@Statement
import JvmDerived.Pilot.@@N@@Code
set_option linter.unusedVariables false
set_option linter.unusedSimpArgs false
namespace Jvm.Pilot.@@N@@
open Jvm Jvm.ClassFile Sem Op Lib Jvm.Free Jvm.Stand Jvm.LawKit Jvm.RoadKit Bundle Jvm.Pilot.@@N@@.Jvm.D
section OwnKit
variable {p : Program} {l : Launch} {e : Env} {R : Room} {s : State} {m : MethodId} {args : Array Value} {below : List Frame} {meth : Method} {c : Code} {T : State} {locs : List Loc} {cells slots : Nat} {Z : State} {a0 : Array Value} {h : Heap} {K N : Nat} {Q : Option Value → Heap → List Loc → Prop} {pc nx tg : Nat} {Ls : Array Slot} {st : List Value} {bs : ByteArray} {o : Int}
/-- from the frame g at T the run ends, returning, as Q says -/
def Wp (p : Program) (e : Env) (below : List Frame) (s : State) (K N : Nat) (Q : Option Value → Heap → List Loc → Prop) (T : State) (g : JFrame) : Prop :=
  ∃ s₂ o, Steps p.tables e below (T.setTop g) s₂ ∧ s₂.status = .running ∧ Ended s₂ below o ∧ ∃ v L, o = .returned v ∧ Q v s₂.heap L ∧ FrameEnd s o s₂ L K N
theorem Wp.go {T' : State} {g g' : JFrame} (st : ∀ target, Steps p.tables e below (T'.setTop g') target → Steps p.tables e below (T.setTop g) target) (k : Wp p e below s K N Q T' g') : Wp p e below s K N Q T g := by
  obtain ⟨s₂, o, h1, h2⟩ := k; exact ⟨s₂, o, st _ h1, h2⟩
theorem Wp.tr {T' : State} {g g' : JFrame} (st : Steps p.tables e below (T.setTop g) (T'.setTop g')) (k : Wp p e below s K N Q T' g') : Wp p e below s K N Q T g := by
  obtain ⟨s₂, o, h1, h2⟩ := k; exact ⟨s₂, o, st.trans h1, h2⟩
/-- the instruction i, len bytes long, stands at pc; the next one at nx -/
def In (bs : ByteArray) (pc : Nat) (i : Instr) (len nx : Nat) : Prop := decode bs pc = .ok (i, len) ∧ pc + len = nx
/-- a jump by o: the next one at nx, the target at tg -/
def Jm (bs : ByteArray) (pc : Nat) (i : Instr) (o : Int) (nx tg : Nat) : Prop := decode bs pc = .ok (i, 3) ∧ pc + 3 = nx ∧ 0 ≤ (pc : Int) + o ∧ ((pc : Int) + o).toNat = tg

theorem w_iadd (X : Stand p l e R s m args below meth c T locs cells slots) (hx : p.tables.exec = Jvm.exec) (hby : c.code = bs) {x y : Int32} (hd : In bs pc (.iadd) 1 nx) (k : Wp p e below s K N Q T (mkF m nx Ls (.int (x + y) :: st))) : Wp p e below s K N Q T (mkF m pc Ls (.int y :: .int x :: st)) := by
  obtain ⟨d, rfl⟩ := hd; exact Wp.go (fun t kk => XS.iadd X.here hx rfl (hb hby d) rfl kk) k
theorem w_isub (X : Stand p l e R s m args below meth c T locs cells slots) (hx : p.tables.exec = Jvm.exec) (hby : c.code = bs) {x y : Int32} (hd : In bs pc (.isub) 1 nx) (k : Wp p e below s K N Q T (mkF m nx Ls (.int (x - y) :: st))) : Wp p e below s K N Q T (mkF m pc Ls (.int y :: .int x :: st)) := by
  obtain ⟨d, rfl⟩ := hd; exact Wp.go (fun t kk => XS.isub X.here hx rfl (hb hby d) rfl kk) k
theorem w_iand (X : Stand p l e R s m args below meth c T locs cells slots) (hx : p.tables.exec = Jvm.exec) (hby : c.code = bs) {x y : Int32} (hd : In bs pc (.iand) 1 nx) (k : Wp p e below s K N Q T (mkF m nx Ls (.int (x &&& y) :: st))) : Wp p e below s K N Q T (mkF m pc Ls (.int y :: .int x :: st)) := by
  obtain ⟨d, rfl⟩ := hd; exact Wp.go (fun t kk => XS.iand X.here hx rfl (hb hby d) rfl kk) k
theorem w_imul (X : Stand p l e R s m args below meth c T locs cells slots) (hx : p.tables.exec = Jvm.exec) (hby : c.code = bs) {x y : Int32} (hd : In bs pc (.imul) 1 nx) (k : Wp p e below s K N Q T (mkF m nx Ls (.int (x * y) :: st))) : Wp p e below s K N Q T (mkF m pc Ls (.int y :: .int x :: st)) := by
  obtain ⟨d, rfl⟩ := hd; exact Wp.go (fun t kk => XS.imul X.here hx rfl (hb hby d) rfl kk) k
theorem w_ior (X : Stand p l e R s m args below meth c T locs cells slots) (hx : p.tables.exec = Jvm.exec) (hby : c.code = bs) {x y : Int32} (hd : In bs pc (.ior) 1 nx) (k : Wp p e below s K N Q T (mkF m nx Ls (.int (x ||| y) :: st))) : Wp p e below s K N Q T (mkF m pc Ls (.int y :: .int x :: st)) := by
  obtain ⟨d, rfl⟩ := hd; exact Wp.go (fun t kk => XS.ior X.here hx rfl (hb hby d) rfl kk) k
theorem w_ixor (X : Stand p l e R s m args below meth c T locs cells slots) (hx : p.tables.exec = Jvm.exec) (hby : c.code = bs) {x y : Int32} (hd : In bs pc (.ixor) 1 nx) (k : Wp p e below s K N Q T (mkF m nx Ls (.int (x ^^^ y) :: st))) : Wp p e below s K N Q T (mkF m pc Ls (.int y :: .int x :: st)) := by
  obtain ⟨d, rfl⟩ := hd; exact Wp.go (fun t kk => XS.ixor X.here hx rfl (hb hby d) rfl kk) k
theorem w_ishl (X : Stand p l e R s m args below meth c T locs cells slots) (hx : p.tables.exec = Jvm.exec) (hby : c.code = bs) {x y : Int32} (hd : In bs pc (.ishl) 1 nx) (k : Wp p e below s K N Q T (mkF m nx Ls (.int (x <<< (y &&& 31)) :: st))) : Wp p e below s K N Q T (mkF m pc Ls (.int y :: .int x :: st)) := by
  obtain ⟨d, rfl⟩ := hd; exact Wp.go (fun t kk => XS.ishl X.here hx rfl (hb hby d) rfl kk) k
theorem w_ishr (X : Stand p l e R s m args below meth c T locs cells slots) (hx : p.tables.exec = Jvm.exec) (hby : c.code = bs) {x y : Int32} (hd : In bs pc (.ishr) 1 nx) (k : Wp p e below s K N Q T (mkF m nx Ls (.int (x >>> (y &&& 31)) :: st))) : Wp p e below s K N Q T (mkF m pc Ls (.int y :: .int x :: st)) := by
  obtain ⟨d, rfl⟩ := hd; exact Wp.go (fun t kk => XS.ishr X.here hx rfl (hb hby d) rfl kk) k
theorem w_iushr (X : Stand p l e R s m args below meth c T locs cells slots) (hx : p.tables.exec = Jvm.exec) (hby : c.code = bs) {x y : Int32} (hd : In bs pc (.iushr) 1 nx) (k : Wp p e below s K N Q T (mkF m nx Ls (.int ((x.toUInt32 >>> (y &&& 31).toUInt32).toInt32) :: st))) : Wp p e below s K N Q T (mkF m pc Ls (.int y :: .int x :: st)) := by
  obtain ⟨d, rfl⟩ := hd; exact Wp.go (fun t kk => XS.iushr X.here hx rfl (hb hby d) rfl kk) k
theorem w_ladd (X : Stand p l e R s m args below meth c T locs cells slots) (hx : p.tables.exec = Jvm.exec) (hby : c.code = bs) {x y : Int64} (hd : In bs pc (.ladd) 1 nx) (k : Wp p e below s K N Q T (mkF m nx Ls (.long (x + y) :: st))) : Wp p e below s K N Q T (mkF m pc Ls (.long y :: .long x :: st)) := by
  obtain ⟨d, rfl⟩ := hd; exact Wp.go (fun t kk => XS.ladd X.here hx rfl (hb hby d) rfl kk) k
theorem w_lsub (X : Stand p l e R s m args below meth c T locs cells slots) (hx : p.tables.exec = Jvm.exec) (hby : c.code = bs) {x y : Int64} (hd : In bs pc (.lsub) 1 nx) (k : Wp p e below s K N Q T (mkF m nx Ls (.long (x - y) :: st))) : Wp p e below s K N Q T (mkF m pc Ls (.long y :: .long x :: st)) := by
  obtain ⟨d, rfl⟩ := hd; exact Wp.go (fun t kk => XS.lsub X.here hx rfl (hb hby d) rfl kk) k
theorem w_land (X : Stand p l e R s m args below meth c T locs cells slots) (hx : p.tables.exec = Jvm.exec) (hby : c.code = bs) {x y : Int64} (hd : In bs pc (.land) 1 nx) (k : Wp p e below s K N Q T (mkF m nx Ls (.long (x &&& y) :: st))) : Wp p e below s K N Q T (mkF m pc Ls (.long y :: .long x :: st)) := by
  obtain ⟨d, rfl⟩ := hd; exact Wp.go (fun t kk => XS.land X.here hx rfl (hb hby d) rfl kk) k
theorem w_lmul (X : Stand p l e R s m args below meth c T locs cells slots) (hx : p.tables.exec = Jvm.exec) (hby : c.code = bs) {x y : Int64} (hd : In bs pc (.lmul) 1 nx) (k : Wp p e below s K N Q T (mkF m nx Ls (.long (x * y) :: st))) : Wp p e below s K N Q T (mkF m pc Ls (.long y :: .long x :: st)) := by
  obtain ⟨d, rfl⟩ := hd; exact Wp.go (fun t kk => XS.lmul X.here hx rfl (hb hby d) rfl kk) k
theorem w_lor (X : Stand p l e R s m args below meth c T locs cells slots) (hx : p.tables.exec = Jvm.exec) (hby : c.code = bs) {x y : Int64} (hd : In bs pc (.lor) 1 nx) (k : Wp p e below s K N Q T (mkF m nx Ls (.long (x ||| y) :: st))) : Wp p e below s K N Q T (mkF m pc Ls (.long y :: .long x :: st)) := by
  obtain ⟨d, rfl⟩ := hd; exact Wp.go (fun t kk => XS.lor X.here hx rfl (hb hby d) rfl kk) k
theorem w_lxor (X : Stand p l e R s m args below meth c T locs cells slots) (hx : p.tables.exec = Jvm.exec) (hby : c.code = bs) {x y : Int64} (hd : In bs pc (.lxor) 1 nx) (k : Wp p e below s K N Q T (mkF m nx Ls (.long (x ^^^ y) :: st))) : Wp p e below s K N Q T (mkF m pc Ls (.long y :: .long x :: st)) := by
  obtain ⟨d, rfl⟩ := hd; exact Wp.go (fun t kk => XS.lxor X.here hx rfl (hb hby d) rfl kk) k
theorem w_lshl (X : Stand p l e R s m args below meth c T locs cells slots) (hx : p.tables.exec = Jvm.exec) (hby : c.code = bs) {x : Int64} {y : Int32} (hd : In bs pc (.lshl) 1 nx) (k : Wp p e below s K N Q T (mkF m nx Ls (.long (x <<< (y &&& 0x3f).toInt64) :: st))) : Wp p e below s K N Q T (mkF m pc Ls (.int y :: .long x :: st)) := by
  obtain ⟨d, rfl⟩ := hd; exact Wp.go (fun t kk => XS.lshl X.here hx rfl (hb hby d) rfl kk) k
theorem w_lshr (X : Stand p l e R s m args below meth c T locs cells slots) (hx : p.tables.exec = Jvm.exec) (hby : c.code = bs) {x : Int64} {y : Int32} (hd : In bs pc (.lshr) 1 nx) (k : Wp p e below s K N Q T (mkF m nx Ls (.long (x >>> (y &&& 0x3f).toInt64) :: st))) : Wp p e below s K N Q T (mkF m pc Ls (.int y :: .long x :: st)) := by
  obtain ⟨d, rfl⟩ := hd; exact Wp.go (fun t kk => XS.lshr X.here hx rfl (hb hby d) rfl kk) k
theorem w_lushr (X : Stand p l e R s m args below meth c T locs cells slots) (hx : p.tables.exec = Jvm.exec) (hby : c.code = bs) {x : Int64} {y : Int32} (hd : In bs pc (.lushr) 1 nx) (k : Wp p e below s K N Q T (mkF m nx Ls (.long ((x.toUInt64 >>> (y &&& 0x3f).toInt64.toUInt64).toInt64) :: st))) : Wp p e below s K N Q T (mkF m pc Ls (.int y :: .long x :: st)) := by
  obtain ⟨d, rfl⟩ := hd; exact Wp.go (fun t kk => XS.lushr X.here hx rfl (hb hby d) rfl kk) k
theorem w_i2b (X : Stand p l e R s m args below meth c T locs cells slots) (hx : p.tables.exec = Jvm.exec) (hby : c.code = bs) {x : Int32} (hd : In bs pc (.i2b) 1 nx) (k : Wp p e below s K N Q T (mkF m nx Ls (.int (x.toInt8.toInt32) :: st))) : Wp p e below s K N Q T (mkF m pc Ls (.int x :: st)) := by
  obtain ⟨d, rfl⟩ := hd; exact Wp.go (fun t kk => XS.i2b X.here hx rfl (hb hby d) rfl kk) k
theorem w_i2c (X : Stand p l e R s m args below meth c T locs cells slots) (hx : p.tables.exec = Jvm.exec) (hby : c.code = bs) {x : Int32} (hd : In bs pc (.i2c) 1 nx) (k : Wp p e below s K N Q T (mkF m nx Ls (.int (x.toUInt32.toUInt16.toUInt32.toInt32) :: st))) : Wp p e below s K N Q T (mkF m pc Ls (.int x :: st)) := by
  obtain ⟨d, rfl⟩ := hd; exact Wp.go (fun t kk => XS.i2c X.here hx rfl (hb hby d) rfl kk) k
theorem w_i2s (X : Stand p l e R s m args below meth c T locs cells slots) (hx : p.tables.exec = Jvm.exec) (hby : c.code = bs) {x : Int32} (hd : In bs pc (.i2s) 1 nx) (k : Wp p e below s K N Q T (mkF m nx Ls (.int (x.toInt16.toInt32) :: st))) : Wp p e below s K N Q T (mkF m pc Ls (.int x :: st)) := by
  obtain ⟨d, rfl⟩ := hd; exact Wp.go (fun t kk => XS.i2s X.here hx rfl (hb hby d) rfl kk) k
theorem w_ineg (X : Stand p l e R s m args below meth c T locs cells slots) (hx : p.tables.exec = Jvm.exec) (hby : c.code = bs) {x : Int32} (hd : In bs pc (.ineg) 1 nx) (k : Wp p e below s K N Q T (mkF m nx Ls (.int (-x) :: st))) : Wp p e below s K N Q T (mkF m pc Ls (.int x :: st)) := by
  obtain ⟨d, rfl⟩ := hd; exact Wp.go (fun t kk => XS.ineg X.here hx rfl (hb hby d) rfl kk) k
theorem w_i2l (X : Stand p l e R s m args below meth c T locs cells slots) (hx : p.tables.exec = Jvm.exec) (hby : c.code = bs) {x : Int32} (hd : In bs pc (.i2l) 1 nx) (k : Wp p e below s K N Q T (mkF m nx Ls (.long x.toInt64 :: st))) : Wp p e below s K N Q T (mkF m pc Ls (.int x :: st)) := by
  obtain ⟨d, rfl⟩ := hd; exact Wp.go (fun t kk => XS.i2l X.here hx rfl (hb hby d) rfl kk) k
theorem w_l2i (X : Stand p l e R s m args below meth c T locs cells slots) (hx : p.tables.exec = Jvm.exec) (hby : c.code = bs) {x : Int64} (hd : In bs pc (.l2i) 1 nx) (k : Wp p e below s K N Q T (mkF m nx Ls (.int x.toInt32 :: st))) : Wp p e below s K N Q T (mkF m pc Ls (.long x :: st)) := by
  obtain ⟨d, rfl⟩ := hd; exact Wp.go (fun t kk => XS.l2i X.here hx rfl (hb hby d) rfl kk) k
theorem w_lneg (X : Stand p l e R s m args below meth c T locs cells slots) (hx : p.tables.exec = Jvm.exec) (hby : c.code = bs) {x : Int64} (hd : In bs pc (.lneg) 1 nx) (k : Wp p e below s K N Q T (mkF m nx Ls (.long (-x) :: st))) : Wp p e below s K N Q T (mkF m pc Ls (.long x :: st)) := by
  obtain ⟨d, rfl⟩ := hd; exact Wp.go (fun t kk => XS.lneg X.here hx rfl (hb hby d) rfl kk) k
theorem w_idiv (X : Stand p l e R s m args below meth c T locs cells slots) (hx : p.tables.exec = Jvm.exec) (hby : c.code = bs) {x y : Int32} (hd : In bs pc (.idiv) 1 nx) (hy : y ≠ 0) (k : Wp p e below s K N Q T (mkF m nx Ls (.int (x / y) :: st))) : Wp p e below s K N Q T (mkF m pc Ls (.int y :: .int x :: st)) := by
  obtain ⟨d, rfl⟩ := hd; exact Wp.go (fun t kk => XS.idiv X.here hx rfl (hb hby d) rfl hy kk) k
theorem w_irem (X : Stand p l e R s m args below meth c T locs cells slots) (hx : p.tables.exec = Jvm.exec) (hby : c.code = bs) {x y : Int32} (hd : In bs pc .irem 1 nx) (hy : y ≠ 0) (k : Wp p e below s K N Q T (mkF m nx Ls (.int (x % y) :: st))) : Wp p e below s K N Q T (mkF m pc Ls (.int y :: .int x :: st)) := by
  obtain ⟨d, rfl⟩ := hd; exact Wp.go (fun t kk => iremM X hx rfl (hb hby d) rfl hy kk) k
theorem w_ldiv (X : Stand p l e R s m args below meth c T locs cells slots) (hx : p.tables.exec = Jvm.exec) (hby : c.code = bs) {x y : Int64} (hd : In bs pc (.ldiv) 1 nx) (hy : y ≠ 0) (k : Wp p e below s K N Q T (mkF m nx Ls (.long (x / y) :: st))) : Wp p e below s K N Q T (mkF m pc Ls (.long y :: .long x :: st)) := by
  obtain ⟨d, rfl⟩ := hd; exact Wp.go (fun t kk => XS.ldiv X.here hx rfl (hb hby d) rfl hy kk) k
theorem w_lrem (X : Stand p l e R s m args below meth c T locs cells slots) (hx : p.tables.exec = Jvm.exec) (hby : c.code = bs) {x y : Int64} (hd : In bs pc .lrem 1 nx) (hy : y ≠ 0) (k : Wp p e below s K N Q T (mkF m nx Ls (.long (x % y) :: st))) : Wp p e below s K N Q T (mkF m pc Ls (.long y :: .long x :: st)) := by
  obtain ⟨d, rfl⟩ := hd; refine Wp.go (fun t kk => XS.lrem X.here hx rfl (hb hby d) rfl hy kk) ?_; rw [lrem_mod]; exact k
theorem w_aconst_null (X : Stand p l e R s m args below meth c T locs cells slots) (hx : p.tables.exec = Jvm.exec) (hby : c.code = bs)  (hd : In bs pc (.aconst_null) 1 nx) (k : Wp p e below s K N Q T (mkF m nx Ls (.null :: st))) : Wp p e below s K N Q T (mkF m pc Ls (st)) := by
  obtain ⟨d, rfl⟩ := hd; exact Wp.go (fun t kk => XS.aconstNull X.here hx rfl (hb hby d) kk) k
theorem w_dup (X : Stand p l e R s m args below meth c T locs cells slots) (hx : p.tables.exec = Jvm.exec) (hby : c.code = bs) {x : Value} (hd : In bs pc (.dup) 1 nx) (hc : x.category = 1) (k : Wp p e below s K N Q T (mkF m nx Ls (x :: x :: st))) : Wp p e below s K N Q T (mkF m pc Ls (x :: st)) := by
  obtain ⟨d, rfl⟩ := hd; exact Wp.go (fun t kk => XS.dup X.here hx rfl (hb hby d) rfl hc kk) k
theorem w_dup_x1 (X : Stand p l e R s m args below meth c T locs cells slots) (hx : p.tables.exec = Jvm.exec) (hby : c.code = bs) {x y : Value} (hd : In bs pc (.dup_x1) 1 nx) (hc : x.category = 1) (hc2 : y.category = 1) (k : Wp p e below s K N Q T (mkF m nx Ls (x :: y :: x :: st))) : Wp p e below s K N Q T (mkF m pc Ls (x :: y :: st)) := by
  obtain ⟨d, rfl⟩ := hd; exact Wp.go (fun t kk => XS.dupX1 X.here hx rfl (hb hby d) rfl hc hc2 kk) k
theorem w_dup2 (X : Stand p l e R s m args below meth c T locs cells slots) (hx : p.tables.exec = Jvm.exec) (hby : c.code = bs) {x y : Value} (hd : In bs pc (.dup2) 1 nx) (hc : x.category = 1) (hc2 : y.category = 1) (k : Wp p e below s K N Q T (mkF m nx Ls (x :: y :: x :: y :: st))) : Wp p e below s K N Q T (mkF m pc Ls (x :: y :: st)) := by
  obtain ⟨d, rfl⟩ := hd; exact Wp.go (fun t kk => XT.dup2 X.here hx rfl (hb hby d) rfl hc hc2 kk) k
theorem w_dup2L (X : Stand p l e R s m args below meth c T locs cells slots) (hx : p.tables.exec = Jvm.exec) (hby : c.code = bs) {x : Int64} (hd : In bs pc (.dup2) 1 nx) (k : Wp p e below s K N Q T (mkF m nx Ls (.long x :: .long x :: st))) : Wp p e below s K N Q T (mkF m pc Ls (.long x :: st)) := by
  obtain ⟨d, rfl⟩ := hd; exact Wp.go (fun t kk => XT.dup2L X.here hx rfl (hb hby d) rfl kk) k
theorem w_pop (X : Stand p l e R s m args below meth c T locs cells slots) (hx : p.tables.exec = Jvm.exec) (hby : c.code = bs) {x : Value} (hd : In bs pc (.pop) 1 nx) (hc : x.category = 1) (k : Wp p e below s K N Q T (mkF m nx Ls (st))) : Wp p e below s K N Q T (mkF m pc Ls (x :: st)) := by
  obtain ⟨d, rfl⟩ := hd; exact Wp.go (fun t kk => XS.pop X.here hx rfl (hb hby d) rfl hc kk) k
theorem w_iconst (X : Stand p l e R s m args below meth c T locs cells slots) (hx : p.tables.exec = Jvm.exec) (hby : c.code = bs) {i : Int} (v : Int32) (hd : In bs pc (.iconst i) 1 nx) (hv : Int32.ofInt i = v) (k : Wp p e below s K N Q T (mkF m nx Ls (.int v :: st))) : Wp p e below s K N Q T (mkF m pc Ls (st)) := by
  obtain ⟨d, rfl⟩ := hd; exact Wp.go (fun t kk => XT.iconstV X.here hx rfl v (hb hby d) hv kk) k
theorem w_bipush (X : Stand p l e R s m args below meth c T locs cells slots) (hx : p.tables.exec = Jvm.exec) (hby : c.code = bs) {i : Int} (v : Int32) (hd : In bs pc (.bipush i) 2 nx) (hv : (Int8.ofInt i).toInt32 = v) (k : Wp p e below s K N Q T (mkF m nx Ls (.int v :: st))) : Wp p e below s K N Q T (mkF m pc Ls (st)) := by
  obtain ⟨d, rfl⟩ := hd; exact Wp.go (fun t kk => XT.bipushV X.here hx rfl v (hb hby d) hv kk) k
theorem w_sipush (X : Stand p l e R s m args below meth c T locs cells slots) (hx : p.tables.exec = Jvm.exec) (hby : c.code = bs) {i : Int} (v : Int32) (hd : In bs pc (.sipush i) 3 nx) (hv : (Int16.ofInt i).toInt32 = v) (k : Wp p e below s K N Q T (mkF m nx Ls (.int v :: st))) : Wp p e below s K N Q T (mkF m pc Ls (st)) := by
  obtain ⟨d, rfl⟩ := hd; exact Wp.go (fun t kk => XT.sipushV X.here hx rfl v (hb hby d) hv kk) k
theorem w_lconst (X : Stand p l e R s m args below meth c T locs cells slots) (hx : p.tables.exec = Jvm.exec) (hby : c.code = bs) {i : Fin 2} (v : Int64) (hd : In bs pc (.lconst i) 1 nx) (hv : Int64.ofNat i = v) (k : Wp p e below s K N Q T (mkF m nx Ls (.long v :: st))) : Wp p e below s K N Q T (mkF m pc Ls (st)) := by
  obtain ⟨d, rfl⟩ := hd; exact Wp.go (fun t kk => XT.lconstV X.here hx rfl v (hb hby d) hv kk) k
theorem w_iloadN (X : Stand p l e R s m args below meth c T locs cells slots) (hx : p.tables.exec = Jvm.exec) (hby : c.code = bs) {i : Fin 4} {v : Int32} (hd : In bs pc (.iload_n i) 1 nx) (hl : Ls[i.val]? = some (.val (.int v))) (k : Wp p e below s K N Q T (mkF m nx Ls (.int v :: st))) : Wp p e below s K N Q T (mkF m pc Ls (st)) := by
  obtain ⟨d, rfl⟩ := hd; exact Wp.go (fun t kk => XS.iloadN X.here hx rfl (hb hby d) hl kk) k
theorem w_lloadN (X : Stand p l e R s m args below meth c T locs cells slots) (hx : p.tables.exec = Jvm.exec) (hby : c.code = bs) {i : Fin 4} {v : Int64} (hd : In bs pc (.lload_n i) 1 nx) (hl : Ls[i.val]? = some (.val (.long v))) (k : Wp p e below s K N Q T (mkF m nx Ls (.long v :: st))) : Wp p e below s K N Q T (mkF m pc Ls (st)) := by
  obtain ⟨d, rfl⟩ := hd; exact Wp.go (fun t kk => XS.lloadN X.here hx rfl (hb hby d) hl kk) k
theorem w_aloadN (X : Stand p l e R s m args below meth c T locs cells slots) (hx : p.tables.exec = Jvm.exec) (hby : c.code = bs) {i : Fin 4} {v : Value} (hd : In bs pc (.aload_n i) 1 nx) (hl : Ls[i.val]? = some (.val v)) (hv : v.isRef = true) (k : Wp p e below s K N Q T (mkF m nx Ls (v :: st))) : Wp p e below s K N Q T (mkF m pc Ls (st)) := by
  obtain ⟨d, rfl⟩ := hd; exact Wp.go (fun t kk => XS.aloadN X.here hx rfl (hb hby d) hl hv kk) k
theorem w_istoreN (X : Stand p l e R s m args below meth c T locs cells slots) (hx : p.tables.exec = Jvm.exec) (hby : c.code = bs) {i : Fin 4} {v : Int32} (l' : Array Slot) (hd : In bs pc (.istore_n i) 1 nx) (hl : storeLocals Ls i.val (.int v) = some l') (k : Wp p e below s K N Q T (mkF m nx l' (st))) : Wp p e below s K N Q T (mkF m pc Ls (.int v :: st)) := by
  obtain ⟨d, rfl⟩ := hd; exact Wp.go (fun t kk => XS.istoreN X.here hx rfl (hb hby d) rfl hl kk) k
theorem w_lstoreN (X : Stand p l e R s m args below meth c T locs cells slots) (hx : p.tables.exec = Jvm.exec) (hby : c.code = bs) {i : Fin 4} {v : Int64} (l' : Array Slot) (hd : In bs pc (.lstore_n i) 1 nx) (hl : storeLocals Ls i.val (.long v) = some l') (k : Wp p e below s K N Q T (mkF m nx l' (st))) : Wp p e below s K N Q T (mkF m pc Ls (.long v :: st)) := by
  obtain ⟨d, rfl⟩ := hd; exact Wp.go (fun t kk => XS.lstoreN X.here hx rfl (hb hby d) rfl hl kk) k
theorem w_astoreN (X : Stand p l e R s m args below meth c T locs cells slots) (hx : p.tables.exec = Jvm.exec) (hby : c.code = bs) {i : Fin 4} {v : Value} (l' : Array Slot) (hd : In bs pc (.astore_n i) 1 nx) (hv : v.isRef = true) (hl : storeLocals Ls i.val v = some l') (k : Wp p e below s K N Q T (mkF m nx l' (st))) : Wp p e below s K N Q T (mkF m pc Ls (v :: st)) := by
  obtain ⟨d, rfl⟩ := hd; exact Wp.go (fun t kk => XS.astoreN X.here hx rfl (hb hby d) rfl hv hl kk) k
theorem w_iload (X : Stand p l e R s m args below meth c T locs cells slots) (hx : p.tables.exec = Jvm.exec) (hby : c.code = bs) {i : Nat} {v : Int32} (hd : In bs pc (.iload i) 2 nx) (hl : Ls[i]? = some (.val (.int v))) (k : Wp p e below s K N Q T (mkF m nx Ls (.int v :: st))) : Wp p e below s K N Q T (mkF m pc Ls (st)) := by
  obtain ⟨d, rfl⟩ := hd; exact Wp.go (fun t kk => XS.iload X.here hx rfl (hb hby d) hl kk) k
theorem w_lload (X : Stand p l e R s m args below meth c T locs cells slots) (hx : p.tables.exec = Jvm.exec) (hby : c.code = bs) {i : Nat} {v : Int64} (hd : In bs pc (.lload i) 2 nx) (hl : Ls[i]? = some (.val (.long v))) (k : Wp p e below s K N Q T (mkF m nx Ls (.long v :: st))) : Wp p e below s K N Q T (mkF m pc Ls (st)) := by
  obtain ⟨d, rfl⟩ := hd; exact Wp.go (fun t kk => XS.lload X.here hx rfl (hb hby d) hl kk) k
theorem w_aload (X : Stand p l e R s m args below meth c T locs cells slots) (hx : p.tables.exec = Jvm.exec) (hby : c.code = bs) {i : Nat} {v : Value} (hd : In bs pc (.aload i) 2 nx) (hl : Ls[i]? = some (.val v)) (hv : v.isRef = true) (k : Wp p e below s K N Q T (mkF m nx Ls (v :: st))) : Wp p e below s K N Q T (mkF m pc Ls (st)) := by
  obtain ⟨d, rfl⟩ := hd; exact Wp.go (fun t kk => XS.aload X.here hx rfl (hb hby d) hl hv kk) k
theorem w_istore (X : Stand p l e R s m args below meth c T locs cells slots) (hx : p.tables.exec = Jvm.exec) (hby : c.code = bs) {i : Nat} {v : Int32} (l' : Array Slot) (hd : In bs pc (.istore i) 2 nx) (hl : storeLocals Ls i (.int v) = some l') (k : Wp p e below s K N Q T (mkF m nx l' (st))) : Wp p e below s K N Q T (mkF m pc Ls (.int v :: st)) := by
  obtain ⟨d, rfl⟩ := hd; exact Wp.go (fun t kk => XS.istore X.here hx rfl (hb hby d) rfl hl kk) k
theorem w_lstore (X : Stand p l e R s m args below meth c T locs cells slots) (hx : p.tables.exec = Jvm.exec) (hby : c.code = bs) {i : Nat} {v : Int64} (l' : Array Slot) (hd : In bs pc (.lstore i) 2 nx) (hl : storeLocals Ls i (.long v) = some l') (k : Wp p e below s K N Q T (mkF m nx l' (st))) : Wp p e below s K N Q T (mkF m pc Ls (.long v :: st)) := by
  obtain ⟨d, rfl⟩ := hd; exact Wp.go (fun t kk => XS.lstore X.here hx rfl (hb hby d) rfl hl kk) k
theorem w_astore (X : Stand p l e R s m args below meth c T locs cells slots) (hx : p.tables.exec = Jvm.exec) (hby : c.code = bs) {i : Nat} {v : Value} (l' : Array Slot) (hd : In bs pc (.astore i) 2 nx) (hv : v.isRef = true) (hl : storeLocals Ls i v = some l') (k : Wp p e below s K N Q T (mkF m nx l' (st))) : Wp p e below s K N Q T (mkF m pc Ls (v :: st)) := by
  obtain ⟨d, rfl⟩ := hd; exact Wp.go (fun t kk => XS.astore X.here hx rfl (hb hby d) rfl hv hl kk) k
theorem w_iinc (X : Stand p l e R s m args below meth c T locs cells slots) (hx : p.tables.exec = Jvm.exec) (hby : c.code = bs) {i : Nat} {cst : Int} {x : Int32} (v : Int32) (l' : Array Slot) (hd : In bs pc (.iinc i cst) 3 nx) (hv : Int32.ofInt cst = v) (hl : Ls[i]? = some (.val (.int x))) (hl' : storeLocals Ls i (.int (x + v)) = some l') (k : Wp p e below s K N Q T (mkF m nx l' st)) : Wp p e below s K N Q T (mkF m pc Ls st) := by
  obtain ⟨d, rfl⟩ := hd; exact Wp.go (fun t kk => XT.iincV X.here hx rfl v (hb hby d) hv hl hl' kk) k
theorem w_goto (X : Stand p l e R s m args below meth c T locs cells slots) (hx : p.tables.exec = Jvm.exec) (hby : c.code = bs) (hd : Jm bs pc (.goto o) o nx tg) (k : Wp p e below s K N Q T (mkF m tg Ls st)) : Wp p e below s K N Q T (mkF m pc Ls st) := by
  obtain ⟨d, -, q1, q2⟩ := hd; exact Wp.go (fun t kk => XS.goto X.here hx rfl rfl (hb hby d) q1 q2 kk) k
theorem f_icmp_eq (X : Stand p l e R s m args below meth c T locs cells slots) (hx : p.tables.exec = Jvm.exec) (hby : c.code = bs) {x y : Int32} (hd : Jm bs pc (.if_icmp .eq o) o nx tg) (kt : x = y → Wp p e below s K N Q T (mkF m tg Ls st)) (kf : ¬ x = y → Wp p e below s K N Q T (mkF m nx Ls st)) : Wp p e below s K N Q T (mkF m pc Ls (.int y :: .int x :: st)) := by
  obtain ⟨d, rfl, q1, q2⟩ := hd
  by_cases q : x = y
  · exact Wp.go (fun t kk => XS.icmpYes X.here hx rfl rfl (hb hby d) rfl (XT.ii_eq_t q) q1 q2 kk) (kt q)
  · exact Wp.go (fun t kk => XS.icmpNo X.here hx rfl (hb hby d) rfl (XT.ii_eq_f q) kk) (kf q)
theorem f_if_eq (X : Stand p l e R s m args below meth c T locs cells slots) (hx : p.tables.exec = Jvm.exec) (hby : c.code = bs) {x : Int32} (hd : Jm bs pc (.ifCond .eq o) o nx tg) (kt : x = 0 → Wp p e below s K N Q T (mkF m tg Ls st)) (kf : ¬ x = 0 → Wp p e below s K N Q T (mkF m nx Ls st)) : Wp p e below s K N Q T (mkF m pc Ls (.int x :: st)) := by
  obtain ⟨d, rfl, q1, q2⟩ := hd
  by_cases q : x = 0
  · exact Wp.go (fun t kk => XS.ifYes X.here hx rfl rfl (hb hby d) rfl (XT.i0_eq_t q) q1 q2 kk) (kt q)
  · exact Wp.go (fun t kk => XS.ifNo X.here hx rfl (hb hby d) rfl (XT.i0_eq_f q) kk) (kf q)
theorem f_lcmp_eq (X : Stand p l e R s m args below meth c T locs cells slots) (hx : p.tables.exec = Jvm.exec) (hby : c.code = bs) {x y : Int64} {n1 : Nat} (hc : In bs pc .lcmp 1 n1) (hd : Jm bs n1 (.ifCond .eq o) o nx tg) (kt : x = y → Wp p e below s K N Q T (mkF m tg Ls st)) (kf : ¬ x = y → Wp p e below s K N Q T (mkF m nx Ls st)) : Wp p e below s K N Q T (mkF m pc Ls (.long y :: .long x :: st)) := by
  obtain ⟨d1, rfl⟩ := hc; obtain ⟨d, rfl, q1, q2⟩ := hd
  refine Wp.go (fun t kk => XT.lcmp X.here hx rfl (hb hby d1) rfl kk) ?_
  by_cases q : x = y
  · exact Wp.go (fun t kk => XS.ifYes X.here hx rfl rfl (hb hby d) rfl (XT.ll_eq_t q) q1 q2 kk) (kt q)
  · exact Wp.go (fun t kk => XS.ifNo X.here hx rfl (hb hby d) rfl (XT.ll_eq_f q) kk) (kf q)
theorem f_icmp_ne (X : Stand p l e R s m args below meth c T locs cells slots) (hx : p.tables.exec = Jvm.exec) (hby : c.code = bs) {x y : Int32} (hd : Jm bs pc (.if_icmp .ne o) o nx tg) (kt : ¬ x = y → Wp p e below s K N Q T (mkF m tg Ls st)) (kf : x = y → Wp p e below s K N Q T (mkF m nx Ls st)) : Wp p e below s K N Q T (mkF m pc Ls (.int y :: .int x :: st)) := by
  obtain ⟨d, rfl, q1, q2⟩ := hd
  by_cases q : x = y
  · exact Wp.go (fun t kk => XS.icmpNo X.here hx rfl (hb hby d) rfl (XT.ii_ne_f q) kk) (kf q)
  · exact Wp.go (fun t kk => XS.icmpYes X.here hx rfl rfl (hb hby d) rfl (XT.ii_ne_t q) q1 q2 kk) (kt q)
theorem f_if_ne (X : Stand p l e R s m args below meth c T locs cells slots) (hx : p.tables.exec = Jvm.exec) (hby : c.code = bs) {x : Int32} (hd : Jm bs pc (.ifCond .ne o) o nx tg) (kt : ¬ x = 0 → Wp p e below s K N Q T (mkF m tg Ls st)) (kf : x = 0 → Wp p e below s K N Q T (mkF m nx Ls st)) : Wp p e below s K N Q T (mkF m pc Ls (.int x :: st)) := by
  obtain ⟨d, rfl, q1, q2⟩ := hd
  by_cases q : x = 0
  · exact Wp.go (fun t kk => XS.ifNo X.here hx rfl (hb hby d) rfl (XT.i0_ne_f q) kk) (kf q)
  · exact Wp.go (fun t kk => XS.ifYes X.here hx rfl rfl (hb hby d) rfl (XT.i0_ne_t q) q1 q2 kk) (kt q)
theorem f_lcmp_ne (X : Stand p l e R s m args below meth c T locs cells slots) (hx : p.tables.exec = Jvm.exec) (hby : c.code = bs) {x y : Int64} {n1 : Nat} (hc : In bs pc .lcmp 1 n1) (hd : Jm bs n1 (.ifCond .ne o) o nx tg) (kt : ¬ x = y → Wp p e below s K N Q T (mkF m tg Ls st)) (kf : x = y → Wp p e below s K N Q T (mkF m nx Ls st)) : Wp p e below s K N Q T (mkF m pc Ls (.long y :: .long x :: st)) := by
  obtain ⟨d1, rfl⟩ := hc; obtain ⟨d, rfl, q1, q2⟩ := hd
  refine Wp.go (fun t kk => XT.lcmp X.here hx rfl (hb hby d1) rfl kk) ?_
  by_cases q : x = y
  · exact Wp.go (fun t kk => XS.ifNo X.here hx rfl (hb hby d) rfl (XT.ll_ne_f q) kk) (kf q)
  · exact Wp.go (fun t kk => XS.ifYes X.here hx rfl rfl (hb hby d) rfl (XT.ll_ne_t q) q1 q2 kk) (kt q)
theorem f_icmp_lt (X : Stand p l e R s m args below meth c T locs cells slots) (hx : p.tables.exec = Jvm.exec) (hby : c.code = bs) {x y : Int32} (hd : Jm bs pc (.if_icmp .lt o) o nx tg) (kt : x < y → Wp p e below s K N Q T (mkF m tg Ls st)) (kf : ¬ x < y → Wp p e below s K N Q T (mkF m nx Ls st)) : Wp p e below s K N Q T (mkF m pc Ls (.int y :: .int x :: st)) := by
  obtain ⟨d, rfl, q1, q2⟩ := hd
  by_cases q : x < y
  · exact Wp.go (fun t kk => XS.icmpYes X.here hx rfl rfl (hb hby d) rfl (XT.ii_lt_t q) q1 q2 kk) (kt q)
  · exact Wp.go (fun t kk => XS.icmpNo X.here hx rfl (hb hby d) rfl (XT.ii_lt_f q) kk) (kf q)
theorem f_if_lt (X : Stand p l e R s m args below meth c T locs cells slots) (hx : p.tables.exec = Jvm.exec) (hby : c.code = bs) {x : Int32} (hd : Jm bs pc (.ifCond .lt o) o nx tg) (kt : x < 0 → Wp p e below s K N Q T (mkF m tg Ls st)) (kf : ¬ x < 0 → Wp p e below s K N Q T (mkF m nx Ls st)) : Wp p e below s K N Q T (mkF m pc Ls (.int x :: st)) := by
  obtain ⟨d, rfl, q1, q2⟩ := hd
  by_cases q : x < 0
  · exact Wp.go (fun t kk => XS.ifYes X.here hx rfl rfl (hb hby d) rfl (XT.i0_lt_t q) q1 q2 kk) (kt q)
  · exact Wp.go (fun t kk => XS.ifNo X.here hx rfl (hb hby d) rfl (XT.i0_lt_f q) kk) (kf q)
theorem f_lcmp_lt (X : Stand p l e R s m args below meth c T locs cells slots) (hx : p.tables.exec = Jvm.exec) (hby : c.code = bs) {x y : Int64} {n1 : Nat} (hc : In bs pc .lcmp 1 n1) (hd : Jm bs n1 (.ifCond .lt o) o nx tg) (kt : x < y → Wp p e below s K N Q T (mkF m tg Ls st)) (kf : ¬ x < y → Wp p e below s K N Q T (mkF m nx Ls st)) : Wp p e below s K N Q T (mkF m pc Ls (.long y :: .long x :: st)) := by
  obtain ⟨d1, rfl⟩ := hc; obtain ⟨d, rfl, q1, q2⟩ := hd
  refine Wp.go (fun t kk => XT.lcmp X.here hx rfl (hb hby d1) rfl kk) ?_
  by_cases q : x < y
  · exact Wp.go (fun t kk => XS.ifYes X.here hx rfl rfl (hb hby d) rfl (XT.ll_lt_t q) q1 q2 kk) (kt q)
  · exact Wp.go (fun t kk => XS.ifNo X.here hx rfl (hb hby d) rfl (XT.ll_lt_f q) kk) (kf q)
theorem f_icmp_ge (X : Stand p l e R s m args below meth c T locs cells slots) (hx : p.tables.exec = Jvm.exec) (hby : c.code = bs) {x y : Int32} (hd : Jm bs pc (.if_icmp .ge o) o nx tg) (kt : ¬ x < y → Wp p e below s K N Q T (mkF m tg Ls st)) (kf : x < y → Wp p e below s K N Q T (mkF m nx Ls st)) : Wp p e below s K N Q T (mkF m pc Ls (.int y :: .int x :: st)) := by
  obtain ⟨d, rfl, q1, q2⟩ := hd
  by_cases q : x < y
  · exact Wp.go (fun t kk => XS.icmpNo X.here hx rfl (hb hby d) rfl (XT.ii_ge_f q) kk) (kf q)
  · exact Wp.go (fun t kk => XS.icmpYes X.here hx rfl rfl (hb hby d) rfl (XT.ii_ge_t q) q1 q2 kk) (kt q)
theorem f_if_ge (X : Stand p l e R s m args below meth c T locs cells slots) (hx : p.tables.exec = Jvm.exec) (hby : c.code = bs) {x : Int32} (hd : Jm bs pc (.ifCond .ge o) o nx tg) (kt : ¬ x < 0 → Wp p e below s K N Q T (mkF m tg Ls st)) (kf : x < 0 → Wp p e below s K N Q T (mkF m nx Ls st)) : Wp p e below s K N Q T (mkF m pc Ls (.int x :: st)) := by
  obtain ⟨d, rfl, q1, q2⟩ := hd
  by_cases q : x < 0
  · exact Wp.go (fun t kk => XS.ifNo X.here hx rfl (hb hby d) rfl (XT.i0_ge_f q) kk) (kf q)
  · exact Wp.go (fun t kk => XS.ifYes X.here hx rfl rfl (hb hby d) rfl (XT.i0_ge_t q) q1 q2 kk) (kt q)
theorem f_lcmp_ge (X : Stand p l e R s m args below meth c T locs cells slots) (hx : p.tables.exec = Jvm.exec) (hby : c.code = bs) {x y : Int64} {n1 : Nat} (hc : In bs pc .lcmp 1 n1) (hd : Jm bs n1 (.ifCond .ge o) o nx tg) (kt : ¬ x < y → Wp p e below s K N Q T (mkF m tg Ls st)) (kf : x < y → Wp p e below s K N Q T (mkF m nx Ls st)) : Wp p e below s K N Q T (mkF m pc Ls (.long y :: .long x :: st)) := by
  obtain ⟨d1, rfl⟩ := hc; obtain ⟨d, rfl, q1, q2⟩ := hd
  refine Wp.go (fun t kk => XT.lcmp X.here hx rfl (hb hby d1) rfl kk) ?_
  by_cases q : x < y
  · exact Wp.go (fun t kk => XS.ifNo X.here hx rfl (hb hby d) rfl (XT.ll_ge_f q) kk) (kf q)
  · exact Wp.go (fun t kk => XS.ifYes X.here hx rfl rfl (hb hby d) rfl (XT.ll_ge_t q) q1 q2 kk) (kt q)
theorem f_icmp_gt (X : Stand p l e R s m args below meth c T locs cells slots) (hx : p.tables.exec = Jvm.exec) (hby : c.code = bs) {x y : Int32} (hd : Jm bs pc (.if_icmp .gt o) o nx tg) (kt : y < x → Wp p e below s K N Q T (mkF m tg Ls st)) (kf : ¬ y < x → Wp p e below s K N Q T (mkF m nx Ls st)) : Wp p e below s K N Q T (mkF m pc Ls (.int y :: .int x :: st)) := by
  obtain ⟨d, rfl, q1, q2⟩ := hd
  by_cases q : y < x
  · exact Wp.go (fun t kk => XS.icmpYes X.here hx rfl rfl (hb hby d) rfl (XT.ii_gt_t q) q1 q2 kk) (kt q)
  · exact Wp.go (fun t kk => XS.icmpNo X.here hx rfl (hb hby d) rfl (XT.ii_gt_f q) kk) (kf q)
theorem f_if_gt (X : Stand p l e R s m args below meth c T locs cells slots) (hx : p.tables.exec = Jvm.exec) (hby : c.code = bs) {x : Int32} (hd : Jm bs pc (.ifCond .gt o) o nx tg) (kt : 0 < x → Wp p e below s K N Q T (mkF m tg Ls st)) (kf : ¬ 0 < x → Wp p e below s K N Q T (mkF m nx Ls st)) : Wp p e below s K N Q T (mkF m pc Ls (.int x :: st)) := by
  obtain ⟨d, rfl, q1, q2⟩ := hd
  by_cases q : 0 < x
  · exact Wp.go (fun t kk => XS.ifYes X.here hx rfl rfl (hb hby d) rfl (XT.i0_gt_t q) q1 q2 kk) (kt q)
  · exact Wp.go (fun t kk => XS.ifNo X.here hx rfl (hb hby d) rfl (XT.i0_gt_f q) kk) (kf q)
theorem f_lcmp_gt (X : Stand p l e R s m args below meth c T locs cells slots) (hx : p.tables.exec = Jvm.exec) (hby : c.code = bs) {x y : Int64} {n1 : Nat} (hc : In bs pc .lcmp 1 n1) (hd : Jm bs n1 (.ifCond .gt o) o nx tg) (kt : y < x → Wp p e below s K N Q T (mkF m tg Ls st)) (kf : ¬ y < x → Wp p e below s K N Q T (mkF m nx Ls st)) : Wp p e below s K N Q T (mkF m pc Ls (.long y :: .long x :: st)) := by
  obtain ⟨d1, rfl⟩ := hc; obtain ⟨d, rfl, q1, q2⟩ := hd
  refine Wp.go (fun t kk => XT.lcmp X.here hx rfl (hb hby d1) rfl kk) ?_
  by_cases q : y < x
  · exact Wp.go (fun t kk => XS.ifYes X.here hx rfl rfl (hb hby d) rfl (XT.ll_gt_t q) q1 q2 kk) (kt q)
  · exact Wp.go (fun t kk => XS.ifNo X.here hx rfl (hb hby d) rfl (XT.ll_gt_f q) kk) (kf q)
theorem f_icmp_le (X : Stand p l e R s m args below meth c T locs cells slots) (hx : p.tables.exec = Jvm.exec) (hby : c.code = bs) {x y : Int32} (hd : Jm bs pc (.if_icmp .le o) o nx tg) (kt : ¬ y < x → Wp p e below s K N Q T (mkF m tg Ls st)) (kf : y < x → Wp p e below s K N Q T (mkF m nx Ls st)) : Wp p e below s K N Q T (mkF m pc Ls (.int y :: .int x :: st)) := by
  obtain ⟨d, rfl, q1, q2⟩ := hd
  by_cases q : y < x
  · exact Wp.go (fun t kk => XS.icmpNo X.here hx rfl (hb hby d) rfl (XT.ii_le_f q) kk) (kf q)
  · exact Wp.go (fun t kk => XS.icmpYes X.here hx rfl rfl (hb hby d) rfl (XT.ii_le_t q) q1 q2 kk) (kt q)
theorem f_if_le (X : Stand p l e R s m args below meth c T locs cells slots) (hx : p.tables.exec = Jvm.exec) (hby : c.code = bs) {x : Int32} (hd : Jm bs pc (.ifCond .le o) o nx tg) (kt : ¬ 0 < x → Wp p e below s K N Q T (mkF m tg Ls st)) (kf : 0 < x → Wp p e below s K N Q T (mkF m nx Ls st)) : Wp p e below s K N Q T (mkF m pc Ls (.int x :: st)) := by
  obtain ⟨d, rfl, q1, q2⟩ := hd
  by_cases q : 0 < x
  · exact Wp.go (fun t kk => XS.ifNo X.here hx rfl (hb hby d) rfl (XT.i0_le_f q) kk) (kf q)
  · exact Wp.go (fun t kk => XS.ifYes X.here hx rfl rfl (hb hby d) rfl (XT.i0_le_t q) q1 q2 kk) (kt q)
theorem f_lcmp_le (X : Stand p l e R s m args below meth c T locs cells slots) (hx : p.tables.exec = Jvm.exec) (hby : c.code = bs) {x y : Int64} {n1 : Nat} (hc : In bs pc .lcmp 1 n1) (hd : Jm bs n1 (.ifCond .le o) o nx tg) (kt : ¬ y < x → Wp p e below s K N Q T (mkF m tg Ls st)) (kf : y < x → Wp p e below s K N Q T (mkF m nx Ls st)) : Wp p e below s K N Q T (mkF m pc Ls (.long y :: .long x :: st)) := by
  obtain ⟨d1, rfl⟩ := hc; obtain ⟨d, rfl, q1, q2⟩ := hd
  refine Wp.go (fun t kk => XT.lcmp X.here hx rfl (hb hby d1) rfl kk) ?_
  by_cases q : y < x
  · exact Wp.go (fun t kk => XS.ifNo X.here hx rfl (hb hby d) rfl (XT.ll_le_f q) kk) (kf q)
  · exact Wp.go (fun t kk => XS.ifYes X.here hx rfl rfl (hb hby d) rfl (XT.ll_le_t q) q1 q2 kk) (kt q)
theorem f_acmp_eq (X : Stand p l e R s m args below meth c T locs cells slots) (hx : p.tables.exec = Jvm.exec) (hby : c.code = bs) {x y : Addr} (hd : Jm bs pc (.if_acmp .eq o) o nx tg) (kt : x = y → Wp p e below s K N Q T (mkF m tg Ls st)) (kf : ¬ x = y → Wp p e below s K N Q T (mkF m nx Ls st)) : Wp p e below s K N Q T (mkF m pc Ls (.ref y :: .ref x :: st)) := by
  obtain ⟨d, rfl, q1, q2⟩ := hd
  by_cases q : x = y
  · exact Wp.go (fun t kk => XT.acmpYes X.here hx rfl rfl (hb hby d) rfl rfl rfl (XT.aa_eq_t (congrArg Value.ref q)) q1 q2 kk) (kt q)
  · exact Wp.go (fun t kk => XT.acmpNo X.here hx rfl (hb hby d) rfl rfl rfl (XT.aa_eq_f (fun r => q (Value.ref.inj r))) kk) (kf q)
theorem f_acmpV_eq (X : Stand p l e R s m args below meth c T locs cells slots) (hx : p.tables.exec = Jvm.exec) (hby : c.code = bs) {x y : Value} (hx' : x.isRef = true) (hy' : y.isRef = true) (hd : Jm bs pc (.if_acmp .eq o) o nx tg) (kt : x = y → Wp p e below s K N Q T (mkF m tg Ls st)) (kf : ¬ x = y → Wp p e below s K N Q T (mkF m nx Ls st)) : Wp p e below s K N Q T (mkF m pc Ls (y :: x :: st)) := by
  obtain ⟨d, rfl, q1, q2⟩ := hd
  by_cases q : x = y
  · exact Wp.go (fun t kk => XT.acmpYes X.here hx rfl rfl (hb hby d) rfl hx' hy' (XT.aa_eq_t q) q1 q2 kk) (kt q)
  · exact Wp.go (fun t kk => XT.acmpNo X.here hx rfl (hb hby d) rfl hx' hy' (XT.aa_eq_f q) kk) (kf q)
theorem f_acmp_ne (X : Stand p l e R s m args below meth c T locs cells slots) (hx : p.tables.exec = Jvm.exec) (hby : c.code = bs) {x y : Addr} (hd : Jm bs pc (.if_acmp .ne o) o nx tg) (kt : ¬ x = y → Wp p e below s K N Q T (mkF m tg Ls st)) (kf : x = y → Wp p e below s K N Q T (mkF m nx Ls st)) : Wp p e below s K N Q T (mkF m pc Ls (.ref y :: .ref x :: st)) := by
  obtain ⟨d, rfl, q1, q2⟩ := hd
  by_cases q : x = y
  · exact Wp.go (fun t kk => XT.acmpNo X.here hx rfl (hb hby d) rfl rfl rfl (XT.aa_ne_f (congrArg Value.ref q)) kk) (kf q)
  · exact Wp.go (fun t kk => XT.acmpYes X.here hx rfl rfl (hb hby d) rfl rfl rfl (XT.aa_ne_t (fun r => q (Value.ref.inj r))) q1 q2 kk) (kt q)
theorem f_acmpV_ne (X : Stand p l e R s m args below meth c T locs cells slots) (hx : p.tables.exec = Jvm.exec) (hby : c.code = bs) {x y : Value} (hx' : x.isRef = true) (hy' : y.isRef = true) (hd : Jm bs pc (.if_acmp .ne o) o nx tg) (kt : ¬ x = y → Wp p e below s K N Q T (mkF m tg Ls st)) (kf : x = y → Wp p e below s K N Q T (mkF m nx Ls st)) : Wp p e below s K N Q T (mkF m pc Ls (y :: x :: st)) := by
  obtain ⟨d, rfl, q1, q2⟩ := hd
  by_cases q : x = y
  · exact Wp.go (fun t kk => XT.acmpNo X.here hx rfl (hb hby d) rfl hx' hy' (XT.aa_ne_f q) kk) (kf q)
  · exact Wp.go (fun t kk => XT.acmpYes X.here hx rfl rfl (hb hby d) rfl hx' hy' (XT.aa_ne_t q) q1 q2 kk) (kt q)
theorem w_lswHit (X : Stand p l e R s m args below meth c T locs cells slots) (hx : p.tables.exec = Jvm.exec) (hby : c.code = bs) {x : Int32} {df : Int} {ps : Array (Int × Int)} {len : Nat} {a off : Int} (hd : In bs pc (.lookupswitch df ps) len nx) (hs : (ps.toList.zip (ps.toList.drop 1)).all (fun (a, next) => a.1 < next.1) = true) (hf : ps.find? (·.1 == x.toInt) = some (a, off)) (ho : 0 ≤ (pc : Int) + off) (ht : ((pc : Int) + off).toNat = tg) (k : Wp p e below s K N Q T (mkF m tg Ls st)) : Wp p e below s K N Q T (mkF m pc Ls (.int x :: st)) := by
  obtain ⟨d, -⟩ := hd; subst ht; exact Wp.go (fun t kk => X.lookupswitchHit hx (g := mkF m pc Ls (.int x :: st)) rfl rfl (hb hby d) hs hf ho t kk) k
theorem w_lswMiss (X : Stand p l e R s m args below meth c T locs cells slots) (hx : p.tables.exec = Jvm.exec) (hby : c.code = bs) {x : Int32} {df : Int} {ps : Array (Int × Int)} {len : Nat} (hd : In bs pc (.lookupswitch df ps) len nx) (hs : (ps.toList.zip (ps.toList.drop 1)).all (fun (a, next) => a.1 < next.1) = true) (hf : ps.find? (·.1 == x.toInt) = none) (ho : 0 ≤ (pc : Int) + df) (ht : ((pc : Int) + df).toNat = tg) (k : Wp p e below s K N Q T (mkF m tg Ls st)) : Wp p e below s K N Q T (mkF m pc Ls (.int x :: st)) := by
  obtain ⟨d, -⟩ := hd; subst ht; exact Wp.go (fun t kk => X.lookupswitchMiss hx (g := mkF m pc Ls (.int x :: st)) rfl rfl (hb hby d) hs hf ho t kk) k
theorem w_tswIn (X : Stand p l e R s m args below meth c T locs cells slots) (hx : p.tables.exec = Jvm.exec) (hby : c.code = bs) {x : Int32} {df lo hi : Int} {os : Array Int} {len : Nat} {off : Int} (hd : In bs pc (.tableswitch df lo hi os) len nx) (hin : ¬ (x.toInt < lo ∨ x.toInt > hi)) (hoff : os[(x.toInt - lo).toNat]? = some off) (ho : 0 ≤ (pc : Int) + off) (ht : ((pc : Int) + off).toNat = tg) (k : Wp p e below s K N Q T (mkF m tg Ls st)) : Wp p e below s K N Q T (mkF m pc Ls (.int x :: st)) := by
  obtain ⟨d, -⟩ := hd; exact Wp.go (fun t kk => XS.tswIn X.here hx rfl rfl (hb hby d) rfl hin hoff ho ht kk) k
theorem w_tswOut (X : Stand p l e R s m args below meth c T locs cells slots) (hx : p.tables.exec = Jvm.exec) (hby : c.code = bs) {x : Int32} {df lo hi : Int} {os : Array Int} {len : Nat} (hd : In bs pc (.tableswitch df lo hi os) len nx) (hout : x.toInt < lo ∨ x.toInt > hi) (ho : 0 ≤ (pc : Int) + df) (ht : ((pc : Int) + df).toNat = tg) (k : Wp p e below s K N Q T (mkF m tg Ls st)) : Wp p e below s K N Q T (mkF m pc Ls (.int x :: st)) := by
  obtain ⟨d, -⟩ := hd; exact Wp.go (fun t kk => XS.tswOut X.here hx rfl rfl (hb hby d) rfl hout ho ht kk) k
theorem own_ne32 {x z : Int32} {i : Int} (h : ¬ x = z) (hz : z.toInt = i) : i ≠ x.toInt := fun q => h (Int32.toInt_inj.mp (by rw [hz, q]))
theorem w_ifnonnullRef (X : Stand p l e R s m args below meth c T locs cells slots) (hx : p.tables.exec = Jvm.exec) (hby : c.code = bs) {a : Addr} (hd : Jm bs pc (.ifnonnull o) o nx tg) (k : Wp p e below s K N Q T (mkF m tg Ls st)) : Wp p e below s K N Q T (mkF m pc Ls (.ref a :: st)) := by
  obtain ⟨d, -, q1, q2⟩ := hd; exact Wp.go (fun t kk => XS.ifnonnullYes X.here hx rfl rfl (hb hby d) rfl q1 q2 kk) k
theorem w_ifnonnullNull (X : Stand p l e R s m args below meth c T locs cells slots) (hx : p.tables.exec = Jvm.exec) (hby : c.code = bs) (hd : Jm bs pc (.ifnonnull o) o nx tg) (k : Wp p e below s K N Q T (mkF m nx Ls st)) : Wp p e below s K N Q T (mkF m pc Ls (.null :: st)) := by
  obtain ⟨d, rfl, q1, q2⟩ := hd; exact Wp.go (fun t kk => XS.ifnonnullNo X.here hx rfl (hb hby d) rfl kk) k
theorem w_ifnullRef (X : Stand p l e R s m args below meth c T locs cells slots) (hx : p.tables.exec = Jvm.exec) (hby : c.code = bs) {a : Addr} (hd : Jm bs pc (.ifnull o) o nx tg) (k : Wp p e below s K N Q T (mkF m nx Ls st)) : Wp p e below s K N Q T (mkF m pc Ls (.ref a :: st)) := by
  obtain ⟨d, rfl, q1, q2⟩ := hd; exact Wp.go (fun t kk => XS.ifnullNo X.here hx rfl (hb hby d) rfl kk) k
theorem w_ifnullNull (X : Stand p l e R s m args below meth c T locs cells slots) (hx : p.tables.exec = Jvm.exec) (hby : c.code = bs) (hd : Jm bs pc (.ifnull o) o nx tg) (k : Wp p e below s K N Q T (mkF m tg Ls st)) : Wp p e below s K N Q T (mkF m pc Ls (.null :: st)) := by
  obtain ⟨d, -, q1, q2⟩ := hd; exact Wp.go (fun t kk => XS.ifnullYes X.here hx rfl rfl (hb hby d) rfl q1 q2 kk) k
theorem w_ldcI (X : Stand p l e R s m args below meth c T locs cells slots) (hx : p.tables.exec = Jvm.exec) (hby : c.code = bs) (hZ : Z.Warmed39 s.vm) {own : String} (hown : s.vm.findClass own = some m.cls) {index : Nat} {v : Int32} (w : (Cond.constant own index v).before a0 Z = true) (hd : In bs pc (.ldc index) 2 nx) (k : Wp p e below s K N Q T (mkF m nx Ls (.int v :: st))) : Wp p e below s K N Q T (mkF m pc Ls st) := by
  obtain ⟨d, rfl⟩ := hd; exact Wp.go (fun t kk => X.ldcInt hx hown (mvT hZ w) (g := mkF m pc Ls st) rfl (hb hby d) t kk) k
theorem w_ldcwI (X : Stand p l e R s m args below meth c T locs cells slots) (hx : p.tables.exec = Jvm.exec) (hby : c.code = bs) (hZ : Z.Warmed39 s.vm) {own : String} (hown : s.vm.findClass own = some m.cls) {index : Nat} {v : Int32} (w : (Cond.constant own index v).before a0 Z = true) (hd : In bs pc (.ldc_w index) 3 nx) (k : Wp p e below s K N Q T (mkF m nx Ls (.int v :: st))) : Wp p e below s K N Q T (mkF m pc Ls st) := by
  obtain ⟨d, rfl⟩ := hd; exact Wp.go (fun t kk => X.ldcWI hx hown (mvT hZ w) (g := mkF m pc Ls st) rfl (hb hby d) kk) k
theorem w_ldc2J (X : Stand p l e R s m args below meth c T locs cells slots) (hx : p.tables.exec = Jvm.exec) (hby : c.code = bs) (hZ : Z.Warmed39 s.vm) {own : String} (hown : s.vm.findClass own = some m.cls) {index : Nat} {v : Int64} (w : (Cond.constantLong own index v).before a0 Z = true) (hd : In bs pc (.ldc2_w index) 3 nx) (k : Wp p e below s K N Q T (mkF m nx Ls (.long v :: st))) : Wp p e below s K N Q T (mkF m pc Ls st) := by
  obtain ⟨d, rfl⟩ := hd; exact Wp.go (fun t kk => X.ldc2Long hx hown (mvT hZ w) (g := mkF m pc Ls st) rfl (hb hby d) t kk) k
theorem w_getS (X : Stand p l e R s m args below meth c T locs cells slots) (hx : p.tables.exec = Jvm.exec) (hby : c.code = bs) (hZ : Z.Warmed39 s.vm) {own : String} (hown : s.vm.findClass own = some m.cls) {R0 C n d host : String} {index : Nat} (w : (Cond.fieldLink own index R0 n d).before a0 Z = true ∨ (Cond.fieldLinkNest own index R0 n d host).before a0 Z = true) (via : Via Z R0 C n d) (eT : T.heap = h) {v : Value} (F : Sta Z h C n d v) (hd : In bs pc (.getstatic index) 3 nx) (k : ∀ T', Stand p l e R s m args below meth c T' locs cells slots → T'.heap = h → Wp p e below s K N Q T' (mkF m nx Ls (v :: st))) : Wp p e below s K N Q T (mkF m pc Ls st) := by
  obtain ⟨d, rfl⟩ := hd; obtain ⟨T', X', e', st'⟩ := getS2 X hx hZ hown w via eT F (g := mkF m pc Ls st) rfl (hb hby d); exact Wp.go st' (k T' X' e')
theorem w_getF (X : Stand p l e R s m args below meth c T locs cells slots) (hx : p.tables.exec = Jvm.exec) (hby : c.code = bs) (hZ : Z.Warmed39 s.vm) {own : String} (hown : s.vm.findClass own = some m.cls) {R0 C n d host : String} {index : Nat} (w : (Cond.fieldLink own index R0 n d).before a0 Z = true ∨ (Cond.fieldLinkNest own index R0 n d host).before a0 Z = true) (via : Via Z R0 C n d) (eT : T.heap = h) {a : Addr} {v : Value} (F : Fld Z h a C n d v) (hd : In bs pc (.getfield index) 3 nx) (k : ∀ T', Stand p l e R s m args below meth c T' locs cells slots → T'.heap = h → Wp p e below s K N Q T' (mkF m nx Ls (v :: st))) : Wp p e below s K N Q T (mkF m pc Ls (.ref a :: st)) := by
  obtain ⟨d, rfl⟩ := hd; obtain ⟨T', X', e', st'⟩ := getF X hx hZ hown w via eT F (g := mkF m pc Ls (.ref a :: st)) rfl rfl (hb hby d); exact Wp.go st' (k T' X' e')
theorem w_putF (X : Stand p l e R s m args below meth c T locs cells slots) (hx : p.tables.exec = Jvm.exec) (hby : c.code = bs) (hZ : Z.Warmed39 s.vm) {own : String} (hown : s.vm.findClass own = some m.cls) {R0 C n d host D : String} {index kk : Nat} {ty : FieldType} (w : (Cond.fieldLink own index R0 n d).before a0 Z = true ∨ (Cond.fieldLinkNest own index R0 n d host).before a0 Z = true) (via : Via Z R0 C n d) (eT : T.heap = h) {a : Addr} {v old : Value} (F : Fld Z h a C n d old) (E : Exa Z h a D) (Lw : (Cond.lays D C n d).before a0 Z = true ∨ ((Cond.laysFinal D C n d).before a0 Z = true ∧ own = C ∧ meth.name = "<init>")) (wi : (Cond.instantiable D kk).before a0 Z = true) (hty : parseFieldDescriptor d = some ty) (hn : narrow ty v = v) (hf : fits ty v = true) (hd : In bs pc (.putfield index) 3 nx) (k : ∀ T' h', Stand p l e R s m args below meth c T' (locs ++ [⟨a, Jvm.RoadKit.slotOf Z C n d⟩]) cells slots → T'.heap = h' → Wr h h' a (Jvm.RoadKit.slotOf Z C n d) v → Wp p e below s K N Q T' (mkF m nx Ls st)) : Wp p e below s K N Q T (mkF m pc Ls (v :: .ref a :: st)) := by
  obtain ⟨d, rfl⟩ := hd; obtain ⟨T', h', X', e', W', st'⟩ := putF X hx hZ hown w via eT F E Lw wi hty hn hf (g := mkF m pc Ls (v :: .ref a :: st)) rfl rfl (hb hby d); exact Wp.go st' (k T' h' X' e' W')
theorem w_putFN (X : Stand p l e R s m args below meth c T locs cells slots) (hx : p.tables.exec = Jvm.exec) (hby : c.code = bs) (hZ : Z.Warmed39 s.vm) {own : String} (hown : s.vm.findClass own = some m.cls) {R0 C n d D : String} {index kk : Nat} {ty : FieldType} (w : (Cond.fieldLink own index R0 n d).before a0 Z = true) (via : Via Z R0 C n d) (eT : T.heap = h) {a : Addr} {v v' old : Value} (F : Fld Z h a C n d old) (E : Exa Z h a D) (Lw : (Cond.lays D C n d).before a0 Z = true ∨ ((Cond.laysFinal D C n d).before a0 Z = true ∧ own = C ∧ meth.name = "<init>")) (wi : (Cond.instantiable D kk).before a0 Z = true) (hty : parseFieldDescriptor d = some ty) (hn : narrow ty v = v') (hf : fits ty v' = true) (hd : In bs pc (.putfield index) 3 nx) (k : ∀ T' h', Stand p l e R s m args below meth c T' (locs ++ [⟨a, Jvm.RoadKit.slotOf Z C n d⟩]) cells slots → T'.heap = h' → Wr h h' a (Jvm.RoadKit.slotOf Z C n d) v' → Wp p e below s K N Q T' (mkF m nx Ls st)) : Wp p e below s K N Q T (mkF m pc Ls (v :: .ref a :: st)) := by
  obtain ⟨d, rfl⟩ := hd; obtain ⟨T', h', X', e', W', st'⟩ := putFN X hx hZ hown w via eT F E Lw wi hty hn hf (g := mkF m pc Ls (v :: .ref a :: st)) rfl rfl (hb hby d); exact Wp.go st' (k T' h' X' e' W')
theorem w_newO (X : Stand p l e R s m args below meth c T locs cells slots) (hx : p.tables.exec = Jvm.exec) (hby : c.code = bs) (hZ : Z.Warmed39 s.vm) {own : String} (hown : s.vm.findClass own = some m.cls) {C : String} {index n : Nat} (w : (Cond.classLink own index C).before a0 Z = true) (wi : (Cond.instantiable C n).before a0 Z = true) (wz : (Cond.initialized C).before a0 Z = true) (eT : T.heap = h) (hd : In bs pc (.new index) 3 nx) (hc : cells + 1 ≤ R.cells) (hl : slots + n ≤ R.slots) (k : ∀ T' h' a, a = h.size → Stand p l e R s m args below meth c T' locs (cells + 1) (slots + n) → T'.heap = h' → Ext h h' → Exa Z h' a C → (∀ {D nm d : String} {ty : FieldType}, Laid Z a0 C D nm d → parseFieldDescriptor d = some ty → Fld Z h' a D nm d (defaultValue ty)) → Wp p e below s K N Q T' (mkF m nx Ls (.ref a :: st))) : Wp p e below s K N Q T (mkF m pc Ls st) := by
  obtain ⟨d, rfl⟩ := hd; obtain ⟨T', h', X', e', E', A', D', -, st'⟩ := newO X hx hZ hown w wi wz eT (g := mkF m pc Ls st) rfl (hb hby d) hc hl; exact Wp.go st' (k T' h' _ rfl X' e' E' A' D')
theorem w_newP (X : Stand p l e R s m args below meth c T locs cells slots) (hx : p.tables.exec = Jvm.exec) (hby : c.code = bs) (hZ : Z.Warmed39 s.vm) {aty : ArrayType} (w : (Cond.arrayClass (newarray.typeOf aty)).before a0 Z = true) (eT : T.heap = h) {n : Int32} (hd : In bs pc (.newarray aty) 2 nx) (hn : ¬ n < 0) (cap : Nat) (hcap : n.toNatClampNeg ≤ cap) (hbig : cap * 8 ≤ 536870912) (hc : cells + 1 ≤ R.cells) (hl : slots + cap ≤ R.slots) (k : ∀ T' h' a kA, a = h.size → Stand p l e R s m args below meth c T' locs (cells + 1) (slots + cap) → T'.heap = h' → Ext h h' → Arr Z h' a (newA kA (newarray.typeOf aty) n) (newarray.typeOf aty) → Wp p e below s K N Q T' (mkF m nx Ls (.ref a :: st))) : Wp p e below s K N Q T (mkF m pc Ls (.int n :: st)) := by
  obtain ⟨d, rfl⟩ := hd; obtain ⟨T', h', kA, X', e', E', A', st'⟩ := newP X hx hZ w eT (g := mkF m pc Ls (.int n :: st)) rfl (hb hby d) rfl hn hcap hbig hc hl; exact Wp.go st' (k T' h' _ kA rfl X' e' E' A')
theorem w_newR (X : Stand p l e R s m args below meth c T locs cells slots) (hx : p.tables.exec = Jvm.exec) (hby : c.code = bs) (hZ : Z.Warmed39 s.vm) {own : String} (hown : s.vm.findClass own = some m.cls) {C : String} {index : Nat} (w1 : (Cond.classLink own index C).before a0 Z = true) (w2 : (Cond.arrayOver (.object C)).before a0 Z = true) (eT : T.heap = h) {n : Int32} (hd : In bs pc (.anewarray index) 3 nx) (hn : ¬ n < 0) (cap : Nat) (hcap : n.toNatClampNeg ≤ cap) (hbig : cap * 8 ≤ 536870912) (hc : cells + 1 ≤ R.cells) (hl : slots + cap ≤ R.slots) (k : ∀ T' h' a kA, a = h.size → Stand p l e R s m args below meth c T' locs (cells + 1) (slots + cap) → T'.heap = h' → Ext h h' → Arr Z h' a (newA kA (.object C) n) (.object C) → Ovr Z kA C → Wp p e below s K N Q T' (mkF m nx Ls (.ref a :: st))) : Wp p e below s K N Q T (mkF m pc Ls (.int n :: st)) := by
  obtain ⟨d, rfl⟩ := hd; obtain ⟨T', h', kA, X', e', E', A', O', st'⟩ := newR X hx hZ hown w1 w2 eT (g := mkF m pc Ls (.int n :: st)) rfl (hb hby d) rfl hn hcap hbig hc hl; exact Wp.go st' (k T' h' _ kA rfl X' e' E' A' O')
theorem w_stI (X : Stand p l e R s m args below meth c T locs cells slots) (hx : p.tables.exec = Jvm.exec) (hby : c.code = bs) (hZ : Z.Warmed39 s.vm) (eT : T.heap = h) {a : Addr} {cl : Cell} (A : Arr Z h a cl .int) {j : Int32} {x : Int32} (hj : ¬ (j < 0 ∨ cl.slots.size ≤ j.toNatClampNeg)) (hd : In bs pc .iastore 1 nx) (k : ∀ T' h', Stand p l e R s m args below meth c T' (locs ++ [⟨a, j.toNatClampNeg⟩]) cells slots → T'.heap = h' → Wr h h' a j.toNatClampNeg (.int x) → Wp p e below s K N Q T' (mkF m nx Ls st)) : Wp p e below s K N Q T (mkF m pc Ls (.int x :: .int j :: .ref a :: st)) := by
  obtain ⟨d, rfl⟩ := hd; obtain ⟨T', h', X', e', W', st'⟩ := stI X hx hZ eT A hj (g := mkF m pc Ls (.int x :: .int j :: .ref a :: st)) rfl rfl (hb hby d); exact Wp.go st' (k T' h' X' e' W')
theorem w_stJ (X : Stand p l e R s m args below meth c T locs cells slots) (hx : p.tables.exec = Jvm.exec) (hby : c.code = bs) (hZ : Z.Warmed39 s.vm) (eT : T.heap = h) {a : Addr} {cl : Cell} (A : Arr Z h a cl .long) {j : Int32} {x : Int64} (hj : ¬ (j < 0 ∨ cl.slots.size ≤ j.toNatClampNeg)) (hd : In bs pc .lastore 1 nx) (k : ∀ T' h', Stand p l e R s m args below meth c T' (locs ++ [⟨a, j.toNatClampNeg⟩]) cells slots → T'.heap = h' → Wr h h' a j.toNatClampNeg (.long x) → Wp p e below s K N Q T' (mkF m nx Ls st)) : Wp p e below s K N Q T (mkF m pc Ls (.long x :: .int j :: .ref a :: st)) := by
  obtain ⟨d, rfl⟩ := hd; obtain ⟨T', h', X', e', W', st'⟩ := stJ X hx hZ eT A hj (g := mkF m pc Ls (.long x :: .int j :: .ref a :: st)) rfl rfl (hb hby d); exact Wp.go st' (k T' h' X' e' W')
theorem w_stC (X : Stand p l e R s m args below meth c T locs cells slots) (hx : p.tables.exec = Jvm.exec) (hby : c.code = bs) (hZ : Z.Warmed39 s.vm) (eT : T.heap = h) {a : Addr} {cl : Cell} (A : Arr Z h a cl .char) {j : Int32} {x : Int32} (hj : ¬ (j < 0 ∨ cl.slots.size ≤ j.toNatClampNeg)) (hd : In bs pc .castore 1 nx) (k : ∀ T' h', Stand p l e R s m args below meth c T' (locs ++ [⟨a, j.toNatClampNeg⟩]) cells slots → T'.heap = h' → Wr h h' a j.toNatClampNeg (.int (nar .char x)) → Wp p e below s K N Q T' (mkF m nx Ls st)) : Wp p e below s K N Q T (mkF m pc Ls (.int x :: .int j :: .ref a :: st)) := by
  obtain ⟨d, rfl⟩ := hd; obtain ⟨T', h', X', e', W', st'⟩ := stC X hx hZ eT A hj (g := mkF m pc Ls (.int x :: .int j :: .ref a :: st)) rfl rfl (hb hby d); exact Wp.go st' (k T' h' X' e' W')
theorem w_stB (X : Stand p l e R s m args below meth c T locs cells slots) (hx : p.tables.exec = Jvm.exec) (hby : c.code = bs) (hZ : Z.Warmed39 s.vm) (eT : T.heap = h) {a : Addr} {cl : Cell} (A : Arr Z h a cl .byte) {j : Int32} {x : Int32} (hj : ¬ (j < 0 ∨ cl.slots.size ≤ j.toNatClampNeg)) (hd : In bs pc .bastore 1 nx) (k : ∀ T' h', Stand p l e R s m args below meth c T' (locs ++ [⟨a, j.toNatClampNeg⟩]) cells slots → T'.heap = h' → Wr h h' a j.toNatClampNeg (.int (nar .byte x)) → Wp p e below s K N Q T' (mkF m nx Ls st)) : Wp p e below s K N Q T (mkF m pc Ls (.int x :: .int j :: .ref a :: st)) := by
  obtain ⟨d, rfl⟩ := hd; obtain ⟨T', h', X', e', W', st'⟩ := stB X hx hZ eT A hj (g := mkF m pc Ls (.int x :: .int j :: .ref a :: st)) rfl rfl (hb hby d); exact Wp.go st' (k T' h' X' e' W')
theorem w_stZ (X : Stand p l e R s m args below meth c T locs cells slots) (hx : p.tables.exec = Jvm.exec) (hby : c.code = bs) (hZ : Z.Warmed39 s.vm) (eT : T.heap = h) {a : Addr} {cl : Cell} (A : Arr Z h a cl .boolean) {j : Int32} {x : Int32} (hj : ¬ (j < 0 ∨ cl.slots.size ≤ j.toNatClampNeg)) (hd : In bs pc .bastore 1 nx) (k : ∀ T' h', Stand p l e R s m args below meth c T' (locs ++ [⟨a, j.toNatClampNeg⟩]) cells slots → T'.heap = h' → Wr h h' a j.toNatClampNeg (.int (nar .boolean x)) → Wp p e below s K N Q T' (mkF m nx Ls st)) : Wp p e below s K N Q T (mkF m pc Ls (.int x :: .int j :: .ref a :: st)) := by
  obtain ⟨d, rfl⟩ := hd; obtain ⟨T', h', X', e', W', st'⟩ := stZ X hx hZ eT A hj (g := mkF m pc Ls (.int x :: .int j :: .ref a :: st)) rfl rfl (hb hby d); exact Wp.go st' (k T' h' X' e' W')
theorem w_stR (X : Stand p l e R s m args below meth c T locs cells slots) (hx : p.tables.exec = Jvm.exec) (hby : c.code = bs) (hZ : Z.Warmed39 s.vm) (eT : T.heap = h) {a : Addr} {cl : Cell} {ty : FieldType} (A : Arr Z h a cl ty) {j : Int32} {v : Value} (hj : ¬ (j < 0 ∨ cl.slots.size ≤ j.toNatClampNeg)) (hty : ty.isReference = true) (F : Sto Z h a v) (hd : In bs pc .aastore 1 nx) (k : ∀ T' h', Stand p l e R s m args below meth c T' (locs ++ [⟨a, j.toNatClampNeg⟩]) cells slots → T'.heap = h' → Wr h h' a j.toNatClampNeg v → Wp p e below s K N Q T' (mkF m nx Ls st)) : Wp p e below s K N Q T (mkF m pc Ls (v :: .int j :: .ref a :: st)) := by
  obtain ⟨d, rfl⟩ := hd; obtain ⟨T', h', X', e', W', st'⟩ := stR X hx hZ eT A hj hty F (g := mkF m pc Ls (v :: .int j :: .ref a :: st)) rfl rfl (hb hby d); exact Wp.go st' (k T' h' X' e' W')
theorem w_iaload (X : Stand p l e R s m args below meth c T locs cells slots) (hx : p.tables.exec = Jvm.exec) (hby : c.code = bs) (hZ : Z.Warmed39 s.vm) (eT : T.heap = h) {a : Addr} {cl : Cell} (A : Arr Z h a cl .int) {j : Int32} {v : Value} (hj : ¬ (j < 0 ∨ cl.slots.size ≤ j.toNatClampNeg)) (hv : cl.slots[j.toNatClampNeg]? = some v) (hd : In bs pc .iaload 1 nx) (k : Wp p e below s K N Q T (mkF m nx Ls (v :: st))) : Wp p e below s K N Q T (mkF m pc Ls (.int j :: .ref a :: st)) := by
  obtain ⟨d, rfl⟩ := hd; exact Wp.go (fun t kk => X.iaload hx (by rw [eT]; exact A.1) (State.isArrayOf_alike hZ.alike A.2.1) A.2.2 hj hv (g := mkF m pc Ls (.int j :: .ref a :: st)) rfl rfl (hb hby d) t kk) k
theorem w_laload (X : Stand p l e R s m args below meth c T locs cells slots) (hx : p.tables.exec = Jvm.exec) (hby : c.code = bs) (hZ : Z.Warmed39 s.vm) (eT : T.heap = h) {a : Addr} {cl : Cell} (A : Arr Z h a cl .long) {j : Int32} {v : Value} (hj : ¬ (j < 0 ∨ cl.slots.size ≤ j.toNatClampNeg)) (hv : cl.slots[j.toNatClampNeg]? = some v) (hd : In bs pc .laload 1 nx) (k : Wp p e below s K N Q T (mkF m nx Ls (v :: st))) : Wp p e below s K N Q T (mkF m pc Ls (.int j :: .ref a :: st)) := by
  obtain ⟨d, rfl⟩ := hd; exact Wp.go (fun t kk => X.laload hx (by rw [eT]; exact A.1) (State.isArrayOf_alike hZ.alike A.2.1) A.2.2 hj hv (g := mkF m pc Ls (.int j :: .ref a :: st)) rfl rfl (hb hby d) t kk) k
theorem w_caload (X : Stand p l e R s m args below meth c T locs cells slots) (hx : p.tables.exec = Jvm.exec) (hby : c.code = bs) (hZ : Z.Warmed39 s.vm) (eT : T.heap = h) {a : Addr} {cl : Cell} (A : Arr Z h a cl .char) {j : Int32} {v : Value} (hj : ¬ (j < 0 ∨ cl.slots.size ≤ j.toNatClampNeg)) (hv : cl.slots[j.toNatClampNeg]? = some v) (hd : In bs pc .caload 1 nx) (k : Wp p e below s K N Q T (mkF m nx Ls (v :: st))) : Wp p e below s K N Q T (mkF m pc Ls (.int j :: .ref a :: st)) := by
  obtain ⟨d, rfl⟩ := hd; exact Wp.go (fun t kk => X.caload hx (by rw [eT]; exact A.1) (State.isArrayOf_alike hZ.alike A.2.1) A.2.2 hj hv (g := mkF m pc Ls (.int j :: .ref a :: st)) rfl rfl (hb hby d) t kk) k
theorem w_baload (X : Stand p l e R s m args below meth c T locs cells slots) (hx : p.tables.exec = Jvm.exec) (hby : c.code = bs) (hZ : Z.Warmed39 s.vm) (eT : T.heap = h) {a : Addr} {cl : Cell} (A : Arr Z h a cl .byte) {j : Int32} {v : Value} (hj : ¬ (j < 0 ∨ cl.slots.size ≤ j.toNatClampNeg)) (hv : cl.slots[j.toNatClampNeg]? = some v) (hd : In bs pc .baload 1 nx) (k : Wp p e below s K N Q T (mkF m nx Ls (v :: st))) : Wp p e below s K N Q T (mkF m pc Ls (.int j :: .ref a :: st)) := by
  obtain ⟨d, rfl⟩ := hd; exact Wp.go (fun t kk => X.baloadBytes hx (by rw [eT]; exact A.1) (State.isArrayOf_alike hZ.alike A.2.1) A.2.2 hj hv (g := mkF m pc Ls (.int j :: .ref a :: st)) rfl rfl (hb hby d) t kk) k
theorem w_aaload (X : Stand p l e R s m args below meth c T locs cells slots) (hx : p.tables.exec = Jvm.exec) (hby : c.code = bs) (hZ : Z.Warmed39 s.vm) (eT : T.heap = h) {a : Addr} {cl : Cell} {ty : FieldType} (A : Arr Z h a cl ty) (hty : ty.isReference = true) {j : Int32} {v : Value} (hj : ¬ (j < 0 ∨ cl.slots.size ≤ j.toNatClampNeg)) (hv : cl.slots[j.toNatClampNeg]? = some v) (hd : In bs pc .aaload 1 nx) (k : Wp p e below s K N Q T (mkF m nx Ls (v :: st))) : Wp p e below s K N Q T (mkF m pc Ls (.int j :: .ref a :: st)) := by
  obtain ⟨d, rfl⟩ := hd; exact Wp.go (fun t kk => X.aaload hx (by rw [eT]; exact A.1) (State.isArrayOf_alike hZ.alike A.2.1) hty A.2.2 hj hv (g := mkF m pc Ls (.int j :: .ref a :: st)) rfl rfl (hb hby d) t kk) k
theorem w_arraylength (X : Stand p l e R s m args below meth c T locs cells slots) (hx : p.tables.exec = Jvm.exec) (hby : c.code = bs) (hZ : Z.Warmed39 s.vm) (eT : T.heap = h) {a : Addr} {cl : Cell} {ty : FieldType} (A : Arr Z h a cl ty) {z : Int32} (hz : cl.slots.size.toInt32 = z) (hd : In bs pc .arraylength 1 nx) (k : Wp p e below s K N Q T (mkF m nx Ls (.int z :: st))) : Wp p e below s K N Q T (mkF m pc Ls (.ref a :: st)) := by
  obtain ⟨d, rfl⟩ := hd; subst hz; exact Wp.go (fun t kk => X.arraylength hx (by rw [eT]; exact A.1) (State.isArrayOf_alike hZ.alike A.2.1) (g := mkF m pc Ls (.ref a :: st)) rfl rfl (hb hby d) t kk) k
theorem w_initO (X : Stand p l e R s m args below meth c T locs cells slots) (hx : p.tables.exec = Jvm.exec) (hby : c.code = bs) (hZ : Z.Warmed39 s.vm) {own : String} (hown : s.vm.findClass own = some m.cls) (hml : Ls.size = c.maxLocals) {idx : Nat} (w1 : (Cond.methodLink own idx Lib.objectInit).before a0 Z = true) (w2 : (Cond.instanceMethod Lib.objectInit).before a0 Z = true) (w3 : (Cond.code Lib.objectInit ⟨#[0xb1]⟩ 1 none).before a0 Z = true) (eT : T.heap = h) {a : Addr} (hd : In bs pc (.invokespecial idx) 3 nx) (hf : 1 ≤ R.frames) {Wd : Nat} (hW : (st.map fun v => v.category).sum = Wd) (hl : Wd + 12 ≤ R.locals) (k : ∀ T', Stand p l e R s m args below meth c T' locs cells slots → T'.heap = h → Wp p e below s K N Q T' (mkF m nx Ls st)) : Wp p e below s K N Q T (mkF m pc Ls (.ref a :: st)) := by
  obtain ⟨d, rfl⟩ := hd; obtain ⟨T', X', e', st'⟩ := initO X hx hZ hown w1 w2 w3 eT (g := mkF m pc Ls (.ref a :: st)) rfl hml rfl (hb hby d) hf (W := Wd) (by show 2 * 0 + _ ≤ _; omega) hl; exact Wp.go st' (k T' X' e')
/-- a body's contract: called on as' at the heap h it returns as Q says, within the room rm -/
def Con (l : Launch) (Z : State) (y : MethodName) (bs : ByteArray) (ml : Nat) (rt : Option FieldType) (rm : Room) (as' : Array Value) (h : Heap) (Q : Option Value → Heap → List Loc → Prop) : Prop :=
  ∀ ws : List Jvm.Cond, MetFree l y (head1 (Jvm.Cond.code y bs ml rt :: ws) rm) (fun a U => a = as' ∧ Z.Warmed39 U.vm ∧ U.heap = h) (fun _ _ _ _ _ => True) (fun _ U o U' => ∃ v L, o = .returned v ∧ Q v U'.heap L ∧ FrameEnd U o U' L rm.cells rm.slots)
theorem w_body {y : MethodName} {ml : Nat} {rt : Option FieldType} {rm : Room} {as' : Array Value} (hy : plainFor y = true) (hf : ∀ m, entryFrame m as' ml = mkF m 0 Ls [])
    (k : ∀ (p : Program) (e : Env) (s : State) (m : MethodId) (below : List Frame) (meth : Method) (c : Code) (T : State), Stand p l e rm s m as' below meth c T [] 0 0 → p.tables.exec = Jvm.exec → c.code = bs → c.maxLocals = ml → s.vm.findClass y.cls = some m.cls → meth.name = y.name → meth.sig.returnType = rt → meth.locks = false → Z.Warmed39 s.vm → T.heap = h → Wp p e below s rm.cells rm.slots Q T (mkF m 0 Ls [])) : Con l Z y bs ml rt rm as' h Q := by
  intro ws
  refine MetFree.of_bodySF hy hisR ?_
  intro p e s m args below meth c s₁ Bd hml0 hP hK
  obtain ⟨rfl, hZ, hh⟩ := hP
  have e0 : s₁.heap = h := by rw [← hh, Bd.state]; rfl
  rw [hf m]
  exact k p e s m below meth c s₁ (Stand.of_body Bd) Bd.exec Bd.bytes hml0 (findClass_of_methodNamed Bd.named) (name_of_methodNamed Bd.named Bd.method).1 Bd.returns (BodyLoose.notSynchronized Bd) hZ e0
/-- what a call leaves -/
def Called (p : Program) (l : Launch) (e : Env) (R : Room) (s : State) (m : MethodId) (args : Array Value) (below : List Frame) (meth : Method) (c : Code) (T : State) (locs : List Loc) (cells slots : Nat) (rm : Room) (Qc : Option Value → Heap → List Loc → Prop) (pc nx : Nat) (Ls : Array Slot) (stk rest : List Value) : Prop :=
  ∃ v T' L, Stand p l e R s m args below meth c T' (locs ++ L) (cells + rm.cells) (slots + rm.slots) ∧ Qc v T'.heap L ∧ Steps p.tables e below (T.setTop (mkF m pc Ls stk)) (T'.setTop (mkF m nx Ls (v.toList ++ rest)))
theorem call_S (X : Stand p l e R s m args below meth c T locs cells slots) (hx : p.tables.exec = Jvm.exec) (hby : c.code = bs) (hZ : Z.Warmed39 s.vm) {own : String} (hown : s.vm.findClass own = some m.cls) {y : MethodName} {ml : Nat} {rt : Option FieldType} {rm : Room} {as' : Array Value} {Qc : Option Value → Heap → List Loc → Prop} {index : Nat} {argsL rest : List Value} {Wd : Nat} {bs' : ByteArray} (w1 : (Cond.methodLink own index y).before a0 Z = true) (w2 : (Cond.static y).before a0 Z = true) (wz : (Cond.initialized y.cls).before a0 Z = true) (wc : (Cond.code y bs' ml rt).before a0 Z = true) (hy : y.cls ≠ "java/lang/invoke/MethodHandle" ∧ y.cls ≠ "java/lang/invoke/VarHandle") (con : Con l Z y bs' ml rt rm as' h Qc) (ha : argsL.toArray = as') (hd : In bs pc (.invokestatic index) 3 nx) (hsz : Ls.size = c.maxLocals) (hlen : ∀ sig, parseMethodDescriptor y.desc = some sig → argsL.length = sig.parameters.length) (hW : (rest.map fun v => v.category).sum = Wd) (hfr : rm.frames + 1 ≤ R.frames) (hlo : Wd + (ml + 11) + rm.locals ≤ R.locals) (hce : cells + rm.cells ≤ R.cells) (hso : slots + rm.slots ≤ R.slots) (eT : T.heap = h) : Called p l e R s m args below meth c T locs cells slots rm Qc pc nx Ls (argsL.reverse ++ rest) rest := by
  obtain ⟨d, rfl⟩ := hd
  obtain ⟨v, vm, ⟨T', L', k', n'⟩, -, X', ⟨L, q, l', y', z'⟩, st'⟩ := Jvm.LawKit.callS X hx (y := y) hown (mvT hZ w1) (mvT hZ w2) (mvT hZ wz) (mvT hZ wc) hy (backOf (W := Wd) (con []) hZ wc wz hfr hlo) (g := mkF m pc Ls (argsL.reverse ++ rest)) rfl hsz (argsL := argsL) (rest := rest) hlen rfl (by show 2 * 0 + _ ≤ _; omega) (hb hby d) (fun _ _ => ⟨ha, eT, hce, hso⟩)
  dsimp only [Pt.U, Pt.locs, Pt.cells, Pt.slots] at X' l' y' z' st' q
  subst l' y' z'
  exact ⟨v, T', L, X', q, st' _ (Steps.refl _)⟩
theorem call_N (X : Stand p l e R s m args below meth c T locs cells slots) (hx : p.tables.exec = Jvm.exec) (hby : c.code = bs) (hZ : Z.Warmed39 s.vm) {own : String} (hown : s.vm.findClass own = some m.cls) {y : MethodName} {ml : Nat} {rm : Room} {as' : Array Value} {Qc : Option Value → Heap → List Loc → Prop} {index : Nat} {argsL rest : List Value} {Wd : Nat} {bs' : ByteArray} {a : Addr} (hn : y.name = "<init>") (w1 : (Cond.methodLink own index y).before a0 Z = true) (w2 : (Cond.instanceMethod y).before a0 Z = true) (wz : (Cond.initialized y.cls).before a0 Z = true) (wc : (Cond.code y bs' ml none).before a0 Z = true) (hy : y.cls ≠ "java/lang/invoke/MethodHandle" ∧ y.cls ≠ "java/lang/invoke/VarHandle") (con : Con l Z y bs' ml none rm as' h Qc) (ha : (.ref a :: argsL).toArray = as') (hd : In bs pc (.invokespecial index) 3 nx) (hsz : Ls.size = c.maxLocals) (hlen : ∀ sig, parseMethodDescriptor y.desc = some sig → argsL.length = sig.parameters.length) (hW : (rest.map fun v => v.category).sum = Wd) (hfr : rm.frames + 1 ≤ R.frames) (hlo : Wd + (ml + 11) + rm.locals ≤ R.locals) (hce : cells + rm.cells ≤ R.cells) (hso : slots + rm.slots ≤ R.slots) (eT : T.heap = h) : Called p l e R s m args below meth c T locs cells slots rm Qc pc nx Ls (argsL.reverse ++ .ref a :: rest) rest := by
  obtain ⟨d, rfl⟩ := hd
  obtain ⟨v, vm, ⟨T', L', k', n'⟩, -, X', ⟨L, q, l', y', z'⟩, st'⟩ := X.specialBack hx (y := y) hn hown (mvT hZ w1) (mvT hZ w2) (mvT hZ wc) hy (backOf (W := Wd) (con []) hZ wc wz hfr hlo) (g := mkF m pc Ls (argsL.reverse ++ .ref a :: rest)) rfl hsz (Steps.refl _) (a := a) (argsL := argsL) (rest := rest) hlen rfl (by show 2 * 0 + _ ≤ _; omega) (hb hby d) (fun _ _ => ⟨ha, eT, hce, hso⟩)
  dsimp only [Pt.U, Pt.locs, Pt.cells, Pt.slots] at X' l' y' z' st' q
  subst l' y' z'
  exact ⟨v, T', L, X', q, st'⟩
theorem call_V (X : Stand p l e R s m args below meth c T locs cells slots) (hx : p.tables.exec = Jvm.exec) (hby : c.code = bs) (hZ : Z.Warmed39 s.vm) {own : String} (hown : s.vm.findClass own = some m.cls) {y : MethodName} {ml : Nat} {rt : Option FieldType} {rm : Room} {as' : Array Value} {Qc : Option Value → Heap → List Loc → Prop} {index : Nat} {argsL rest : List Value} {Wd : Nat} {bs' : ByteArray} {a : Addr} {C : String} (w1 : (Cond.methodLink own index y).before a0 Z = true) (w2 : (Cond.declares y).before a0 Z = true) (w3 : (Cond.selects C y y).before a0 Z = true) (w4 : (Cond.instanceMethod y).before a0 Z = true) (wz : (Cond.initialized y.cls).before a0 Z = true) (wc : (Cond.code y bs' ml rt).before a0 Z = true) (hy : y.cls ≠ "java/lang/invoke/MethodHandle" ∧ y.cls ≠ "java/lang/invoke/VarHandle") (E : Exa Z h a C) (con : Con l Z y bs' ml rt rm as' h Qc) (ha : (.ref a :: argsL).toArray = as') (hd : In bs pc (.invokevirtual index) 3 nx) (hsz : Ls.size = c.maxLocals) (hlen : ∀ sig, parseMethodDescriptor y.desc = some sig → argsL.length = sig.parameters.length) (hW : (rest.map fun v => v.category).sum = Wd) (hfr : rm.frames + 1 ≤ R.frames) (hlo : Wd + (ml + 11) + rm.locals ≤ R.locals) (hce : cells + rm.cells ≤ R.cells) (hso : slots + rm.slots ≤ R.slots) (eT : T.heap = h) : Called p l e R s m args below meth c T locs cells slots rm Qc pc nx Ls (argsL.reverse ++ .ref a :: rest) rest := by
  obtain ⟨d, rfl⟩ := hd
  obtain ⟨cq, kq, qa, qb, qc⟩ := isOf hZ eT E
  obtain ⟨v, vm, ⟨T', L', k', n'⟩, -, X', ⟨L, q, l', y', z'⟩, st'⟩ := X.virtualBack hx (y := y) (z := y) hown (mvT hZ w1) (mvT hZ w2) (notFace_of_selects (args := #[]) (mvT hZ w3)) (mvT hZ w3) (mvT hZ w4) hy (backOf (W := Wd) (con []) hZ wc wz hfr hlo) qa qc (g := mkF m pc Ls (argsL.reverse ++ .ref a :: rest)) rfl hsz (Steps.refl _) (argsL := argsL) (rest := rest) hlen rfl (by show 2 * 0 + _ ≤ _; omega) (hb hby d) (fun _ _ => ⟨ha, eT, hce, hso⟩)
  dsimp only [Pt.U, Pt.locs, Pt.cells, Pt.slots] at X' l' y' z' st' q
  subst l' y' z'
  exact ⟨v, T', L, X', q, st'⟩
theorem call_U (X : Stand p l e R s m args below meth c T locs cells slots) (hx : p.tables.exec = Jvm.exec) (hby : c.code = bs) (hZ : Z.Warmed39 s.vm) {own : String} (hown : s.vm.findClass own = some m.cls) {y : MethodName} {ml : Nat} {rt : Option FieldType} {rm : Room} {as' : Array Value} {Qc : Option Value → Heap → List Loc → Prop} {index : Nat} {argsL rest : List Value} {Wd : Nat} {bs' : ByteArray} {x : MethodName} {a : Addr} {C owner : String} (w1 : (Cond.methodLink own index x).before a0 Z = true) (w2 : (Cond.sameMethod x.cls owner x.name x.desc).before a0 Z = true) (w5 : (Cond.declares ⟨owner, x.name, x.desc⟩).before a0 Z = true) (ho : owner ≠ "java/lang/invoke/MethodHandle" ∧ owner ≠ "java/lang/invoke/VarHandle") (w3 : (Cond.selects C x y).before a0 Z = true) (w4 : (Cond.instanceMethod y).before a0 Z = true) (wz : (Cond.initialized y.cls).before a0 Z = true) (wc : (Cond.code y bs' ml rt).before a0 Z = true) (E : Exa Z h a C) (con : Con l Z y bs' ml rt rm as' h Qc) (ha : (.ref a :: argsL).toArray = as') (hd : In bs pc (.invokevirtual index) 3 nx) (hsz : Ls.size = c.maxLocals) (hlen : ∀ sig, parseMethodDescriptor x.desc = some sig → argsL.length = sig.parameters.length) (hW : (rest.map fun v => v.category).sum = Wd) (hfr : rm.frames + 1 ≤ R.frames) (hlo : Wd + (ml + 11) + rm.locals ≤ R.locals) (hce : cells + rm.cells ≤ R.cells) (hso : slots + rm.slots ≤ R.slots) (eT : T.heap = h) : Called p l e R s m args below meth c T locs cells slots rm Qc pc nx Ls (argsL.reverse ++ .ref a :: rest) rest := by
  obtain ⟨d, rfl⟩ := hd
  obtain ⟨cq, kq, qa, qb, qc⟩ := isOf hZ eT E
  obtain ⟨v, vm, ⟨T', L', k', n'⟩, -, X', ⟨L, q, l', y', z'⟩, st'⟩ := X.virtualBackUp hx (x := x) (y := y) hown (mvT hZ w1) (mvT hZ w2) (mvT hZ w5) ho (mvT hZ w3) (mvT hZ w4) (backOf (W := Wd) (con []) hZ wc wz hfr hlo) qa qc (g := mkF m pc Ls (argsL.reverse ++ .ref a :: rest)) rfl hsz (Steps.refl _) (argsL := argsL) (rest := rest) hlen rfl (by show 2 * 0 + _ ≤ _; omega) (hb hby d) (fun _ _ => ⟨ha, eT, hce, hso⟩)
  dsimp only [Pt.U, Pt.locs, Pt.cells, Pt.slots] at X' l' y' z' st' q
  subst l' y' z'
  exact ⟨v, T', L, X', q, st'⟩
/-- behind a call -/
theorem w_called {rm : Room} {Qc : Option Value → Heap → List Loc → Prop} {stk rest : List Value} (hc : Called p l e R s m args below meth c T locs cells slots rm Qc pc nx Ls stk rest)
    (k : ∀ v T' L, Stand p l e R s m args below meth c T' (locs ++ L) (cells + rm.cells) (slots + rm.slots) → Qc v T'.heap L → Wp p e below s K N Q T' (mkF m nx Ls (v.toList ++ rest))) : Wp p e below s K N Q T (mkF m pc Ls stk) := by
  obtain ⟨v, T', L, X', q, st'⟩ := hc; exact Wp.tr st' (k v T' L X' q)
/-- behind a call that writes nothing and makes nothing -/
theorem w_calledp {rm : Room} {w : Value} {stk rest : List Value} (hc : Called p l e R s m args below meth c T locs cells slots rm (fun v h' L => v = some w ∧ h' = h ∧ L = []) pc nx Ls stk rest) (h1 : rm.cells = 0) (h2 : rm.slots = 0)
    (k : ∀ T', Stand p l e R s m args below meth c T' locs cells slots → T'.heap = h → Wp p e below s K N Q T' (mkF m nx Ls (w :: rest))) : Wp p e below s K N Q T (mkF m pc Ls stk) := by
  obtain ⟨v, T', L, X', ⟨rfl, q, rfl⟩, st'⟩ := hc
  rw [h1, h2, List.append_nil] at X'
  exact Wp.tr st' (k T' X' q)
theorem w_retI (X : Stand p l e R s m args below meth c T locs cells slots) (hx : p.tables.exec = Jvm.exec) (hby : c.code = bs) (eT : T.heap = h) (hlk : meth.locks = false) {z : Int32} (hret : meth.sig.returnType = some .int) (hd : In bs pc .ireturn 1 nx) (hK : cells ≤ K) (hN : slots ≤ N) (q : Q (some (.int z)) h locs) : Wp p e below s K N Q T (mkF m pc Ls (.int z :: st)) := by
  obtain ⟨fs, hr, hrun, hended, hW, hsame⟩ := X.leave (v := some (.int z)) (fun h => by rw [hret] at h; cases h) hlk
  subst eT
  refine ⟨_, _, ?_, hrun, hended, _, _, rfl, q, ⟨_, rfl⟩, hW, hsame.mono hK hN⟩
  exact retOut X hx hret rfl (Or.inl ⟨rfl, Or.inl rfl, z, rfl⟩) (hb hby hd.1) hr
theorem w_retN (X : Stand p l e R s m args below meth c T locs cells slots) (hx : p.tables.exec = Jvm.exec) (hby : c.code = bs) (eT : T.heap = h) (hlk : meth.locks = false) {z : Int32} {t : FieldType} (hret : meth.sig.returnType = some t) (ht : t = .boolean ∨ t = .byte ∨ t = .char ∨ t = .short) (hd : In bs pc .ireturn 1 nx) (hK : cells ≤ K) (hN : slots ≤ N) (q : Q (some (.int (nar t z))) h locs) : Wp p e below s K N Q T (mkF m pc Ls (.int z :: st)) := by
  obtain ⟨fs, hr, hrun, hended, hW, hsame⟩ := X.leave (v := some (.int (nar t z))) (fun h => by rw [hret] at h; cases h) hlk
  subst eT
  refine ⟨_, _, ?_, hrun, hended, _, _, rfl, q, ⟨_, rfl⟩, hW, hsame.mono hK hN⟩
  exact retN X hx hret ht (hb hby hd.1) hr
theorem w_retJ (X : Stand p l e R s m args below meth c T locs cells slots) (hx : p.tables.exec = Jvm.exec) (hby : c.code = bs) (eT : T.heap = h) (hlk : meth.locks = false) {z : Int64} (hret : meth.sig.returnType = some .long) (hd : In bs pc .lreturn 1 nx) (hK : cells ≤ K) (hN : slots ≤ N) (q : Q (some (.long z)) h locs) : Wp p e below s K N Q T (mkF m pc Ls (.long z :: st)) := by
  obtain ⟨fs, hr, hrun, hended, hW, hsame⟩ := X.leave (v := some (.long z)) (fun h => by rw [hret] at h; cases h) hlk
  subst eT
  refine ⟨_, _, ?_, hrun, hended, _, _, rfl, q, ⟨_, rfl⟩, hW, hsame.mono hK hN⟩
  exact retOut X hx hret rfl (Or.inr (Or.inl ⟨rfl, rfl, z, rfl⟩)) (hb hby hd.1) hr
theorem w_retA (X : Stand p l e R s m args below meth c T locs cells slots) (hx : p.tables.exec = Jvm.exec) (hby : c.code = bs) (eT : T.heap = h) (hlk : meth.locks = false) {w : Value} {t : FieldType} (hret : meth.sig.returnType = some t) (ht : t.isReference = true) (hw : w.isRef = true) (hn : narrow t w = w) (hd : In bs pc .areturn 1 nx) (hK : cells ≤ K) (hN : slots ≤ N) (q : Q (some w) h locs) : Wp p e below s K N Q T (mkF m pc Ls (w :: st)) := by
  obtain ⟨fs, hr, hrun, hended, hW, hsame⟩ := X.leave (v := some w) (fun h => by rw [hret] at h; cases h) hlk
  subst eT
  refine ⟨_, _, ?_, hrun, hended, _, _, rfl, q, ⟨_, rfl⟩, hW, hsame.mono hK hN⟩
  exact retOut X hx hret hn (Or.inr (Or.inr (Or.inr (Or.inr ⟨rfl, ht, hw⟩)))) (hb hby hd.1) hr
theorem w_retV (X : Stand p l e R s m args below meth c T locs cells slots) (hx : p.tables.exec = Jvm.exec) (hby : c.code = bs) (eT : T.heap = h) (hlk : meth.locks = false) (hret : meth.sig.returnType = none) (hd : In bs pc .return_ 1 nx) (hK : cells ≤ K) (hN : slots ≤ N) (q : Q none h locs) : Wp p e below s K N Q T (mkF m pc Ls []) := by
  obtain ⟨fs, hr, hrun, hended, hW, hsame⟩ := X.leave (v := none) (fun _ => rfl) hlk
  subst eT
  refine ⟨_, _, ?_, hrun, hended, _, _, rfl, q, ⟨_, rfl⟩, hW, hsame.mono hK hN⟩
  exact X.returnOut hx hret (hb hby hd.1) hr
theorem own_ns {Z : State} {h : Heap} {a : Addr} {K : String} (E : Exa Z h a K) : ∃ c : Cell, h[a]? = some c ∧ c.vm.isStatics = false := by
  obtain ⟨c, _, h1, -, -, h4, -⟩ := E; exact ⟨c, h1, h4⟩
theorem own_nsV {Z : State} {h : Heap} {a : Addr} {k : ClassId} {ty : FieldType} {n : Int32} {vs : List Value} {dv : Value} (E : Arv Z h a k ty n vs dv) : ∃ c : Cell, h[a]? = some c ∧ c.vm.isStatics = false := by
  obtain ⟨c, A, -⟩ := E; exact ⟨c, A.1, A.plain⟩
theorem own_sta_keep {Z : State} {h h' : Heap} {C n d : String} {v : Value} {ws : List Addr} (F : Sta Z h C n d v) (K : Keep h h' ws) (q : ∀ x ∈ ws, ∃ c : Cell, h[x]? = some c ∧ c.vm.isStatics = false) : Sta Z h' C n d v := by
  obtain ⟨cf, i, k, f, st, cell, h1, h2, h3, h4, h5, h6, h7⟩ := F
  refine ⟨cf, i, k, f, st, cell, h1, h2, h3, h4, K.2.1 _ _ h5 (fun hm => ?_), h6, h7⟩
  obtain ⟨c, e1, e2⟩ := q st hm
  cases h5.symm.trans e1
  rw [h6] at e2; cases e2
theorem own_ext_keep {h h' : Heap} (E : Ext h h') : Keep h h' [] := (Keep.refl h []).ext E
theorem own_keep_ext {h h' : Heap} (K : Keep h h' []) : Ext h h' := ⟨K.1, fun a c q => K.2.1 a c q nin0⟩
end OwnKit
theorem t_0 : (Jvm.Cond.arrayClass Jvm.ClassFile.FieldType.byte) ∈ tables_1 := List.mem_of_getElem? (i := 0) rfl
theorem t_1 : (Jvm.Cond.constant "com/example/tagwright/tagwright/Utf8IsAsciiPinLaw" (7 : Nat) (2147483647 : Int32)) ∈ tables_1 := List.mem_of_getElem? (i := 1) rfl
theorem t_2 : (Jvm.Cond.methodLink "com/example/tagwright/tagwright/Utf8IsAsciiPinLaw" (8 : Nat) ({ cls := "com/example/tagwright/tagwright/Utf8IsAsciiPinLaw", name := "bad", desc := "(IIII)Z" } : Jvm.MethodName)) ∈ tables_1 := List.mem_of_getElem? (i := 2) rfl
theorem t_3 : (Jvm.Cond.static ({ cls := "com/example/tagwright/tagwright/Utf8IsAsciiPinLaw", name := "bad", desc := "(IIII)Z" } : Jvm.MethodName)) ∈ tables_1 := List.mem_of_getElem? (i := 3) rfl
theorem t_4 : (Jvm.Cond.initialized "com/example/tagwright/tagwright/Utf8IsAsciiPinLaw") ∈ tables_1 := List.mem_of_getElem? (i := 4) rfl
theorem t_5 : (Jvm.Cond.code ({ cls := "com/example/tagwright/tagwright/Utf8IsAsciiPinLaw", name := "bad", desc := "(IIII)Z" } : Jvm.MethodName) method_3_code (4 : Nat) (Option.some Jvm.ClassFile.FieldType.boolean)) ∈ tables_1 := List.mem_of_getElem? (i := 5) rfl
theorem t_6 : (Jvm.Cond.methodLink "com/example/tagwright/tagwright/Utf8IsAsciiPinLaw" (14 : Nat) ({ cls := "com/example/tagwright/tagwright/Utf8", name := "isAscii", desc := "([BII)Z" } : Jvm.MethodName)) ∈ tables_1 := List.mem_of_getElem? (i := 6) rfl
theorem t_7 : (Jvm.Cond.static ({ cls := "com/example/tagwright/tagwright/Utf8", name := "isAscii", desc := "([BII)Z" } : Jvm.MethodName)) ∈ tables_1 := List.mem_of_getElem? (i := 7) rfl
theorem t_8 : (Jvm.Cond.initialized "com/example/tagwright/tagwright/Utf8") ∈ tables_1 := List.mem_of_getElem? (i := 8) rfl
theorem t_9 : (Jvm.Cond.code ({ cls := "com/example/tagwright/tagwright/Utf8", name := "isAscii", desc := "([BII)Z" } : Jvm.MethodName) prog_63_method_3_code (4 : Nat) (Option.some Jvm.ClassFile.FieldType.boolean)) ∈ tables_1 := List.mem_of_getElem? (i := 9) rfl
theorem n1_0 : In method_3_code 0 (.iload_n 1) 1 1 := ⟨by decide +kernel, rfl⟩
theorem n1_1 : In method_3_code 1 (.iload_n 0) 1 2 := ⟨by decide +kernel, rfl⟩
theorem n1_2 : Jm method_3_code 2 (.if_icmp .gt 20) 20 5 22 := ⟨by decide +kernel, rfl, by decide, by decide⟩
theorem n1_22 : In method_3_code 22 (.iconst 0) 1 23 := ⟨by decide +kernel, rfl⟩
theorem n1_23 : In method_3_code 23 (.ireturn) 1 24 := ⟨by decide +kernel, rfl⟩
theorem n1_5 : In method_3_code 5 (.iload_n 0) 1 6 := ⟨by decide +kernel, rfl⟩
theorem n1_6 : In method_3_code 6 (.iload_n 2) 1 7 := ⟨by decide +kernel, rfl⟩
theorem n1_7 : Jm method_3_code 7 (.if_icmp .ge 15) 15 10 22 := ⟨by decide +kernel, rfl, by decide, by decide⟩
theorem n1_10 : In method_3_code 10 (.iload_n 3) 1 11 := ⟨by decide +kernel, rfl⟩
theorem n1_11 : In method_3_code 11 (.sipush 128) 3 14 := ⟨by decide +kernel, rfl⟩
theorem n1_14 : In method_3_code 14 (.iand) 1 15 := ⟨by decide +kernel, rfl⟩
theorem n1_15 : Jm method_3_code 15 (.ifCond .eq 7) 7 18 22 := ⟨by decide +kernel, rfl, by decide, by decide⟩
theorem n1_18 : In method_3_code 18 (.iconst 1) 1 19 := ⟨by decide +kernel, rfl⟩
theorem n1_19 : Jm method_3_code 19 (.goto 4) 4 22 23 := ⟨by decide +kernel, rfl, by decide, by decide⟩
theorem pn_1 : plainFor (⟨"com/example/tagwright/tagwright/Utf8IsAsciiPinLaw", "bad", "(IIII)Z"⟩ : MethodName) = true := plainFor_of_name (by first | (simp [plainName, overriddenIn]; done) | decide +kernel)
theorem n2_2 : In prog_63_method_3_code 2 (.iload_n 3) 1 3 := ⟨by decide +kernel, rfl⟩
theorem n2_3 : In prog_63_method_3_code 3 (.iload_n 2) 1 4 := ⟨by decide +kernel, rfl⟩
theorem n2_4 : Jm prog_63_method_3_code 4 (.if_icmp .ge 17) 17 7 21 := ⟨by decide +kernel, rfl, by decide, by decide⟩
theorem n2_21 : In prog_63_method_3_code 21 (.iconst 1) 1 22 := ⟨by decide +kernel, rfl⟩
theorem n2_22 : In prog_63_method_3_code 22 (.ireturn) 1 23 := ⟨by decide +kernel, rfl⟩
theorem n2_7 : In prog_63_method_3_code 7 (.aload_n 0) 1 8 := ⟨by decide +kernel, rfl⟩
theorem n2_8 : In prog_63_method_3_code 8 (.iload_n 3) 1 9 := ⟨by decide +kernel, rfl⟩
theorem n2_9 : In prog_63_method_3_code 9 (.baload) 1 10 := ⟨by decide +kernel, rfl⟩
theorem n2_10 : Jm prog_63_method_3_code 10 (.ifCond .ge 5) 5 13 15 := ⟨by decide +kernel, rfl, by decide, by decide⟩
theorem n2_15 : In prog_63_method_3_code 15 (.iinc 3 1) 3 18 := ⟨by decide +kernel, rfl⟩
theorem n2_18 : Jm prog_63_method_3_code 18 (.goto (-16)) (-16) 21 2 := ⟨by decide +kernel, rfl, by decide, by decide⟩
theorem n2_13 : In prog_63_method_3_code 13 (.iconst 0) 1 14 := ⟨by decide +kernel, rfl⟩
theorem n2_14 : In prog_63_method_3_code 14 (.ireturn) 1 15 := ⟨by decide +kernel, rfl⟩
theorem n2_0 : In prog_63_method_3_code 0 (.iload_n 1) 1 1 := ⟨by decide +kernel, rfl⟩
theorem n2_1 : In prog_63_method_3_code 1 (.istore_n 3) 1 2 := ⟨by decide +kernel, rfl⟩
theorem pn_2 : plainFor (⟨"com/example/tagwright/tagwright/Utf8", "isAscii", "([BII)Z"⟩ : MethodName) = true := plainFor_of_name (by first | (simp [plainName, overriddenIn]; done) | decide +kernel)
theorem n0_0 : In code 0 (.iconst 4) 1 1 := ⟨at_0, rfl⟩
theorem n0_1 : In code 1 (.newarray .byte) 2 3 := ⟨at_1, rfl⟩
theorem n0_3 : In code 3 (.dup) 1 4 := ⟨at_3, rfl⟩
theorem n0_4 : In code 4 (.iconst 0) 1 5 := ⟨at_4, rfl⟩
theorem n0_5 : In code 5 (.iload_n 0) 1 6 := ⟨at_5, rfl⟩
theorem n0_6 : In code 6 (.i2b) 1 7 := ⟨at_6, rfl⟩
theorem n0_7 : In code 7 (.bastore) 1 8 := ⟨at_7, rfl⟩
theorem n0_8 : In code 8 (.dup) 1 9 := ⟨at_8, rfl⟩
theorem n0_9 : In code 9 (.iconst 1) 1 10 := ⟨at_9, rfl⟩
theorem n0_10 : In code 10 (.iload_n 1) 1 11 := ⟨at_10, rfl⟩
theorem n0_11 : In code 11 (.i2b) 1 12 := ⟨at_11, rfl⟩
theorem n0_12 : In code 12 (.bastore) 1 13 := ⟨at_12, rfl⟩
theorem n0_13 : In code 13 (.dup) 1 14 := ⟨at_13, rfl⟩
theorem n0_14 : In code 14 (.iconst 2) 1 15 := ⟨at_14, rfl⟩
theorem n0_15 : In code 15 (.iload_n 2) 1 16 := ⟨at_15, rfl⟩
theorem n0_16 : In code 16 (.i2b) 1 17 := ⟨at_16, rfl⟩
theorem n0_17 : In code 17 (.bastore) 1 18 := ⟨at_17, rfl⟩
theorem n0_18 : In code 18 (.dup) 1 19 := ⟨at_18, rfl⟩
theorem n0_19 : In code 19 (.iconst 3) 1 20 := ⟨at_19, rfl⟩
theorem n0_20 : In code 20 (.iload_n 3) 1 21 := ⟨at_20, rfl⟩
theorem n0_21 : In code 21 (.i2b) 1 22 := ⟨at_21, rfl⟩
theorem n0_22 : In code 22 (.bastore) 1 23 := ⟨at_22, rfl⟩
theorem n0_23 : In code 23 (.astore 6) 2 25 := ⟨at_23, rfl⟩
theorem n0_25 : In code 25 (.iload 4) 2 27 := ⟨at_25, rfl⟩
theorem n0_27 : In code 27 (.ldc 7) 2 29 := ⟨at_27, rfl⟩
theorem n0_29 : In code 29 (.iand) 1 30 := ⟨at_29, rfl⟩
theorem n0_30 : In code 30 (.iconst 5) 1 31 := ⟨at_30, rfl⟩
theorem n0_31 : In code 31 (.irem) 1 32 := ⟨at_31, rfl⟩
theorem n0_32 : In code 32 (.istore 7) 2 34 := ⟨at_32, rfl⟩
theorem n0_34 : In code 34 (.iload 7) 2 36 := ⟨at_34, rfl⟩
theorem n0_36 : In code 36 (.iload 5) 2 38 := ⟨at_36, rfl⟩
theorem n0_38 : In code 38 (.ldc 7) 2 40 := ⟨at_38, rfl⟩
theorem n0_40 : In code 40 (.iand) 1 41 := ⟨at_40, rfl⟩
theorem n0_41 : In code 41 (.iconst 5) 1 42 := ⟨at_41, rfl⟩
theorem n0_42 : In code 42 (.iload 7) 2 44 := ⟨at_42, rfl⟩
theorem n0_44 : In code 44 (.isub) 1 45 := ⟨at_44, rfl⟩
theorem n0_45 : In code 45 (.irem) 1 46 := ⟨at_45, rfl⟩
theorem n0_46 : In code 46 (.iadd) 1 47 := ⟨at_46, rfl⟩
theorem n0_47 : In code 47 (.istore 8) 2 49 := ⟨at_47, rfl⟩
theorem n0_49 : In code 49 (.iconst 0) 1 50 := ⟨at_49, rfl⟩
theorem n0_50 : In code 50 (.iload 7) 2 52 := ⟨at_50, rfl⟩
theorem n0_52 : In code 52 (.iload 8) 2 54 := ⟨at_52, rfl⟩
theorem n0_54 : In code 54 (.iload_n 0) 1 55 := ⟨at_54, rfl⟩
theorem n0_55 : In code 55 (.invokestatic 8) 3 58 := ⟨at_55, rfl⟩
theorem pd_4716 : parseMethodDescriptor "(IIII)Z" = some ⟨[.int, .int, .int, .int], some .boolean⟩ := by decide +kernel
theorem n0_58 : Jm code 58 (.ifCond .ne 43) 43 61 101 := ⟨at_58, rfl, by decide, by decide⟩
theorem n0_101 : In code 101 (.iconst 0) 1 102 := ⟨at_101, rfl⟩
theorem n0_102 : In code 102 (.istore 9) 2 104 := ⟨at_102, rfl⟩
theorem n0_104 : In code 104 (.aload 6) 2 106 := ⟨at_104, rfl⟩
theorem n0_106 : In code 106 (.iload 7) 2 108 := ⟨at_106, rfl⟩
theorem n0_108 : In code 108 (.iload 8) 2 110 := ⟨at_108, rfl⟩
theorem n0_110 : In code 110 (.invokestatic 14) 3 113 := ⟨at_110, rfl⟩
theorem pd_4797 : parseMethodDescriptor "([BII)Z" = some ⟨[(.array .byte), .int, .int], some .boolean⟩ := by decide +kernel
theorem n0_113 : In code 113 (.iload 9) 2 115 := ⟨at_113, rfl⟩
theorem n0_115 : Jm code 115 (.if_icmp .ne 7) 7 118 122 := ⟨at_115, rfl, by decide, by decide⟩
theorem n0_118 : In code 118 (.iconst 1) 1 119 := ⟨at_118, rfl⟩
theorem n0_119 : Jm code 119 (.goto 4) 4 122 123 := ⟨at_119, rfl, by decide, by decide⟩
theorem n0_123 : In code 123 (.ireturn) 1 124 := ⟨at_123, rfl⟩
theorem n0_61 : In code 61 (.iconst 1) 1 62 := ⟨at_61, rfl⟩
theorem n0_62 : In code 62 (.iload 7) 2 64 := ⟨at_62, rfl⟩
theorem n0_64 : In code 64 (.iload 8) 2 66 := ⟨at_64, rfl⟩
theorem n0_66 : In code 66 (.iload_n 1) 1 67 := ⟨at_66, rfl⟩
theorem n0_67 : In code 67 (.invokestatic 8) 3 70 := ⟨at_67, rfl⟩
theorem n0_70 : Jm code 70 (.ifCond .ne 31) 31 73 101 := ⟨at_70, rfl, by decide, by decide⟩
theorem n0_73 : In code 73 (.iconst 2) 1 74 := ⟨at_73, rfl⟩
theorem n0_74 : In code 74 (.iload 7) 2 76 := ⟨at_74, rfl⟩
theorem n0_76 : In code 76 (.iload 8) 2 78 := ⟨at_76, rfl⟩
theorem n0_78 : In code 78 (.iload_n 2) 1 79 := ⟨at_78, rfl⟩
theorem n0_79 : In code 79 (.invokestatic 8) 3 82 := ⟨at_79, rfl⟩
theorem n0_82 : Jm code 82 (.ifCond .ne 19) 19 85 101 := ⟨at_82, rfl, by decide, by decide⟩
theorem n0_85 : In code 85 (.iconst 3) 1 86 := ⟨at_85, rfl⟩
theorem n0_86 : In code 86 (.iload 7) 2 88 := ⟨at_86, rfl⟩
theorem n0_88 : In code 88 (.iload 8) 2 90 := ⟨at_88, rfl⟩
theorem n0_90 : In code 90 (.iload_n 3) 1 91 := ⟨at_90, rfl⟩
theorem n0_91 : In code 91 (.invokestatic 8) 3 94 := ⟨at_91, rfl⟩
theorem n0_94 : Jm code 94 (.ifCond .ne 7) 7 97 101 := ⟨at_94, rfl, by decide, by decide⟩
theorem n0_97 : In code 97 (.iconst 1) 1 98 := ⟨at_97, rfl⟩
theorem n0_98 : Jm code 98 (.goto 4) 4 101 102 := ⟨at_98, rfl, by decide, by decide⟩
theorem pn_0 : plainFor (⟨"com/example/tagwright/tagwright/Utf8IsAsciiPinLaw", "law", "(IIIIII)Z"⟩ : MethodName) = true := plainFor_of_name (by first | (simp [plainName, overriddenIn]; done) | decide +kernel)
theorem own_eqI {t : Term} {k : Int32} {args : Array Value} {s : State} (h : (Cond.eq t (.int k)).value args s none s [] = some true) : t.eval args s none [] s = some (.int k) := by
  obtain ⟨x, y, h1, h2, h3, -⟩ := cmp_v (Or.inl h)
  cases (Option.some.inj h2 : (Value.int k) = y)
  cases x <;> first | (have := gotT (Cond.eq_ints h1 h2) h; rw [h1, this]; done) | (simp [Kin, Value.isRef] at h3; done)
theorem own_eqL {t : Term} {k : Int64} {args : Array Value} {s : State} (h : (Cond.eq t (.long k)).value args s none s [] = some true) : t.eval args s none [] s = some (.long k) := by
  obtain ⟨x, y, h1, h2, h3, -⟩ := cmp_v (Or.inl h)
  cases (Option.some.inj h2 : (Value.long k) = y)
  cases x <;> first | (have := gotT (eq_L h1 h2) h; rw [h1, this]; done) | (simp [Kin, Value.isRef] at h3; done)
theorem own_eqR {a b : Term} {y : Addr} {args : Array Value} {s : State} (h : (Cond.eq a b).value args s none s [] = some true) (hb : b.eval args s none [] s = some (.ref y)) : a.eval args s none [] s = some (.ref y) := by
  obtain ⟨x, y', h1, h2, h3, h4⟩ := cmp_v (Or.inl h)
  cases h2.symm.trans hb
  have hx : x.isRef = true := h4.2
  have := gotT (eq_R h1 h2 hx rfl) h
  rw [h1, this]
theorem own_nar1 : nar .boolean 1 = 1 := rfl
theorem own_nar0 : nar .boolean 0 = 0 := rfl
def own_bad (i f t x : Int32) : Int32 := if i < f then 0 else if i < t then (if x &&& 128 = 0 then 0 else 1) else 0
def own_asc (y0 y1 y2 y3 f t : Int32) : Int32 := if (¬ (0 : Int32) < f ∧ (0 : Int32) < t ∧ y0 < 0) ∨ (¬ (1 : Int32) < f ∧ (1 : Int32) < t ∧ y1 < 0) ∨ (¬ (2 : Int32) < f ∧ (2 : Int32) < t ∧ y2 < 0) ∨ (¬ (3 : Int32) < f ∧ (3 : Int32) < t ∧ y3 < 0) then 0 else 1
theorem own_up {i t : Int32} (j : Int32) (h : ¬ i < t) (hij : ¬ j < i) : ¬ j < t := by
  rw [Int32.lt_iff_toInt_lt] at *; omega
theorem own_five (x : Int32) : (x &&& 2147483647) % 5 = 0 ∨ (x &&& 2147483647) % 5 = 1 ∨ (x &&& 2147483647) % 5 = 2 ∨ (x &&& 2147483647) % 5 = 3 ∨ (x &&& 2147483647) % 5 = 4 := by
  have h1 := c_mask x 2147483647 31 (by decide) (by decide)
  have h2 := (c_irem (x &&& 2147483647) 5 5 (by decide)).1 (by rw [h1]; omega)
  have e : ∀ k : Int32, (x &&& 2147483647) % 5 = k ↔ ((x &&& 2147483647) % 5).toInt = k.toInt := fun k => Int32.toInt_inj.symm
  rw [e, e, e, e, e, h2]
  have k0 : (0 : Int32).toInt = 0 := by decide
  have k1 : (1 : Int32).toInt = 1 := by decide
  have k2 : (2 : Int32).toInt = 2 := by decide
  have k3 : (3 : Int32).toInt = 3 := by decide
  have k4 : (4 : Int32).toInt = 4 := by decide
  omega
theorem own_nz (x : Int32) : (5 : Int32) - (x &&& 2147483647) % 5 ≠ 0 := by
  rcases own_five x with h | h | h | h | h <;> rw [h] <;> decide
theorem own_t (x z : Int32) : ¬ (4 : Int32) < (x &&& 2147483647) % 5 + (z &&& 2147483647) % ((5 : Int32) - (x &&& 2147483647) % 5) := by
  have h1 := c_mask z 2147483647 31 (by decide) (by decide)
  have key : ∀ (k d : Int32) (i : Int), k.toInt = 5 - i → d.toInt = i → 0 < i → i ≤ 5 → ¬ (4 : Int32) < k + (z &&& 2147483647) % d := fun k d i e1 e2 q1 q2 => by
    have h2 := (c_irem (z &&& 2147483647) d i e2).1 (by rw [h1]; omega)
    have h3 := c_iadd k ((z &&& 2147483647) % d)
    have h4 := rng32 (k + (z &&& 2147483647) % d)
    have h5 : (z &&& 2147483647).toInt % i < i := Int.emod_lt_of_pos _ q1
    have h6 : 0 ≤ (z &&& 2147483647).toInt % i := Int.emod_nonneg _ (by omega)
    have k4 : (4 : Int32).toInt = 4 := by decide
    rw [Int32.lt_iff_toInt_lt]; omega
  rcases own_five x with h | h | h | h | h <;> rw [h]
  · exact key 0 _ 5 (by decide) (by decide) (by decide) (by decide)
  · exact key 1 _ 4 (by decide) (by decide) (by decide) (by decide)
  · exact key 2 _ 3 (by decide) (by decide) (by decide) (by decide)
  · exact key 3 _ 2 (by decide) (by decide) (by decide) (by decide)
  · exact key 4 _ 1 (by decide) (by decide) (by decide) (by decide)
def own_nb (x : Int32) : Int32 := nar .byte x.toInt8.toInt32
theorem own_neg (x : Int32) : own_nb x < 0 ↔ ¬ x &&& 128 = 0 := by
  have e1 : own_nb x = x.toInt8.toInt32 := by show x.toInt8.toInt32.toInt8.toInt32 = _; simp
  have h1 := c_i2b x
  have h2 := c_mask x 255 8 (by decide) (by decide)
  have h3 : x &&& 128 = (x &&& 255) &&& 128 := by rw [Int32.and_assoc]; rfl
  have key : ∀ k : Fin 256, ((Int32.ofNat k.val) &&& 128 = 0) ↔ k.val < 128 := by decide +kernel
  have hr := rng32 x
  have h4 : x &&& 255 = Int32.ofNat (x &&& 255).toInt.toNat := by
    apply Int32.toInt_inj.mp
    rw [Int32.toInt_ofNat_of_lt (by omega)]; omega
  have h5 := key ⟨(x &&& 255).toInt.toNat, by omega⟩
  rw [h3, h4, h5, e1, Int32.lt_iff_toInt_lt]
  have k0 : (0 : Int32).toInt = 0 := by decide
  show _ ↔ ¬ (x &&& 255).toInt.toNat < 128
  omega
theorem own_b0 {i f t x : Int32} : own_bad i f t x = 0 ↔ ¬ (¬ i < f ∧ i < t ∧ own_nb x < 0) := by
  rw [own_neg]; unfold own_bad; repeat' split <;> simp_all
theorem own_r1 {x0 x1 x2 x3 f t : Int32} (h0 : own_bad 0 f t x0 = 0) (h1 : own_bad 1 f t x1 = 0) (h2 : own_bad 2 f t x2 = 0) (h3 : own_bad 3 f t x3 = 0) : own_asc (own_nb x0) (own_nb x1) (own_nb x2) (own_nb x3) f t = 1 := by
  rw [own_b0] at *; unfold own_asc; rw [if_neg]; rintro (h | h | h | h) <;> contradiction
theorem own_r0 {x0 x1 x2 x3 f t : Int32} (h : ¬ own_bad 0 f t x0 = 0 ∨ ¬ own_bad 1 f t x1 = 0 ∨ ¬ own_bad 2 f t x2 = 0 ∨ ¬ own_bad 3 f t x3 = 0) : own_asc (own_nb x0) (own_nb x1) (own_nb x2) (own_nb x3) f t = 0 := by
  simp only [own_b0, Decidable.not_not] at h; unfold own_asc; rw [if_pos h]

set_option maxRecDepth 65536 in
set_option maxHeartbeats 4000000 in
theorem ef_rm1 (m : MethodId) (x0 : Int32) (x1 : Int32) (x2 : Int32) (x3 : Int32) : entryFrame m #[(.int x0), (.int x1), (.int x2), (.int x3)] 4 = mkF m 0 #[.val (.int x0), .val (.int x1), .val (.int x2), .val (.int x3)] [] := by first | (simp [entryFrame, mkF, argsToLocals, Value.category]; done) | rfl
set_option maxRecDepth 65536 in
set_option maxHeartbeats 40000000 in
theorem rm1 (l : Launch) (Z : State) (a0 : Array Value) (hw : ∀ d ∈ tables_1, d.before a0 Z = true) (i1 f1 t1 x1 : Int32) (h0 : Heap) : Con l Z (⟨"com/example/tagwright/tagwright/Utf8IsAsciiPinLaw", "bad", "(IIII)Z"⟩ : MethodName) method_3_code 4 (some .boolean) ({ frames := 0, cells := 0, slots := 0, locals := 0 } : Room) #[(.int i1), (.int f1), (.int t1), (.int x1)] h0 (fun v h L => v = some (.int (own_bad i1 f1 t1 x1)) ∧ h = h0 ∧ L = []) := by
  refine w_body (Ls := #[.val (.int i1), .val (.int f1), .val (.int t1), .val (.int x1)]) pn_1 (fun m => ef_rm1 m i1 f1 t1 x1) ?_
  intro p e s m below meth c T0 X0 hx hby hml hown hnm hret hlk hZ e0
  refine w_iloadN X0 hx hby n1_0 rfl ?_
  refine w_iloadN X0 hx hby n1_1 rfl ?_
  refine f_icmp_gt X0 hx hby n1_2 (fun q2 => ?_) (fun q2 => ?_)
  · refine w_iconst X0 hx hby (0 : Int32) n1_22 rfl ?_
    refine w_retN X0 hx hby e0 hlk hret (by simp) n1_23 (by decide) (by decide) ?_
    exact ⟨congrArg (fun q => some (Value.int q)) (by first | (unfold own_bad; rw [if_pos q2] <;> rfl) | simp [own_bad, own_nar1, own_nar0, q2]), rfl, rfl⟩
  · refine w_iloadN X0 hx hby n1_5 rfl ?_
    refine w_iloadN X0 hx hby n1_6 rfl ?_
    refine f_icmp_ge X0 hx hby n1_7 (fun q7 => ?_) (fun q7 => ?_)
    · refine w_iconst X0 hx hby (0 : Int32) n1_22 rfl ?_
      refine w_retN X0 hx hby e0 hlk hret (by simp) n1_23 (by decide) (by decide) ?_
      exact ⟨congrArg (fun q => some (Value.int q)) (by first | (unfold own_bad; rw [if_neg q2, if_neg q7] <;> rfl) | simp [own_bad, own_nar1, own_nar0, q2, q7]), rfl, rfl⟩
    · refine w_iloadN X0 hx hby n1_10 rfl ?_
      refine w_sipush X0 hx hby (128 : Int32) n1_11 rfl ?_
      refine w_iand X0 hx hby n1_14 ?_
      refine f_if_eq X0 hx hby n1_15 (fun q15 => ?_) (fun q15 => ?_)
      · refine w_iconst X0 hx hby (0 : Int32) n1_22 rfl ?_
        refine w_retN X0 hx hby e0 hlk hret (by simp) n1_23 (by decide) (by decide) ?_
        exact ⟨congrArg (fun q => some (Value.int q)) (by first | (unfold own_bad; rw [if_neg q2, if_pos q7, if_pos q15] <;> rfl) | simp [own_bad, own_nar1, own_nar0, q2, q7, q15]), rfl, rfl⟩
      · refine w_iconst X0 hx hby (1 : Int32) n1_18 rfl ?_
        refine w_goto X0 hx hby n1_19 ?_
        refine w_retN X0 hx hby e0 hlk hret (by simp) n1_23 (by decide) (by decide) ?_
        exact ⟨congrArg (fun q => some (Value.int q)) (by first | (unfold own_bad; rw [if_neg q2, if_pos q7, if_neg q15] <;> rfl) | simp [own_bad, own_nar1, own_nar0, q2, q7, q15]), rfl, rfl⟩
set_option maxRecDepth 65536 in
set_option maxHeartbeats 40000000 in
theorem turn (l : Launch) (Z : State) (a0 : Array Value) (hw : ∀ d ∈ tables_1, d.before a0 Z = true) (a1 : Addr) (cl : Cell) (f1 t1 i1 y1 r : Int32) (h0 : Heap) {p : Program} {e : Env} {s : State} {m : MethodId} {args : Array Value} {below : List Frame} {meth : Method} {c : Code} {T0 : State} (X0 : Stand p l e ({ frames := 0, cells := 0, slots := 0, locals := 0 } : Room) s m args below meth c T0 [] 0 0) (hx : p.tables.exec = Jvm.exec) (hby : c.code = prog_63_method_3_code) (hml : c.maxLocals = 4) (hown : s.vm.findClass "com/example/tagwright/tagwright/Utf8" = some m.cls) (hret : meth.sig.returnType = (some .boolean)) (hlk : meth.locks = false) (hZ : Z.Warmed39 s.vm) (e0 : T0.heap = h0) (Ar : Arr Z h0 a1 cl .byte) (hin : i1 < t1 → ¬ (i1 < 0 ∨ cl.slots.size ≤ i1.toNatClampNeg)) (hat : i1 < t1 → cl.slots[i1.toNatClampNeg]? = some (.int y1)) (r1 : ¬ i1 < t1 → r = 1) (r0 : i1 < t1 → y1 < 0 → r = 0) (IH : i1 < t1 → ¬ y1 < 0 → Wp p e below s ({ frames := 0, cells := 0, slots := 0, locals := 0 } : Room).cells ({ frames := 0, cells := 0, slots := 0, locals := 0 } : Room).slots (fun v h L => v = some (.int r) ∧ h = h0 ∧ L = []) T0 (mkF m 2 #[.val (.ref a1), .val (.int f1), .val (.int t1), .val (.int (i1 + (1 : Int32)))] [])) : Wp p e below s ({ frames := 0, cells := 0, slots := 0, locals := 0 } : Room).cells ({ frames := 0, cells := 0, slots := 0, locals := 0 } : Room).slots (fun v h L => v = some (.int r) ∧ h = h0 ∧ L = []) T0 (mkF m 2 #[.val (.ref a1), .val (.int f1), .val (.int t1), .val (.int i1)] []) := by
  refine w_iloadN X0 hx hby n2_2 rfl ?_
  refine w_iloadN X0 hx hby n2_3 rfl ?_
  refine f_icmp_ge X0 hx hby n2_4 (fun q4 => ?_) (fun q4 => ?_)
  · refine w_iconst X0 hx hby (1 : Int32) n2_21 rfl ?_
    refine w_retN X0 hx hby e0 hlk hret (by simp) n2_22 (by decide) (by decide) ?_
    exact ⟨congrArg (fun q => some (Value.int q)) ((r1 q4).symm), rfl, rfl⟩
  · refine w_aloadN X0 hx hby n2_7 rfl rfl ?_
    refine w_iloadN X0 hx hby n2_8 rfl ?_
    refine w_baload X0 hx hby hZ e0 Ar (hin q4) (hat q4) n2_9 ?_
    refine f_if_ge X0 hx hby n2_10 (fun q10 => ?_) (fun q10 => ?_)
    · refine w_iinc X0 hx hby (1 : Int32) #[.val (.ref a1), .val (.int f1), .val (.int t1), .val (.int (i1 + (1 : Int32)))] n2_15 rfl rfl rfl ?_
      refine w_goto X0 hx hby n2_18 ?_
      exact IH q4 q10
    · refine w_iconst X0 hx hby (0 : Int32) n2_13 rfl ?_
      refine w_retN X0 hx hby e0 hlk hret (by simp) n2_14 (by decide) (by decide) ?_
      exact ⟨congrArg (fun q => some (Value.int q)) ((r0 q4 q10).symm), rfl, rfl⟩
set_option maxRecDepth 65536 in
set_option maxHeartbeats 4000000 in
theorem ef_rm2 (m : MethodId) (x0 : Addr) (x1 : Int32) (x2 : Int32) : entryFrame m #[(.ref x0), (.int x1), (.int x2)] 4 = mkF m 0 #[.val (.ref x0), .val (.int x1), .val (.int x2), .unset] [] := by first | (simp [entryFrame, mkF, argsToLocals, Value.category]; done) | rfl
set_option maxRecDepth 65536 in
set_option maxHeartbeats 40000000 in
theorem rm2 (l : Launch) (Z : State) (a0 : Array Value) (hw : ∀ d ∈ tables_1, d.before a0 Z = true) (a1 : Addr) (kc : ClassId) (f1 t1 y0 y1 y2 y3 : Int32) (h0 : Heap) (V1 : Arv Z h0 a1 kc .byte (4 : Int32) [(.int y0), (.int y1), (.int y2), (.int y3)] (.int (0 : Int32))) (hf : f1 = 0 ∨ f1 = 1 ∨ f1 = 2 ∨ f1 = 3 ∨ f1 = 4) (ht : ¬ (4 : Int32) < t1) : Con l Z (⟨"com/example/tagwright/tagwright/Utf8", "isAscii", "([BII)Z"⟩ : MethodName) prog_63_method_3_code 4 (some .boolean) ({ frames := 0, cells := 0, slots := 0, locals := 0 } : Room) #[(.ref a1), (.int f1), (.int t1)] h0 (fun v h L => v = some (.int (own_asc y0 y1 y2 y3 f1 t1)) ∧ h = h0 ∧ L = []) := by
  refine w_body (Ls := #[.val (.ref a1), .val (.int f1), .val (.int t1), .unset]) pn_2 (fun m => ef_rm2 m a1 f1 t1) ?_
  intro p e s m below meth c T0 X0 hx hby hml hown hnm hret hlk hZ e0
  refine w_iloadN X0 hx hby n2_0 rfl ?_
  refine w_istoreN X0 hx hby #[.val (.ref a1), .val (.int f1), .val (.int t1), .val (.int f1)] n2_1 rfl ?_
  obtain ⟨cl, Ar, qk, Sz, Nn, Ha, Gf⟩ := id V1
  rcases hf with rfl | rfl | rfl | rfl | rfl
  · refine turn l Z a0 hw a1 cl (0 : Int32) t1 (0 : Int32) y0 (own_asc y0 y1 y2 y3 (0 : Int32) t1) h0 X0 hx hby hml hown hret hlk hZ e0 Ar (fun _ => inb_of Sz ⟨by decide, by decide⟩) (fun _ => Ha.at (inb_of Sz ⟨by decide, by decide⟩) rfl) (fun q => ?_) (fun q u => ?_) (fun q0 n0 => ?_)
    · simp [own_asc, own_up (0 : Int32) q (by decide), own_up (1 : Int32) q (by decide), own_up (2 : Int32) q (by decide), own_up (3 : Int32) q (by decide)]
    · simp [own_asc, q, u]
    · rw [show ((0 : Int32) + (1 : Int32)) = (1 : Int32) from by decide]
      refine turn l Z a0 hw a1 cl (0 : Int32) t1 (1 : Int32) y1 (own_asc y0 y1 y2 y3 (0 : Int32) t1) h0 X0 hx hby hml hown hret hlk hZ e0 Ar (fun _ => inb_of Sz ⟨by decide, by decide⟩) (fun _ => Ha.at (inb_of Sz ⟨by decide, by decide⟩) rfl) (fun q => ?_) (fun q u => ?_) (fun q1 n1 => ?_)
      · simp [own_asc, n0, own_up (1 : Int32) q (by decide), own_up (2 : Int32) q (by decide), own_up (3 : Int32) q (by decide)]
      · simp [own_asc, q, u]
      · rw [show ((1 : Int32) + (1 : Int32)) = (2 : Int32) from by decide]
        refine turn l Z a0 hw a1 cl (0 : Int32) t1 (2 : Int32) y2 (own_asc y0 y1 y2 y3 (0 : Int32) t1) h0 X0 hx hby hml hown hret hlk hZ e0 Ar (fun _ => inb_of Sz ⟨by decide, by decide⟩) (fun _ => Ha.at (inb_of Sz ⟨by decide, by decide⟩) rfl) (fun q => ?_) (fun q u => ?_) (fun q2 n2 => ?_)
        · simp [own_asc, n0, n1, own_up (2 : Int32) q (by decide), own_up (3 : Int32) q (by decide)]
        · simp [own_asc, q, u]
        · rw [show ((2 : Int32) + (1 : Int32)) = (3 : Int32) from by decide]
          refine turn l Z a0 hw a1 cl (0 : Int32) t1 (3 : Int32) y3 (own_asc y0 y1 y2 y3 (0 : Int32) t1) h0 X0 hx hby hml hown hret hlk hZ e0 Ar (fun _ => inb_of Sz ⟨by decide, by decide⟩) (fun _ => Ha.at (inb_of Sz ⟨by decide, by decide⟩) rfl) (fun q => ?_) (fun q u => ?_) (fun q3 n3 => ?_)
          · simp [own_asc, n0, n1, n2, own_up (3 : Int32) q (by decide)]
          · simp [own_asc, q, u]
          · rw [show ((3 : Int32) + (1 : Int32)) = (4 : Int32) from by decide]
            refine turn l Z a0 hw a1 cl (0 : Int32) t1 (4 : Int32) (0 : Int32) (own_asc y0 y1 y2 y3 (0 : Int32) t1) h0 X0 hx hby hml hown hret hlk hZ e0 Ar (fun q => absurd q ht) (fun q => absurd q ht) (fun q => ?_) (fun q => absurd q ht) (fun q => absurd q ht)
            simp [own_asc, n0, n1, n2, n3]
  · refine turn l Z a0 hw a1 cl (1 : Int32) t1 (1 : Int32) y1 (own_asc y0 y1 y2 y3 (1 : Int32) t1) h0 X0 hx hby hml hown hret hlk hZ e0 Ar (fun _ => inb_of Sz ⟨by decide, by decide⟩) (fun _ => Ha.at (inb_of Sz ⟨by decide, by decide⟩) rfl) (fun q => ?_) (fun q u => ?_) (fun q1 n1 => ?_)
    · simp [own_asc, own_up (1 : Int32) q (by decide), own_up (2 : Int32) q (by decide), own_up (3 : Int32) q (by decide)]
    · simp [own_asc, q, u]
    · rw [show ((1 : Int32) + (1 : Int32)) = (2 : Int32) from by decide]
      refine turn l Z a0 hw a1 cl (1 : Int32) t1 (2 : Int32) y2 (own_asc y0 y1 y2 y3 (1 : Int32) t1) h0 X0 hx hby hml hown hret hlk hZ e0 Ar (fun _ => inb_of Sz ⟨by decide, by decide⟩) (fun _ => Ha.at (inb_of Sz ⟨by decide, by decide⟩) rfl) (fun q => ?_) (fun q u => ?_) (fun q2 n2 => ?_)
      · simp [own_asc, n1, own_up (2 : Int32) q (by decide), own_up (3 : Int32) q (by decide)]
      · simp [own_asc, q, u]
      · rw [show ((2 : Int32) + (1 : Int32)) = (3 : Int32) from by decide]
        refine turn l Z a0 hw a1 cl (1 : Int32) t1 (3 : Int32) y3 (own_asc y0 y1 y2 y3 (1 : Int32) t1) h0 X0 hx hby hml hown hret hlk hZ e0 Ar (fun _ => inb_of Sz ⟨by decide, by decide⟩) (fun _ => Ha.at (inb_of Sz ⟨by decide, by decide⟩) rfl) (fun q => ?_) (fun q u => ?_) (fun q3 n3 => ?_)
        · simp [own_asc, n1, n2, own_up (3 : Int32) q (by decide)]
        · simp [own_asc, q, u]
        · rw [show ((3 : Int32) + (1 : Int32)) = (4 : Int32) from by decide]
          refine turn l Z a0 hw a1 cl (1 : Int32) t1 (4 : Int32) (0 : Int32) (own_asc y0 y1 y2 y3 (1 : Int32) t1) h0 X0 hx hby hml hown hret hlk hZ e0 Ar (fun q => absurd q ht) (fun q => absurd q ht) (fun q => ?_) (fun q => absurd q ht) (fun q => absurd q ht)
          simp [own_asc, n1, n2, n3]
  · refine turn l Z a0 hw a1 cl (2 : Int32) t1 (2 : Int32) y2 (own_asc y0 y1 y2 y3 (2 : Int32) t1) h0 X0 hx hby hml hown hret hlk hZ e0 Ar (fun _ => inb_of Sz ⟨by decide, by decide⟩) (fun _ => Ha.at (inb_of Sz ⟨by decide, by decide⟩) rfl) (fun q => ?_) (fun q u => ?_) (fun q2 n2 => ?_)
    · simp [own_asc, own_up (2 : Int32) q (by decide), own_up (3 : Int32) q (by decide)]
    · simp [own_asc, q, u]
    · rw [show ((2 : Int32) + (1 : Int32)) = (3 : Int32) from by decide]
      refine turn l Z a0 hw a1 cl (2 : Int32) t1 (3 : Int32) y3 (own_asc y0 y1 y2 y3 (2 : Int32) t1) h0 X0 hx hby hml hown hret hlk hZ e0 Ar (fun _ => inb_of Sz ⟨by decide, by decide⟩) (fun _ => Ha.at (inb_of Sz ⟨by decide, by decide⟩) rfl) (fun q => ?_) (fun q u => ?_) (fun q3 n3 => ?_)
      · simp [own_asc, n2, own_up (3 : Int32) q (by decide)]
      · simp [own_asc, q, u]
      · rw [show ((3 : Int32) + (1 : Int32)) = (4 : Int32) from by decide]
        refine turn l Z a0 hw a1 cl (2 : Int32) t1 (4 : Int32) (0 : Int32) (own_asc y0 y1 y2 y3 (2 : Int32) t1) h0 X0 hx hby hml hown hret hlk hZ e0 Ar (fun q => absurd q ht) (fun q => absurd q ht) (fun q => ?_) (fun q => absurd q ht) (fun q => absurd q ht)
        simp [own_asc, n2, n3]
  · refine turn l Z a0 hw a1 cl (3 : Int32) t1 (3 : Int32) y3 (own_asc y0 y1 y2 y3 (3 : Int32) t1) h0 X0 hx hby hml hown hret hlk hZ e0 Ar (fun _ => inb_of Sz ⟨by decide, by decide⟩) (fun _ => Ha.at (inb_of Sz ⟨by decide, by decide⟩) rfl) (fun q => ?_) (fun q u => ?_) (fun q3 n3 => ?_)
    · simp [own_asc, own_up (3 : Int32) q (by decide)]
    · simp [own_asc, q, u]
    · rw [show ((3 : Int32) + (1 : Int32)) = (4 : Int32) from by decide]
      refine turn l Z a0 hw a1 cl (3 : Int32) t1 (4 : Int32) (0 : Int32) (own_asc y0 y1 y2 y3 (3 : Int32) t1) h0 X0 hx hby hml hown hret hlk hZ e0 Ar (fun q => absurd q ht) (fun q => absurd q ht) (fun q => ?_) (fun q => absurd q ht) (fun q => absurd q ht)
      simp [own_asc, n3]
  · refine turn l Z a0 hw a1 cl (4 : Int32) t1 (4 : Int32) (0 : Int32) (own_asc y0 y1 y2 y3 (4 : Int32) t1) h0 X0 hx hby hml hown hret hlk hZ e0 Ar (fun q => absurd q ht) (fun q => absurd q ht) (fun q => ?_) (fun q => absurd q ht) (fun q => absurd q ht)
    simp [own_asc]
set_option maxRecDepth 65536 in
set_option maxHeartbeats 4000000 in
theorem ef_law0 (m : MethodId) (x0 : Int32) (x1 : Int32) (x2 : Int32) (x3 : Int32) (x4 : Int32) (x5 : Int32) : entryFrame m #[(.int x0), (.int x1), (.int x2), (.int x3), (.int x4), (.int x5)] maxLocals = mkF m 0 #[.val (.int x0), .val (.int x1), .val (.int x2), .val (.int x3), .val (.int x4), .val (.int x5), .unset, .unset, .unset, .unset] [] := by first | (simp [entryFrame, mkF, argsToLocals, Value.category, maxLocals]; done) | rfl
set_option maxRecDepth 65536 in
set_option maxHeartbeats 40000000 in
theorem law0 (l : Launch) (Z : State) (a0 : Array Value) (hw : ∀ d ∈ tables_1, d.before a0 Z = true) (x0 x1 x2 x3 x4 x5 : Int32) (h0 : Heap) : Con l Z x code maxLocals ret room_1 #[(.int x0), (.int x1), (.int x2), (.int x3), (.int x4), (.int x5)] h0 (fun v h L => v = some (.int 1) ∧ Fr h0.size L) := by
  refine w_body (Ls := #[.val (.int x0), .val (.int x1), .val (.int x2), .val (.int x3), .val (.int x4), .val (.int x5), .unset, .unset, .unset, .unset]) pn_0 (fun m => ef_law0 m x0 x1 x2 x3 x4 x5) ?_
  intro p e s m below meth c T0 X0 hx hby hml hown hnm hret hlk hZ e0
  have hml : c.maxLocals = 10 := hml
  refine w_iconst X0 hx hby (4 : Int32) n0_0 rfl ?_
  refine w_newP X0 hx hby hZ (aty := .byte) (hw _ t_0) e0 n0_1 (by decide) 4 (by decide) (by decide) (by decide) (by decide) fun T1 h1 b1 k1 g1 X1 e1 E1 A1 => ?_
  have old_b1 : h0.size ≤ b1 := Nat.le_trans (Nat.le_refl h0.size) (Nat.le_of_eq g1.symm)
  have z2 : h0.size ≤ h1.size := Nat.le_trans (Nat.le_refl h0.size) E1.1
  have V1 : Arv Z h1 b1 k1 .byte (4 : Int32) [(.int (0 : Int32)), (.int (0 : Int32)), (.int (0 : Int32)), (.int (0 : Int32))] (.int (0 : Int32)) := (Arv.new A1 (by decide)).pad (pad_rep [] (.int (0 : Int32)) 4)
  refine w_dup X1 hx hby n0_3 rfl ?_
  refine w_iconst X1 hx hby (0 : Int32) n0_4 rfl ?_
  refine w_iloadN X1 hx hby n0_5 rfl ?_
  refine w_i2b X1 hx hby n0_6 ?_
  obtain ⟨cl3, Ar3, qk3, Sz3, Nn3, Ha3, Gf3⟩ := id V1
  refine w_stB X1 hx hby hZ e1 Ar3 (j := (0 : Int32)) (inb_of Sz3 ⟨by decide, by decide⟩) n0_7 fun T3 h3 X3 e3 W3 => ?_
  have V3 : Arv Z h3 b1 k1 .byte (4 : Int32) [(.int (nar .byte (x0.toInt8.toInt32))), (.int (0 : Int32)), (.int (0 : Int32)), (.int (0 : Int32))] (.int (0 : Int32)) := Arv.set Ar3 qk3 Sz3 Nn3 Ha3 Gf3 (fits_nar_byte _) W3 0 rfl (Nat.le_of_ble_eq_true rfl)
  have N3 := Fr.snoc X3 (Fr.nil h0.size) old_b1
  have z4 : h0.size ≤ h3.size := Nat.le_trans z2 (Keep.of_wr W3).1
  refine w_dup X3 hx hby n0_8 rfl ?_
  refine w_iconst X3 hx hby (1 : Int32) n0_9 rfl ?_
  refine w_iloadN X3 hx hby n0_10 rfl ?_
  refine w_i2b X3 hx hby n0_11 ?_
  obtain ⟨cl5, Ar5, qk5, Sz5, Nn5, Ha5, Gf5⟩ := id V3
  refine w_stB X3 hx hby hZ e3 Ar5 (j := (1 : Int32)) (inb_of Sz5 ⟨by decide, by decide⟩) n0_12 fun T5 h5 X5 e5 W5 => ?_
  have V5 : Arv Z h5 b1 k1 .byte (4 : Int32) [(.int (nar .byte (x0.toInt8.toInt32))), (.int (nar .byte (x1.toInt8.toInt32))), (.int (0 : Int32)), (.int (0 : Int32))] (.int (0 : Int32)) := Arv.set Ar5 qk5 Sz5 Nn5 Ha5 Gf5 (fits_nar_byte _) W5 1 rfl (Nat.le_of_ble_eq_true rfl)
  have N5 := Fr.snoc X5 N3 old_b1
  have z6 : h0.size ≤ h5.size := Nat.le_trans z4 (Keep.of_wr W5).1
  refine w_dup X5 hx hby n0_13 rfl ?_
  refine w_iconst X5 hx hby (2 : Int32) n0_14 rfl ?_
  refine w_iloadN X5 hx hby n0_15 rfl ?_
  refine w_i2b X5 hx hby n0_16 ?_
  obtain ⟨cl7, Ar7, qk7, Sz7, Nn7, Ha7, Gf7⟩ := id V5
  refine w_stB X5 hx hby hZ e5 Ar7 (j := (2 : Int32)) (inb_of Sz7 ⟨by decide, by decide⟩) n0_17 fun T7 h7 X7 e7 W7 => ?_
  have V7 : Arv Z h7 b1 k1 .byte (4 : Int32) [(.int (nar .byte (x0.toInt8.toInt32))), (.int (nar .byte (x1.toInt8.toInt32))), (.int (nar .byte (x2.toInt8.toInt32))), (.int (0 : Int32))] (.int (0 : Int32)) := Arv.set Ar7 qk7 Sz7 Nn7 Ha7 Gf7 (fits_nar_byte _) W7 2 rfl (Nat.le_of_ble_eq_true rfl)
  have N7 := Fr.snoc X7 N5 old_b1
  have z8 : h0.size ≤ h7.size := Nat.le_trans z6 (Keep.of_wr W7).1
  refine w_dup X7 hx hby n0_18 rfl ?_
  refine w_iconst X7 hx hby (3 : Int32) n0_19 rfl ?_
  refine w_iloadN X7 hx hby n0_20 rfl ?_
  refine w_i2b X7 hx hby n0_21 ?_
  obtain ⟨cl9, Ar9, qk9, Sz9, Nn9, Ha9, Gf9⟩ := id V7
  refine w_stB X7 hx hby hZ e7 Ar9 (j := (3 : Int32)) (inb_of Sz9 ⟨by decide, by decide⟩) n0_22 fun T9 h9 X9 e9 W9 => ?_
  have V9 : Arv Z h9 b1 k1 .byte (4 : Int32) [(.int (nar .byte (x0.toInt8.toInt32))), (.int (nar .byte (x1.toInt8.toInt32))), (.int (nar .byte (x2.toInt8.toInt32))), (.int (nar .byte (x3.toInt8.toInt32)))] (.int (0 : Int32)) := Arv.set Ar9 qk9 Sz9 Nn9 Ha9 Gf9 (fits_nar_byte _) W9 3 rfl (Nat.le_of_ble_eq_true rfl)
  have N9 := Fr.snoc X9 N7 old_b1
  have z10 : h0.size ≤ h9.size := Nat.le_trans z8 (Keep.of_wr W9).1
  refine w_astore X9 hx hby #[.val (.int x0), .val (.int x1), .val (.int x2), .val (.int x3), .val (.int x4), .val (.int x5), .val (.ref b1), .unset, .unset, .unset] n0_23 rfl rfl ?_
  refine w_iload X9 hx hby n0_25 rfl ?_
  refine w_ldcI X9 hx hby hZ hown (hw _ t_1) n0_27 ?_
  refine w_iand X9 hx hby n0_29 ?_
  refine w_iconst X9 hx hby (5 : Int32) n0_30 rfl ?_
  refine w_irem X9 hx hby n0_31 (by decide) ?_
  refine w_istore X9 hx hby #[.val (.int x0), .val (.int x1), .val (.int x2), .val (.int x3), .val (.int x4), .val (.int x5), .val (.ref b1), .val (.int ((x4 &&& (2147483647 : Int32)) % (5 : Int32))), .unset, .unset] n0_32 rfl ?_
  refine w_iload X9 hx hby n0_34 rfl ?_
  refine w_iload X9 hx hby n0_36 rfl ?_
  refine w_ldcI X9 hx hby hZ hown (hw _ t_1) n0_38 ?_
  refine w_iand X9 hx hby n0_40 ?_
  refine w_iconst X9 hx hby (5 : Int32) n0_41 rfl ?_
  refine w_iload X9 hx hby n0_42 rfl ?_
  refine w_isub X9 hx hby n0_44 ?_
  refine w_irem X9 hx hby n0_45 (own_nz x4) ?_
  refine w_iadd X9 hx hby n0_46 ?_
  refine w_istore X9 hx hby #[.val (.int x0), .val (.int x1), .val (.int x2), .val (.int x3), .val (.int x4), .val (.int x5), .val (.ref b1), .val (.int ((x4 &&& (2147483647 : Int32)) % (5 : Int32))), .val (.int (((x4 &&& (2147483647 : Int32)) % (5 : Int32)) + ((x5 &&& (2147483647 : Int32)) % ((5 : Int32) - ((x4 &&& (2147483647 : Int32)) % (5 : Int32)))))), .unset] n0_47 rfl ?_
  refine w_iconst X9 hx hby (0 : Int32) n0_49 rfl ?_
  refine w_iload X9 hx hby n0_50 rfl ?_
  refine w_iload X9 hx hby n0_52 rfl ?_
  refine w_iloadN X9 hx hby n0_54 rfl ?_
  refine w_calledp (call_S X9 hx hby hZ hown (argsL := [(.int (0 : Int32)), (.int ((x4 &&& (2147483647 : Int32)) % (5 : Int32))), (.int (((x4 &&& (2147483647 : Int32)) % (5 : Int32)) + ((x5 &&& (2147483647 : Int32)) % ((5 : Int32) - ((x4 &&& (2147483647 : Int32)) % (5 : Int32)))))), (.int x0)]) (rest := []) (Wd := 0) (hw _ t_2) (hw _ t_3) (hw _ t_4) (hw _ t_5) (by decide) (rm1 l Z a0 hw (0 : Int32) ((x4 &&& (2147483647 : Int32)) % (5 : Int32)) (((x4 &&& (2147483647 : Int32)) % (5 : Int32)) + ((x5 &&& (2147483647 : Int32)) % ((5 : Int32) - ((x4 &&& (2147483647 : Int32)) % (5 : Int32))))) x0 h9) rfl n0_55 (by rw [hml]; rfl) (lenOf pd_4716 rfl) rfl (by decide) (by decide) (by decide) (by decide) e9) rfl rfl fun T11 X11 e11 => ?_
  refine f_if_ne X11 hx hby n0_58 (fun q58 => ?_) (fun q58 => ?_)
  · refine w_iconst X11 hx hby (0 : Int32) n0_101 rfl ?_
    refine w_istore X11 hx hby #[.val (.int x0), .val (.int x1), .val (.int x2), .val (.int x3), .val (.int x4), .val (.int x5), .val (.ref b1), .val (.int ((x4 &&& (2147483647 : Int32)) % (5 : Int32))), .val (.int (((x4 &&& (2147483647 : Int32)) % (5 : Int32)) + ((x5 &&& (2147483647 : Int32)) % ((5 : Int32) - ((x4 &&& (2147483647 : Int32)) % (5 : Int32)))))), .val (.int (0 : Int32))] n0_102 rfl ?_
    refine w_aload X11 hx hby n0_104 rfl rfl ?_
    refine w_iload X11 hx hby n0_106 rfl ?_
    refine w_iload X11 hx hby n0_108 rfl ?_
    refine w_calledp (call_S X11 hx hby hZ hown (argsL := [(.ref b1), (.int ((x4 &&& (2147483647 : Int32)) % (5 : Int32))), (.int (((x4 &&& (2147483647 : Int32)) % (5 : Int32)) + ((x5 &&& (2147483647 : Int32)) % ((5 : Int32) - ((x4 &&& (2147483647 : Int32)) % (5 : Int32))))))]) (rest := []) (Wd := 0) (hw _ t_6) (hw _ t_7) (hw _ t_8) (hw _ t_9) (by decide) (rm2 l Z a0 hw b1 k1 ((x4 &&& (2147483647 : Int32)) % (5 : Int32)) (((x4 &&& (2147483647 : Int32)) % (5 : Int32)) + ((x5 &&& (2147483647 : Int32)) % ((5 : Int32) - ((x4 &&& (2147483647 : Int32)) % (5 : Int32))))) (own_nb x0) (own_nb x1) (own_nb x2) (own_nb x3) h9 V9 (own_five x4) (own_t x4 x5)) rfl n0_110 (by rw [hml]; rfl) (lenOf pd_4797 rfl) rfl (by decide) (by decide) (by decide) (by decide) e11) rfl rfl fun T12 X12 e12 => ?_
    refine w_iload X12 hx hby n0_113 rfl ?_
    refine f_icmp_ne X12 hx hby n0_115 (fun q115 => by exact absurd (own_r0 (Or.inl q58)) q115) (fun q115 => ?_)
    refine w_iconst X12 hx hby (1 : Int32) n0_118 rfl ?_
    refine w_goto X12 hx hby n0_119 ?_
    refine w_retN X12 hx hby e12 hlk hret (by simp) n0_123 (by decide) (by decide) ?_
    exact ⟨rfl, N9⟩
  · refine w_iconst X11 hx hby (1 : Int32) n0_61 rfl ?_
    refine w_iload X11 hx hby n0_62 rfl ?_
    refine w_iload X11 hx hby n0_64 rfl ?_
    refine w_iloadN X11 hx hby n0_66 rfl ?_
    refine w_calledp (call_S X11 hx hby hZ hown (argsL := [(.int (1 : Int32)), (.int ((x4 &&& (2147483647 : Int32)) % (5 : Int32))), (.int (((x4 &&& (2147483647 : Int32)) % (5 : Int32)) + ((x5 &&& (2147483647 : Int32)) % ((5 : Int32) - ((x4 &&& (2147483647 : Int32)) % (5 : Int32)))))), (.int x1)]) (rest := []) (Wd := 0) (hw _ t_2) (hw _ t_3) (hw _ t_4) (hw _ t_5) (by decide) (rm1 l Z a0 hw (1 : Int32) ((x4 &&& (2147483647 : Int32)) % (5 : Int32)) (((x4 &&& (2147483647 : Int32)) % (5 : Int32)) + ((x5 &&& (2147483647 : Int32)) % ((5 : Int32) - ((x4 &&& (2147483647 : Int32)) % (5 : Int32))))) x1 h9) rfl n0_67 (by rw [hml]; rfl) (lenOf pd_4716 rfl) rfl (by decide) (by decide) (by decide) (by decide) e11) rfl rfl fun T13 X13 e13 => ?_
    refine f_if_ne X13 hx hby n0_70 (fun q70 => ?_) (fun q70 => ?_)
    · refine w_iconst X13 hx hby (0 : Int32) n0_101 rfl ?_
      refine w_istore X13 hx hby #[.val (.int x0), .val (.int x1), .val (.int x2), .val (.int x3), .val (.int x4), .val (.int x5), .val (.ref b1), .val (.int ((x4 &&& (2147483647 : Int32)) % (5 : Int32))), .val (.int (((x4 &&& (2147483647 : Int32)) % (5 : Int32)) + ((x5 &&& (2147483647 : Int32)) % ((5 : Int32) - ((x4 &&& (2147483647 : Int32)) % (5 : Int32)))))), .val (.int (0 : Int32))] n0_102 rfl ?_
      refine w_aload X13 hx hby n0_104 rfl rfl ?_
      refine w_iload X13 hx hby n0_106 rfl ?_
      refine w_iload X13 hx hby n0_108 rfl ?_
      refine w_calledp (call_S X13 hx hby hZ hown (argsL := [(.ref b1), (.int ((x4 &&& (2147483647 : Int32)) % (5 : Int32))), (.int (((x4 &&& (2147483647 : Int32)) % (5 : Int32)) + ((x5 &&& (2147483647 : Int32)) % ((5 : Int32) - ((x4 &&& (2147483647 : Int32)) % (5 : Int32))))))]) (rest := []) (Wd := 0) (hw _ t_6) (hw _ t_7) (hw _ t_8) (hw _ t_9) (by decide) (rm2 l Z a0 hw b1 k1 ((x4 &&& (2147483647 : Int32)) % (5 : Int32)) (((x4 &&& (2147483647 : Int32)) % (5 : Int32)) + ((x5 &&& (2147483647 : Int32)) % ((5 : Int32) - ((x4 &&& (2147483647 : Int32)) % (5 : Int32))))) (own_nb x0) (own_nb x1) (own_nb x2) (own_nb x3) h9 V9 (own_five x4) (own_t x4 x5)) rfl n0_110 (by rw [hml]; rfl) (lenOf pd_4797 rfl) rfl (by decide) (by decide) (by decide) (by decide) e13) rfl rfl fun T14 X14 e14 => ?_
      refine w_iload X14 hx hby n0_113 rfl ?_
      refine f_icmp_ne X14 hx hby n0_115 (fun q115 => by exact absurd (own_r0 (Or.inr (Or.inl q70))) q115) (fun q115 => ?_)
      refine w_iconst X14 hx hby (1 : Int32) n0_118 rfl ?_
      refine w_goto X14 hx hby n0_119 ?_
      refine w_retN X14 hx hby e14 hlk hret (by simp) n0_123 (by decide) (by decide) ?_
      exact ⟨rfl, N9⟩
    · refine w_iconst X13 hx hby (2 : Int32) n0_73 rfl ?_
      refine w_iload X13 hx hby n0_74 rfl ?_
      refine w_iload X13 hx hby n0_76 rfl ?_
      refine w_iloadN X13 hx hby n0_78 rfl ?_
      refine w_calledp (call_S X13 hx hby hZ hown (argsL := [(.int (2 : Int32)), (.int ((x4 &&& (2147483647 : Int32)) % (5 : Int32))), (.int (((x4 &&& (2147483647 : Int32)) % (5 : Int32)) + ((x5 &&& (2147483647 : Int32)) % ((5 : Int32) - ((x4 &&& (2147483647 : Int32)) % (5 : Int32)))))), (.int x2)]) (rest := []) (Wd := 0) (hw _ t_2) (hw _ t_3) (hw _ t_4) (hw _ t_5) (by decide) (rm1 l Z a0 hw (2 : Int32) ((x4 &&& (2147483647 : Int32)) % (5 : Int32)) (((x4 &&& (2147483647 : Int32)) % (5 : Int32)) + ((x5 &&& (2147483647 : Int32)) % ((5 : Int32) - ((x4 &&& (2147483647 : Int32)) % (5 : Int32))))) x2 h9) rfl n0_79 (by rw [hml]; rfl) (lenOf pd_4716 rfl) rfl (by decide) (by decide) (by decide) (by decide) e13) rfl rfl fun T15 X15 e15 => ?_
      refine f_if_ne X15 hx hby n0_82 (fun q82 => ?_) (fun q82 => ?_)
      · refine w_iconst X15 hx hby (0 : Int32) n0_101 rfl ?_
        refine w_istore X15 hx hby #[.val (.int x0), .val (.int x1), .val (.int x2), .val (.int x3), .val (.int x4), .val (.int x5), .val (.ref b1), .val (.int ((x4 &&& (2147483647 : Int32)) % (5 : Int32))), .val (.int (((x4 &&& (2147483647 : Int32)) % (5 : Int32)) + ((x5 &&& (2147483647 : Int32)) % ((5 : Int32) - ((x4 &&& (2147483647 : Int32)) % (5 : Int32)))))), .val (.int (0 : Int32))] n0_102 rfl ?_
        refine w_aload X15 hx hby n0_104 rfl rfl ?_
        refine w_iload X15 hx hby n0_106 rfl ?_
        refine w_iload X15 hx hby n0_108 rfl ?_
        refine w_calledp (call_S X15 hx hby hZ hown (argsL := [(.ref b1), (.int ((x4 &&& (2147483647 : Int32)) % (5 : Int32))), (.int (((x4 &&& (2147483647 : Int32)) % (5 : Int32)) + ((x5 &&& (2147483647 : Int32)) % ((5 : Int32) - ((x4 &&& (2147483647 : Int32)) % (5 : Int32))))))]) (rest := []) (Wd := 0) (hw _ t_6) (hw _ t_7) (hw _ t_8) (hw _ t_9) (by decide) (rm2 l Z a0 hw b1 k1 ((x4 &&& (2147483647 : Int32)) % (5 : Int32)) (((x4 &&& (2147483647 : Int32)) % (5 : Int32)) + ((x5 &&& (2147483647 : Int32)) % ((5 : Int32) - ((x4 &&& (2147483647 : Int32)) % (5 : Int32))))) (own_nb x0) (own_nb x1) (own_nb x2) (own_nb x3) h9 V9 (own_five x4) (own_t x4 x5)) rfl n0_110 (by rw [hml]; rfl) (lenOf pd_4797 rfl) rfl (by decide) (by decide) (by decide) (by decide) e15) rfl rfl fun T16 X16 e16 => ?_
        refine w_iload X16 hx hby n0_113 rfl ?_
        refine f_icmp_ne X16 hx hby n0_115 (fun q115 => by exact absurd (own_r0 (Or.inr (Or.inr (Or.inl q82)))) q115) (fun q115 => ?_)
        refine w_iconst X16 hx hby (1 : Int32) n0_118 rfl ?_
        refine w_goto X16 hx hby n0_119 ?_
        refine w_retN X16 hx hby e16 hlk hret (by simp) n0_123 (by decide) (by decide) ?_
        exact ⟨rfl, N9⟩
      · refine w_iconst X15 hx hby (3 : Int32) n0_85 rfl ?_
        refine w_iload X15 hx hby n0_86 rfl ?_
        refine w_iload X15 hx hby n0_88 rfl ?_
        refine w_iloadN X15 hx hby n0_90 rfl ?_
        refine w_calledp (call_S X15 hx hby hZ hown (argsL := [(.int (3 : Int32)), (.int ((x4 &&& (2147483647 : Int32)) % (5 : Int32))), (.int (((x4 &&& (2147483647 : Int32)) % (5 : Int32)) + ((x5 &&& (2147483647 : Int32)) % ((5 : Int32) - ((x4 &&& (2147483647 : Int32)) % (5 : Int32)))))), (.int x3)]) (rest := []) (Wd := 0) (hw _ t_2) (hw _ t_3) (hw _ t_4) (hw _ t_5) (by decide) (rm1 l Z a0 hw (3 : Int32) ((x4 &&& (2147483647 : Int32)) % (5 : Int32)) (((x4 &&& (2147483647 : Int32)) % (5 : Int32)) + ((x5 &&& (2147483647 : Int32)) % ((5 : Int32) - ((x4 &&& (2147483647 : Int32)) % (5 : Int32))))) x3 h9) rfl n0_91 (by rw [hml]; rfl) (lenOf pd_4716 rfl) rfl (by decide) (by decide) (by decide) (by decide) e15) rfl rfl fun T17 X17 e17 => ?_
        refine f_if_ne X17 hx hby n0_94 (fun q94 => ?_) (fun q94 => ?_)
        · refine w_iconst X17 hx hby (0 : Int32) n0_101 rfl ?_
          refine w_istore X17 hx hby #[.val (.int x0), .val (.int x1), .val (.int x2), .val (.int x3), .val (.int x4), .val (.int x5), .val (.ref b1), .val (.int ((x4 &&& (2147483647 : Int32)) % (5 : Int32))), .val (.int (((x4 &&& (2147483647 : Int32)) % (5 : Int32)) + ((x5 &&& (2147483647 : Int32)) % ((5 : Int32) - ((x4 &&& (2147483647 : Int32)) % (5 : Int32)))))), .val (.int (0 : Int32))] n0_102 rfl ?_
          refine w_aload X17 hx hby n0_104 rfl rfl ?_
          refine w_iload X17 hx hby n0_106 rfl ?_
          refine w_iload X17 hx hby n0_108 rfl ?_
          refine w_calledp (call_S X17 hx hby hZ hown (argsL := [(.ref b1), (.int ((x4 &&& (2147483647 : Int32)) % (5 : Int32))), (.int (((x4 &&& (2147483647 : Int32)) % (5 : Int32)) + ((x5 &&& (2147483647 : Int32)) % ((5 : Int32) - ((x4 &&& (2147483647 : Int32)) % (5 : Int32))))))]) (rest := []) (Wd := 0) (hw _ t_6) (hw _ t_7) (hw _ t_8) (hw _ t_9) (by decide) (rm2 l Z a0 hw b1 k1 ((x4 &&& (2147483647 : Int32)) % (5 : Int32)) (((x4 &&& (2147483647 : Int32)) % (5 : Int32)) + ((x5 &&& (2147483647 : Int32)) % ((5 : Int32) - ((x4 &&& (2147483647 : Int32)) % (5 : Int32))))) (own_nb x0) (own_nb x1) (own_nb x2) (own_nb x3) h9 V9 (own_five x4) (own_t x4 x5)) rfl n0_110 (by rw [hml]; rfl) (lenOf pd_4797 rfl) rfl (by decide) (by decide) (by decide) (by decide) e17) rfl rfl fun T18 X18 e18 => ?_
          refine w_iload X18 hx hby n0_113 rfl ?_
          refine f_icmp_ne X18 hx hby n0_115 (fun q115 => by exact absurd (own_r0 (Or.inr (Or.inr (Or.inr q94)))) q115) (fun q115 => ?_)
          refine w_iconst X18 hx hby (1 : Int32) n0_118 rfl ?_
          refine w_goto X18 hx hby n0_119 ?_
          refine w_retN X18 hx hby e18 hlk hret (by simp) n0_123 (by decide) (by decide) ?_
          exact ⟨rfl, N9⟩
        · refine w_iconst X17 hx hby (1 : Int32) n0_97 rfl ?_
          refine w_goto X17 hx hby n0_98 ?_
          refine w_istore X17 hx hby #[.val (.int x0), .val (.int x1), .val (.int x2), .val (.int x3), .val (.int x4), .val (.int x5), .val (.ref b1), .val (.int ((x4 &&& (2147483647 : Int32)) % (5 : Int32))), .val (.int (((x4 &&& (2147483647 : Int32)) % (5 : Int32)) + ((x5 &&& (2147483647 : Int32)) % ((5 : Int32) - ((x4 &&& (2147483647 : Int32)) % (5 : Int32)))))), .val (.int (1 : Int32))] n0_102 rfl ?_
          refine w_aload X17 hx hby n0_104 rfl rfl ?_
          refine w_iload X17 hx hby n0_106 rfl ?_
          refine w_iload X17 hx hby n0_108 rfl ?_
          refine w_calledp (call_S X17 hx hby hZ hown (argsL := [(.ref b1), (.int ((x4 &&& (2147483647 : Int32)) % (5 : Int32))), (.int (((x4 &&& (2147483647 : Int32)) % (5 : Int32)) + ((x5 &&& (2147483647 : Int32)) % ((5 : Int32) - ((x4 &&& (2147483647 : Int32)) % (5 : Int32))))))]) (rest := []) (Wd := 0) (hw _ t_6) (hw _ t_7) (hw _ t_8) (hw _ t_9) (by decide) (rm2 l Z a0 hw b1 k1 ((x4 &&& (2147483647 : Int32)) % (5 : Int32)) (((x4 &&& (2147483647 : Int32)) % (5 : Int32)) + ((x5 &&& (2147483647 : Int32)) % ((5 : Int32) - ((x4 &&& (2147483647 : Int32)) % (5 : Int32))))) (own_nb x0) (own_nb x1) (own_nb x2) (own_nb x3) h9 V9 (own_five x4) (own_t x4 x5)) rfl n0_110 (by rw [hml]; rfl) (lenOf pd_4797 rfl) rfl (by decide) (by decide) (by decide) (by decide) e17) rfl rfl fun T19 X19 e19 => ?_
          refine w_iload X19 hx hby n0_113 rfl ?_
          refine f_icmp_ne X19 hx hby n0_115 (fun q115 => by exact absurd (own_r1 q58 q70 q82 q94) q115) (fun q115 => ?_)
          refine w_iconst X19 hx hby (1 : Int32) n0_118 rfl ?_
          refine w_goto X19 hx hby n0_119 ?_
          refine w_retN X19 hx hby e19 hlk hret (by simp) n0_123 (by decide) (by decide) ?_
          exact ⟨rfl, N9⟩
set_option maxRecDepth 65536 in
set_option maxHeartbeats 40000000 in
theorem comes_1 {Post : Tables → Env → Array Value → State → Outcome → State → Prop} (hpost : ∀ tb e args s v u, (limb_1_1.after args s (.returned v) u = true ∧ limb_1_2.after args s (.returned v) u = true) → FrameEnd s (.returned v) u (Jvm.fieldLocs frame_1_writes args s ++ Jvm.arrayLocs frame_1_arrays args s ++ Jvm.staticLocs frame_1_statics s) 16 128 → Post tb e args s (.returned v) u) :
    ArmFor flags0 classFile x code maxLocals ret World_1 tables_1 room_1 Calls_1 rest_1 Pre_1 Post := by
  intro l hfl _ _ p e ha hc hk s m args below hf hA hF happ hP
  obtain ⟨hcalls, hrest, hpre⟩ := hP
  obtain ⟨-, -, -, hnamed, -, -, -, hat⟩ := (Spec.applies_iff hf).mp happ
  obtain ⟨hg, hn⟩ := and_e (Cond.before_iff.mp (show (Jvm.Cond.and given_1 narrow_1).before args s = true from hpre))
  obtain ⟨hcnt, hg⟩ := and_e hg
  obtain ⟨hg0, hg⟩ := and_e hg
  obtain ⟨hg1, hg⟩ := and_e hg
  obtain ⟨hg2, hg⟩ := and_e hg
  obtain ⟨hg3, hg⟩ := and_e hg
  obtain ⟨hg4, hg⟩ := and_e hg
  have hg5 := hg
  obtain ⟨w0, w1, w2, w3, w4, w5, rfl⟩ : ∃ w0 w1 w2 w3 w4 w5 : Value, args = #[w0, w1, w2, w3, w4, w5] := by
    have hs : args.size = 6 := by simpa [Cond.value, given_1] using hcnt
    obtain ⟨L⟩ := args
    match L, hs with
    | [w0, w1, w2, w3, w4, w5], _ => exact ⟨w0, w1, w2, w3, w4, w5, rfl⟩
  have hw := fun d (hd : d ∈ tables_1) => atoms_spec (ws := Jvm.Cond.code x code maxLocals ret :: tables_1) hat d (List.mem_cons_of_mem _ hd)
  have hfit : Fit s := fun {y c} hc i hi => by
    obtain ⟨ha, rfl⟩ := Array.getElem?_eq_some_iff.mp hc
    have q := List.all_eq_true.mp ((Array.all_eq_true_iff_forall_mem.mp hF) _ (Array.getElem_mem ha)) i (List.mem_range.mpr hi)
    simpa [Array.getElem?_eq_getElem hi] using q
  obtain ⟨i0, ei0⟩ := is_v hg0
  obtain rfl : w0 = (.int i0) := Option.some.inj ei0
  obtain ⟨i1, ei1⟩ := is_v hg1
  obtain rfl : w1 = (.int i1) := Option.some.inj ei1
  obtain ⟨i2, ei2⟩ := is_v hg2
  obtain rfl : w2 = (.int i2) := Option.some.inj ei2
  obtain ⟨i3, ei3⟩ := is_v hg3
  obtain rfl : w3 = (.int i3) := Option.some.inj ei3
  obtain ⟨i4, ei4⟩ := is_v hg4
  obtain rfl : w4 = (.int i4) := Option.some.inj ei4
  obtain ⟨i5, ei5⟩ := is_v hg5
  obtain rfl : w5 = (.int i5) := Option.some.inj ei5
  obtain ⟨n, o, h1, h2, h3, _, L, rfl, ⟨rfl, N⟩, hq⟩ := law0 l s _ hw i0 i1 i2 i3 i4 i5 s.heap tables_1 p e ha hc hk s m _ below hf ((Spec.applies_iff_loose hf).mp happ).1 ⟨rfl, State.Warmed39.refl s, rfl⟩ trivial
  exact ⟨n, _, h1, h2, h3, hpost _ _ _ _ _ _ ⟨Cond.after_iff.mpr rfl, Cond.after_iff.mpr (eq_i res_at (Term.int_eval (1)) rfl)⟩ ⟨hq.1, hq.2.1, (hq.2.2.sift fun y hy => Or.inr (N y hy)).mono (by decide) (by decide)⟩⟩
theorem main_1_1 : Claimed_1_1 := comes_1 fun _ _ _ _ _ _ h hF => ⟨h.1, hF⟩
theorem main_1_2 : Claimed_1_2 := comes_1 fun _ _ _ _ _ _ h hF => ⟨h.2, hF⟩
end Jvm.Pilot.@@N@@
namespace Jvm.Pilot.@@N@@
open Jvm Jvm.ClassFile Sem Op Lib Jvm.Free Jvm.Stand Jvm.Pilot.@@N@@.Jvm.D
/-! MADE BY PROGRAM (witnessworld.py) out of the Statement's table words and the real class files: 9 classes; the members and pool entries that the words name. The judged class is class 1, her method 1. -/
namespace start1
open Jvm.ClassFile
def u (s : String) : CpInfo := .utf8 (stringToUtf16 s)
/-- a pool by its gaps: so many unusable entries, then the entry; so many at the end -/
def gap : Nat → List CpInfo → List CpInfo
  | 0, r => r
  | n + 1, r => .unusable :: gap n r
def poolList (es : List (Nat × CpInfo)) (last : Nat) : List CpInfo := es.foldr (fun e r => gap e.1 (e.2 :: r)) (gap last [])
def pool (es : List (Nat × CpInfo)) (last : Nat) : Array CpInfo := ⟨poolList es last⟩
def fileOf (pool : Array CpInfo) (this : Nat) (attrs : Array Attribute := #[]) (ms : Array MethodInfo := #[]) (fl : Nat := 33) (sup : Nat := 0) (ifs : Array Nat := #[]) (fds : Array FieldInfo := #[]) : ClassFile where
  minorVersion := 0
  majorVersion := 65
  constantPool := pool
  accessFlags := fl
  thisClass := this
  superClass := sup
  interfaces := ifs
  fields := fds
  methods := ms
  attributes := attrs
def plain (name : String) (sup : Option ClassId) : Class where
  name := name
  kind := .ordinary
  loader := none
  accessFlags := 33
  super := sup
  interfaces := #[]
  cf := none
  fields := #[]
  methods := #[]
  instanceTypes := #[]
  staticTypes := #[]
  resolved := #[]
  callSites := []
  init := .initialized
  statics := none
  mirror := none

def pool0 : Array CpInfo := pool [(5, u "<init>"), (0, u "()V"), (1, .class_ 10), (1, u "java/lang/Object")] 113

def k0m0 : Method := { name := "<init>", desc := "()V", sig := { parameters := [], returnType := none }, accessFlags := 1, code := none }
/-- java/lang/Object -/
def k0 : Class := { plain "java/lang/Object" none with
  accessFlags := 33
  interfaces := #[]
  cf := some (fileOf pool0 8 #[] #[{ accessFlags := 1, nameIndex := 5, descriptorIndex := 6, attributes := #[] }] 33 0 #[] #[])
  fields := #[]
  methods := #[k0m0]
  instanceTypes := #[]
  staticTypes := #[]
  resolved := Array.replicate 124 none
  statics := none }

def pool1 : Array CpInfo := pool [(2, .class_ 4), (1, u "java/lang/Object"), (0, u "<init>"), (0, u "()V"), (0, .integer 2147483647), (0, .methodref 9 10), (0, .class_ 11), (0, .nameAndType 12 13), (0, u "com/example/tagwright/tagwright/Utf8IsAsciiPinLaw"), (0, u "bad"), (0, u "(IIII)Z"), (0, .methodref 15 16), (0, .class_ 17), (0, .nameAndType 18 19), (0, u "com/example/tagwright/tagwright/Utf8"), (0, u "isAscii"), (0, u "([BII)Z"), (2, u "law"), (0, u "(IIIIII)Z")] 5

def k1m0 : Method := { name := "<init>", desc := "()V", sig := { parameters := [], returnType := none }, accessFlags := 2, code := none }
def k1c1 : Code := { maxStack := 4, maxLocals := 10, code := code, exceptionTable := #[], attributes := #[] }
def k1m1 : Method := { name := "law", desc := "(IIIIII)Z", sig := { parameters := [.int, .int, .int, .int, .int, .int], returnType := some .boolean }, accessFlags := 9, code := some k1c1 }
def k1c2 : Code := { maxStack := 2, maxLocals := 4, code := method_3_code, exceptionTable := #[], attributes := #[] }
def k1m2 : Method := { name := "bad", desc := "(IIII)Z", sig := { parameters := [.int, .int, .int, .int], returnType := some .boolean }, accessFlags := 10, code := some k1c2 }
/-- com/example/tagwright/tagwright/Utf8IsAsciiPinLaw -/
def k1 : Class := { plain "com/example/tagwright/tagwright/Utf8IsAsciiPinLaw" (some 0) with
  accessFlags := 49
  interfaces := #[]
  cf := some (fileOf pool1 9 #[] #[{ accessFlags := 2, nameIndex := 5, descriptorIndex := 6, attributes := #[] }, { accessFlags := 9, nameIndex := 22, descriptorIndex := 23, attributes := #[] }, { accessFlags := 10, nameIndex := 12, descriptorIndex := 13, attributes := #[] }] 49 2 #[] #[])
  fields := #[]
  methods := #[k1m0, k1m1, k1m2]
  instanceTypes := #[]
  staticTypes := #[]
  resolved := Array.replicate 29 none
  statics := none }

def pool2 : Array CpInfo := pool [(2, .class_ 4), (1, u "java/lang/Object"), (0, u "<init>"), (0, u "()V"), (25, .class_ 33), (0, u "com/example/tagwright/tagwright/Utf8"), (4, u "isAscii"), (0, u "([BII)Z")] 2

def k2m0 : Method := { name := "<init>", desc := "()V", sig := { parameters := [], returnType := none }, accessFlags := 2, code := none }
def k2c1 : Code := { maxStack := 2, maxLocals := 4, code := prog_63_method_3_code, exceptionTable := #[], attributes := #[] }
def k2m1 : Method := { name := "isAscii", desc := "([BII)Z", sig := { parameters := [(.array .byte), .int, .int], returnType := some .boolean }, accessFlags := 8, code := some k2c1 }
/-- com/example/tagwright/tagwright/Utf8 -/
def k2 : Class := { plain "com/example/tagwright/tagwright/Utf8" (some 0) with
  accessFlags := 48
  interfaces := #[]
  cf := some (fileOf pool2 32 #[] #[{ accessFlags := 2, nameIndex := 5, descriptorIndex := 6, attributes := #[] }, { accessFlags := 8, nameIndex := 38, descriptorIndex := 39, attributes := #[] }] 48 2 #[] #[])
  fields := #[]
  methods := #[k2m0, k2m1]
  instanceTypes := #[]
  staticTypes := #[]
  resolved := Array.replicate 42 none
  statics := none }

def pool3 : Array CpInfo := pool [(1, u "java/lang/Cloneable"), (0, .class_ 1), (0, u "java/lang/Object"), (0, .class_ 3)] 3

/-- java/lang/Cloneable -/
def k3 : Class := { plain "java/lang/Cloneable" (some 0) with
  accessFlags := 1537
  interfaces := #[]
  cf := some (fileOf pool3 2 #[] #[] 1537 4 #[] #[])
  fields := #[]
  methods := #[]
  instanceTypes := #[]
  staticTypes := #[]
  resolved := Array.replicate 8 none
  statics := none }

def pool4 : Array CpInfo := pool [(1, u "java/io/Serializable"), (0, .class_ 1), (0, u "java/lang/Object"), (0, .class_ 3)] 3

/-- java/io/Serializable -/
def k4 : Class := { plain "java/io/Serializable" (some 0) with
  accessFlags := 1537
  interfaces := #[]
  cf := some (fileOf pool4 2 #[] #[] 1537 4 #[] #[])
  fields := #[]
  methods := #[]
  instanceTypes := #[]
  staticTypes := #[]
  resolved := Array.replicate 8 none
  statics := none }

/-- the primitive byte -/
def k5 : Class := { plain "byte" none with kind := .primitive 'B', accessFlags := 0x411 }
/-- [B -/
def k6 : Class := { plain "[B" (some 0) with kind := .array 5 .byte, interfaces := #[3, 4], accessFlags := 1041 }

/-- the primitive int -/
def k7 : Class := { plain "int" none with kind := .primitive 'I', accessFlags := 0x411 }
/-- [I -/
def k8 : Class := { plain "[I" (some 0) with kind := .array 7 .int, interfaces := #[3, 4], accessFlags := 1041 }

def heap : Heap := #[]
def classes : Array Class := #[k0, k1, k2, k3, k4, k5, k6, k7, k8]
def interned : List (Array UInt16 × Addr) := []
def slotsUsed : Nat := 0
def theMethod : MethodId := ⟨1, 1⟩
def args0 : Array Value := #[.int 5, .int 5, .int 5, .int 5, .int 5, .int 5]
def aboutOver (below : List Frame) : State where
  vm := { classes := classes, interned := interned.toArray }
  heap := heap
  slotsUsed := slotsUsed
  threads := #[{ frames := .invoking theMethod args0 :: below }]
def below0 : List Frame := [.native { method := ⟨0, 0⟩, args := #[] }]
def about1 : State := aboutOver below0
def p0 : Program := .bare "" "" ""
def e0 : Env := launch0.env 0 0 0
theorem w_frames : about1.frames = Frame.invoking theMethod args0 :: below0 := rfl
set_option maxRecDepth 65536 in
theorem w_args : argsFit about1.vm theMethod args0 = true := by decide +kernel
set_option maxRecDepth 65536 in
theorem w_heap : heapFits about1 = true := by decide +kernel
set_option maxRecDepth 65536 in
theorem w_runnable : about1.curStatus? = some .runnable := by decide +kernel
set_option maxRecDepth 65536 in
theorem w_alone : about1.alone = true := by decide +kernel
set_option maxRecDepth 65536 in
theorem w_named : about1.methodNamed? x = some theMethod := by decide +kernel
set_option maxRecDepth 65536 in
theorem w_hears : about1.hears theMethod below0 = true := by decide +kernel
set_option maxRecDepth 65536 in
theorem w_ripe : about1.ripe theMethod args0 below0 = true := by decide +kernel
theorem w_running : about1.status = .running := rfl
set_option maxRecDepth 65536 in
theorem w_room : about1.hasRoom e0.platform room_1 = true :=
  launch0.hasRoom_least _ room_1 (by decide +kernel) (by decide +kernel) (by decide +kernel) (by decide +kernel) (by decide +kernel) (by decide +kernel)
theorem allAtoms_all (ts : List Jvm.Cond) (a : Array Jvm.Value) (st : Jvm.State) : (allAtoms ts).before a st = ts.all (fun c => c.before a st) := by
  induction ts with
  | nil => rfl
  | cons c t ih =>
    show (Jvm.Cond.and c (allAtoms t)).before a st = _
    rw [Jvm.Cond.before_and, ih, List.all_cons]
def words1 : List Jvm.Cond := Jvm.Cond.code x code maxLocals ret :: tables_1
/-- a 'code' word, met by the world's own term for the bytes: nothing is compared byte by byte -/
theorem code_word {y : MethodName} {bytes : ByteArray} {mx : Nat} {rt : Option FieldType} {a : Array Value} {s : State} {m : MethodId} {meth : Method} {c : Code} (h1 : s.methodNamed? y = some m) (h2 : s.vm.method? m = some meth) (h3 : meth.code = some c) (h4 : c.code = bytes)
    (h5 : (c.maxLocals == mx && c.exceptionTable.isEmpty && decide (c.maxStack ≤ mostOperands) && decide (meth.sig.returnType = rt) && !meth.locks && decide (parseMethodDescriptor y.desc = some meth.sig)) = true) : (Jvm.Cond.code y bytes mx rt).before a s = true := by
  simp only [Bool.and_eq_true, beq_iff_eq, Bool.not_eq_true', decide_eq_true_eq] at h5
  obtain ⟨⟨⟨⟨⟨g1, g2⟩, g3⟩, g4⟩, g5⟩, g6⟩ := h5
  simp [Cond.before, Cond.holds, Cond.value, h1, h2, h3, h4, g1, g2, g3, g4, g5, g6]
def isCode : Jvm.Cond → Bool
  | .code _ _ _ _ => true
  | _ => false
theorem all_split {L : List Jvm.Cond} {P : Jvm.Cond → Bool} (h1 : L.all (fun c => isCode c || P c) = true) (h2 : ∀ c ∈ L.filter isCode, P c = true) : L.all P = true := by
  refine List.all_eq_true.mpr fun c hc => ?_
  have h := List.all_eq_true.mp h1 c hc
  rcases Bool.eq_false_or_eq_true (isCode c) with hi | hi
  · exact h2 c (List.mem_filter.mpr ⟨hc, hi⟩)
  · simpa [hi] using h
set_option maxRecDepth 65536 in
theorem w_c0 : (Jvm.Cond.code x code maxLocals ret).before args0 about1 = true := code_word (m := ⟨1, 1⟩) (meth := k1m1) (c := k1c1) (by decide +kernel) rfl rfl rfl (by decide +kernel)
set_option maxRecDepth 65536 in
theorem w_c1 : (Jvm.Cond.code ({ cls := "com/example/tagwright/tagwright/Utf8IsAsciiPinLaw", name := "bad", desc := "(IIII)Z" } : Jvm.MethodName) method_3_code (4 : Nat) (Option.some Jvm.ClassFile.FieldType.boolean)).before args0 about1 = true := code_word (m := ⟨1, 2⟩) (meth := k1m2) (c := k1c2) (by decide +kernel) rfl rfl rfl (by decide +kernel)
set_option maxRecDepth 65536 in
theorem w_c2 : (Jvm.Cond.code ({ cls := "com/example/tagwright/tagwright/Utf8", name := "isAscii", desc := "([BII)Z" } : Jvm.MethodName) prog_63_method_3_code (4 : Nat) (Option.some Jvm.ClassFile.FieldType.boolean)).before args0 about1 = true := code_word (m := ⟨2, 1⟩) (meth := k2m1) (c := k2c1) (by decide +kernel) rfl rfl rfl (by decide +kernel)
def codes1 : List Jvm.Cond := [Jvm.Cond.code x code maxLocals ret, Jvm.Cond.code ({ cls := "com/example/tagwright/tagwright/Utf8IsAsciiPinLaw", name := "bad", desc := "(IIII)Z" } : Jvm.MethodName) method_3_code (4 : Nat) (Option.some Jvm.ClassFile.FieldType.boolean), Jvm.Cond.code ({ cls := "com/example/tagwright/tagwright/Utf8", name := "isAscii", desc := "([BII)Z" } : Jvm.MethodName) prog_63_method_3_code (4 : Nat) (Option.some Jvm.ClassFile.FieldType.boolean)]
set_option maxRecDepth 65536 in
theorem codes_eq : words1.filter isCode = codes1 := rfl
theorem w_codes : ∀ c ∈ words1.filter isCode, c.before args0 about1 = true := by
  rw [codes_eq]
  intro c hc
  simp only [codes1, List.mem_cons, List.not_mem_nil, or_false] at hc
  rcases hc with rfl | rfl | rfl
  · exact w_c0
  · exact w_c1
  · exact w_c2
set_option maxRecDepth 65536 in
theorem w_t1 : words1.all (fun c => isCode c || c.before args0 about1) = true := by decide +kernel
theorem w_tables : (allAtoms (Jvm.Cond.code x code maxLocals ret :: tables_1)).before args0 about1 = true := by
  rw [allAtoms_all]
  show words1.all (fun c => c.before args0 about1) = true
  refine all_split ?_ w_codes
  rw [w_t1]
set_option maxRecDepth 65536 in
theorem w_case : (Jvm.Cond.and given_1 narrow_1).before args0 about1 = true := by decide +kernel
theorem w_applies : (headSpec (Jvm.Cond.code x code maxLocals ret :: tables_1) room_1).applies x e0.platform about1 = true :=
  (Spec.applies_iff w_frames).mpr ⟨w_running, w_runnable, w_alone, w_named, w_hears, w_ripe, w_room, w_tables⟩
theorem atStart : AtStart classFile x code maxLocals ret World_1 tables_1 room_1 Calls_1 rest_1 Pre_1 launch0 p0 e0 about1 theMethod args0 below0 :=
  ⟨lists_1, trivial, launch0.admits_env _ _ _, launch0.least_env, fairChoices_fair.cas, fairChoices_fair.clock, w_frames, w_args, w_heap, w_applies, trivial, trivial, w_case⟩
end start1
theorem witness_1 : WitnessClaimed_1 := ⟨start1.p0, start1.e0, start1.about1, start1.theMethod, start1.args0, start1.below0, start1.atStart⟩
end Jvm.Pilot.@@N@@
