import JvmDerived
import JvmDerived.Pilot.@@N@@Statement
import JvmDerived.Pilot.@@N@@Code
set_option linter.unusedVariables false
set_option linter.unusedSimpArgs false
namespace Jvm.Pilot.@@N@@
open Jvm Jvm.ClassFile Sem Op Lib Jvm.Free Jvm.Stand Jvm.LawKit Jvm.RoadKit Bundle Jvm.Pilot.@@N@@.Jvm.D
section OwnKit
variable {p : Program} {l : Launch} {e : Env} {R : Room} {s : State} {m : MethodId} {args : Array Value} {below : List Frame} {meth : Method} {c : Code} {T : State} {locs : List Loc} {cells slots : Nat} {Z : State} {a0 : Array Value} {h : Heap} {K N : Nat} {Q : Option Value → Heap → List Loc → Prop} {G : Outcome → State → Prop} {pc nx tg : Nat} {Ls : Array Slot} {st : List Value} {bs : ByteArray} {o : Int}
/-- from the frame g at T the run ends as G says -/
def Wg (p : Program) (e : Env) (below : List Frame) (G : Outcome → State → Prop) (T : State) (g : JFrame) : Prop :=
  ∃ s₂ o, Steps p.tables e below (T.setTop g) s₂ ∧ s₂.status = .running ∧ Ended s₂ below o ∧ G o s₂
def Gn (s : State) (K N : Nat) (Q : Option Value → Heap → List Loc → Prop) : Outcome → State → Prop := fun o s₂ => ∃ v L, o = .returned v ∧ Q v s₂.heap L ∧ FrameEnd s o s₂ L K N
def Gw (s : State) (K N : Nat) (Q : Option Value → List Loc → Prop) : Outcome → State → Prop := fun o s₂ => ∃ v L, o = .returned v ∧ Q v L ∧ s.Warmed39 s₂.vm ∧ s.Booked s₂.vm s₂.heap.size ∧ s.sameButNew ({ s₂ with vm := s.vm } : State) L K N
theorem Wg.go {G : Outcome → State → Prop} {T' : State} {g g' : JFrame} (st : ∀ target, Steps p.tables e below (T'.setTop g') target → Steps p.tables e below (T.setTop g) target) (k : Wg p e below G T' g') : Wg p e below G T g := by
  obtain ⟨s₂, o, h1, h2⟩ := k; exact ⟨s₂, o, st _ h1, h2⟩
theorem Wg.tr {G : Outcome → State → Prop} {T' : State} {g g' : JFrame} (st : Steps p.tables e below (T.setTop g) (T'.setTop g')) (k : Wg p e below G T' g') : Wg p e below G T g := by
  obtain ⟨s₂, o, h1, h2⟩ := k; exact ⟨s₂, o, st.trans h1, h2⟩
theorem Gw.of {vm₁ : Vm} {n : Nat} {Q : Option Value → List Loc → Prop} {g : JFrame} (hS : s.Since vm₁ n) (k : Wg p e below (Gn (s.setVm vm₁) K N (fun v h L => Q v L ∧ n ≤ h.size)) T g) : Wg p e below (Gw s K N Q) T g := by
  obtain ⟨s₂, o, h1, h2, h3, v, L, h4, ⟨h5, h6⟩, h7⟩ := k
  obtain ⟨a, b, c⟩ := hS.ended (U := s₂) h7.2.1 h6 h7.2.2
  exact ⟨s₂, o, h1, h2, h3, v, L, h4, h5, a, b, c⟩
/-- the instruction i, len bytes long, stands at pc; the next one at nx -/
def In (bs : ByteArray) (pc : Nat) (i : Instr) (len nx : Nat) : Prop := decode bs pc = .ok (i, len) ∧ pc + len = nx
/-- a jump by o: the next one at nx, the target at tg -/
def Jm (bs : ByteArray) (pc : Nat) (i : Instr) (o : Int) (nx tg : Nat) : Prop := decode bs pc = .ok (i, 3) ∧ pc + 3 = nx ∧ 0 ≤ (pc : Int) + o ∧ ((pc : Int) + o).toNat = tg

theorem w_iadd (X : Stand p l e R s m args below meth c T locs cells slots) (hx : p.tables.exec = Jvm.exec) (hby : c.code = bs) {x y : Int32} (hd : In bs pc (.iadd) 1 nx) (k : Wg p e below G T (mkF m nx Ls (.int (x + y) :: st))) : Wg p e below G T (mkF m pc Ls (.int y :: .int x :: st)) := by
  obtain ⟨d, rfl⟩ := hd; exact Wg.go (fun t kk => XS.iadd X.here hx rfl (hb hby d) rfl kk) k
theorem w_isub (X : Stand p l e R s m args below meth c T locs cells slots) (hx : p.tables.exec = Jvm.exec) (hby : c.code = bs) {x y : Int32} (hd : In bs pc (.isub) 1 nx) (k : Wg p e below G T (mkF m nx Ls (.int (x - y) :: st))) : Wg p e below G T (mkF m pc Ls (.int y :: .int x :: st)) := by
  obtain ⟨d, rfl⟩ := hd; exact Wg.go (fun t kk => XS.isub X.here hx rfl (hb hby d) rfl kk) k
theorem w_iand (X : Stand p l e R s m args below meth c T locs cells slots) (hx : p.tables.exec = Jvm.exec) (hby : c.code = bs) {x y : Int32} (hd : In bs pc (.iand) 1 nx) (k : Wg p e below G T (mkF m nx Ls (.int (x &&& y) :: st))) : Wg p e below G T (mkF m pc Ls (.int y :: .int x :: st)) := by
  obtain ⟨d, rfl⟩ := hd; exact Wg.go (fun t kk => XS.iand X.here hx rfl (hb hby d) rfl kk) k
theorem w_imul (X : Stand p l e R s m args below meth c T locs cells slots) (hx : p.tables.exec = Jvm.exec) (hby : c.code = bs) {x y : Int32} (hd : In bs pc (.imul) 1 nx) (k : Wg p e below G T (mkF m nx Ls (.int (x * y) :: st))) : Wg p e below G T (mkF m pc Ls (.int y :: .int x :: st)) := by
  obtain ⟨d, rfl⟩ := hd; exact Wg.go (fun t kk => XS.imul X.here hx rfl (hb hby d) rfl kk) k
theorem w_ior (X : Stand p l e R s m args below meth c T locs cells slots) (hx : p.tables.exec = Jvm.exec) (hby : c.code = bs) {x y : Int32} (hd : In bs pc (.ior) 1 nx) (k : Wg p e below G T (mkF m nx Ls (.int (x ||| y) :: st))) : Wg p e below G T (mkF m pc Ls (.int y :: .int x :: st)) := by
  obtain ⟨d, rfl⟩ := hd; exact Wg.go (fun t kk => XS.ior X.here hx rfl (hb hby d) rfl kk) k
theorem w_ixor (X : Stand p l e R s m args below meth c T locs cells slots) (hx : p.tables.exec = Jvm.exec) (hby : c.code = bs) {x y : Int32} (hd : In bs pc (.ixor) 1 nx) (k : Wg p e below G T (mkF m nx Ls (.int (x ^^^ y) :: st))) : Wg p e below G T (mkF m pc Ls (.int y :: .int x :: st)) := by
  obtain ⟨d, rfl⟩ := hd; exact Wg.go (fun t kk => XS.ixor X.here hx rfl (hb hby d) rfl kk) k
theorem w_ishl (X : Stand p l e R s m args below meth c T locs cells slots) (hx : p.tables.exec = Jvm.exec) (hby : c.code = bs) {x y : Int32} (hd : In bs pc (.ishl) 1 nx) (k : Wg p e below G T (mkF m nx Ls (.int (x <<< (y &&& 31)) :: st))) : Wg p e below G T (mkF m pc Ls (.int y :: .int x :: st)) := by
  obtain ⟨d, rfl⟩ := hd; exact Wg.go (fun t kk => XS.ishl X.here hx rfl (hb hby d) rfl kk) k
theorem w_ishr (X : Stand p l e R s m args below meth c T locs cells slots) (hx : p.tables.exec = Jvm.exec) (hby : c.code = bs) {x y : Int32} (hd : In bs pc (.ishr) 1 nx) (k : Wg p e below G T (mkF m nx Ls (.int (x >>> (y &&& 31)) :: st))) : Wg p e below G T (mkF m pc Ls (.int y :: .int x :: st)) := by
  obtain ⟨d, rfl⟩ := hd; exact Wg.go (fun t kk => XS.ishr X.here hx rfl (hb hby d) rfl kk) k
theorem w_iushr (X : Stand p l e R s m args below meth c T locs cells slots) (hx : p.tables.exec = Jvm.exec) (hby : c.code = bs) {x y : Int32} (hd : In bs pc (.iushr) 1 nx) (k : Wg p e below G T (mkF m nx Ls (.int ((x.toUInt32 >>> (y &&& 31).toUInt32).toInt32) :: st))) : Wg p e below G T (mkF m pc Ls (.int y :: .int x :: st)) := by
  obtain ⟨d, rfl⟩ := hd; exact Wg.go (fun t kk => XS.iushr X.here hx rfl (hb hby d) rfl kk) k
theorem w_ladd (X : Stand p l e R s m args below meth c T locs cells slots) (hx : p.tables.exec = Jvm.exec) (hby : c.code = bs) {x y : Int64} (hd : In bs pc (.ladd) 1 nx) (k : Wg p e below G T (mkF m nx Ls (.long (x + y) :: st))) : Wg p e below G T (mkF m pc Ls (.long y :: .long x :: st)) := by
  obtain ⟨d, rfl⟩ := hd; exact Wg.go (fun t kk => XS.ladd X.here hx rfl (hb hby d) rfl kk) k
theorem w_lsub (X : Stand p l e R s m args below meth c T locs cells slots) (hx : p.tables.exec = Jvm.exec) (hby : c.code = bs) {x y : Int64} (hd : In bs pc (.lsub) 1 nx) (k : Wg p e below G T (mkF m nx Ls (.long (x - y) :: st))) : Wg p e below G T (mkF m pc Ls (.long y :: .long x :: st)) := by
  obtain ⟨d, rfl⟩ := hd; exact Wg.go (fun t kk => XS.lsub X.here hx rfl (hb hby d) rfl kk) k
theorem w_land (X : Stand p l e R s m args below meth c T locs cells slots) (hx : p.tables.exec = Jvm.exec) (hby : c.code = bs) {x y : Int64} (hd : In bs pc (.land) 1 nx) (k : Wg p e below G T (mkF m nx Ls (.long (x &&& y) :: st))) : Wg p e below G T (mkF m pc Ls (.long y :: .long x :: st)) := by
  obtain ⟨d, rfl⟩ := hd; exact Wg.go (fun t kk => XS.land X.here hx rfl (hb hby d) rfl kk) k
theorem w_lmul (X : Stand p l e R s m args below meth c T locs cells slots) (hx : p.tables.exec = Jvm.exec) (hby : c.code = bs) {x y : Int64} (hd : In bs pc (.lmul) 1 nx) (k : Wg p e below G T (mkF m nx Ls (.long (x * y) :: st))) : Wg p e below G T (mkF m pc Ls (.long y :: .long x :: st)) := by
  obtain ⟨d, rfl⟩ := hd; exact Wg.go (fun t kk => XS.lmul X.here hx rfl (hb hby d) rfl kk) k
theorem w_lor (X : Stand p l e R s m args below meth c T locs cells slots) (hx : p.tables.exec = Jvm.exec) (hby : c.code = bs) {x y : Int64} (hd : In bs pc (.lor) 1 nx) (k : Wg p e below G T (mkF m nx Ls (.long (x ||| y) :: st))) : Wg p e below G T (mkF m pc Ls (.long y :: .long x :: st)) := by
  obtain ⟨d, rfl⟩ := hd; exact Wg.go (fun t kk => XS.lor X.here hx rfl (hb hby d) rfl kk) k
theorem w_lxor (X : Stand p l e R s m args below meth c T locs cells slots) (hx : p.tables.exec = Jvm.exec) (hby : c.code = bs) {x y : Int64} (hd : In bs pc (.lxor) 1 nx) (k : Wg p e below G T (mkF m nx Ls (.long (x ^^^ y) :: st))) : Wg p e below G T (mkF m pc Ls (.long y :: .long x :: st)) := by
  obtain ⟨d, rfl⟩ := hd; exact Wg.go (fun t kk => XS.lxor X.here hx rfl (hb hby d) rfl kk) k
theorem w_lshl (X : Stand p l e R s m args below meth c T locs cells slots) (hx : p.tables.exec = Jvm.exec) (hby : c.code = bs) {x : Int64} {y : Int32} (hd : In bs pc (.lshl) 1 nx) (k : Wg p e below G T (mkF m nx Ls (.long (x <<< (y &&& 0x3f).toInt64) :: st))) : Wg p e below G T (mkF m pc Ls (.int y :: .long x :: st)) := by
  obtain ⟨d, rfl⟩ := hd; exact Wg.go (fun t kk => XS.lshl X.here hx rfl (hb hby d) rfl kk) k
theorem w_lshr (X : Stand p l e R s m args below meth c T locs cells slots) (hx : p.tables.exec = Jvm.exec) (hby : c.code = bs) {x : Int64} {y : Int32} (hd : In bs pc (.lshr) 1 nx) (k : Wg p e below G T (mkF m nx Ls (.long (x >>> (y &&& 0x3f).toInt64) :: st))) : Wg p e below G T (mkF m pc Ls (.int y :: .long x :: st)) := by
  obtain ⟨d, rfl⟩ := hd; exact Wg.go (fun t kk => XS.lshr X.here hx rfl (hb hby d) rfl kk) k
theorem w_lushr (X : Stand p l e R s m args below meth c T locs cells slots) (hx : p.tables.exec = Jvm.exec) (hby : c.code = bs) {x : Int64} {y : Int32} (hd : In bs pc (.lushr) 1 nx) (k : Wg p e below G T (mkF m nx Ls (.long ((x.toUInt64 >>> (y &&& 0x3f).toInt64.toUInt64).toInt64) :: st))) : Wg p e below G T (mkF m pc Ls (.int y :: .long x :: st)) := by
  obtain ⟨d, rfl⟩ := hd; exact Wg.go (fun t kk => XS.lushr X.here hx rfl (hb hby d) rfl kk) k
theorem w_i2b (X : Stand p l e R s m args below meth c T locs cells slots) (hx : p.tables.exec = Jvm.exec) (hby : c.code = bs) {x : Int32} (hd : In bs pc (.i2b) 1 nx) (k : Wg p e below G T (mkF m nx Ls (.int (x.toInt8.toInt32) :: st))) : Wg p e below G T (mkF m pc Ls (.int x :: st)) := by
  obtain ⟨d, rfl⟩ := hd; exact Wg.go (fun t kk => XS.i2b X.here hx rfl (hb hby d) rfl kk) k
theorem w_i2c (X : Stand p l e R s m args below meth c T locs cells slots) (hx : p.tables.exec = Jvm.exec) (hby : c.code = bs) {x : Int32} (hd : In bs pc (.i2c) 1 nx) (k : Wg p e below G T (mkF m nx Ls (.int (x.toUInt32.toUInt16.toUInt32.toInt32) :: st))) : Wg p e below G T (mkF m pc Ls (.int x :: st)) := by
  obtain ⟨d, rfl⟩ := hd; exact Wg.go (fun t kk => XS.i2c X.here hx rfl (hb hby d) rfl kk) k
theorem w_i2s (X : Stand p l e R s m args below meth c T locs cells slots) (hx : p.tables.exec = Jvm.exec) (hby : c.code = bs) {x : Int32} (hd : In bs pc (.i2s) 1 nx) (k : Wg p e below G T (mkF m nx Ls (.int (x.toInt16.toInt32) :: st))) : Wg p e below G T (mkF m pc Ls (.int x :: st)) := by
  obtain ⟨d, rfl⟩ := hd; exact Wg.go (fun t kk => XS.i2s X.here hx rfl (hb hby d) rfl kk) k
theorem w_ineg (X : Stand p l e R s m args below meth c T locs cells slots) (hx : p.tables.exec = Jvm.exec) (hby : c.code = bs) {x : Int32} (hd : In bs pc (.ineg) 1 nx) (k : Wg p e below G T (mkF m nx Ls (.int (-x) :: st))) : Wg p e below G T (mkF m pc Ls (.int x :: st)) := by
  obtain ⟨d, rfl⟩ := hd; exact Wg.go (fun t kk => XS.ineg X.here hx rfl (hb hby d) rfl kk) k
theorem w_i2l (X : Stand p l e R s m args below meth c T locs cells slots) (hx : p.tables.exec = Jvm.exec) (hby : c.code = bs) {x : Int32} (hd : In bs pc (.i2l) 1 nx) (k : Wg p e below G T (mkF m nx Ls (.long x.toInt64 :: st))) : Wg p e below G T (mkF m pc Ls (.int x :: st)) := by
  obtain ⟨d, rfl⟩ := hd; exact Wg.go (fun t kk => XS.i2l X.here hx rfl (hb hby d) rfl kk) k
theorem w_l2i (X : Stand p l e R s m args below meth c T locs cells slots) (hx : p.tables.exec = Jvm.exec) (hby : c.code = bs) {x : Int64} (hd : In bs pc (.l2i) 1 nx) (k : Wg p e below G T (mkF m nx Ls (.int x.toInt32 :: st))) : Wg p e below G T (mkF m pc Ls (.long x :: st)) := by
  obtain ⟨d, rfl⟩ := hd; exact Wg.go (fun t kk => XS.l2i X.here hx rfl (hb hby d) rfl kk) k
theorem w_lneg (X : Stand p l e R s m args below meth c T locs cells slots) (hx : p.tables.exec = Jvm.exec) (hby : c.code = bs) {x : Int64} (hd : In bs pc (.lneg) 1 nx) (k : Wg p e below G T (mkF m nx Ls (.long (-x) :: st))) : Wg p e below G T (mkF m pc Ls (.long x :: st)) := by
  obtain ⟨d, rfl⟩ := hd; exact Wg.go (fun t kk => XS.lneg X.here hx rfl (hb hby d) rfl kk) k
theorem w_idiv (X : Stand p l e R s m args below meth c T locs cells slots) (hx : p.tables.exec = Jvm.exec) (hby : c.code = bs) {x y : Int32} (hd : In bs pc (.idiv) 1 nx) (hy : y ≠ 0) (k : Wg p e below G T (mkF m nx Ls (.int (x / y) :: st))) : Wg p e below G T (mkF m pc Ls (.int y :: .int x :: st)) := by
  obtain ⟨d, rfl⟩ := hd; exact Wg.go (fun t kk => XS.idiv X.here hx rfl (hb hby d) rfl hy kk) k
theorem w_irem (X : Stand p l e R s m args below meth c T locs cells slots) (hx : p.tables.exec = Jvm.exec) (hby : c.code = bs) {x y : Int32} (hd : In bs pc .irem 1 nx) (hy : y ≠ 0) (k : Wg p e below G T (mkF m nx Ls (.int (x % y) :: st))) : Wg p e below G T (mkF m pc Ls (.int y :: .int x :: st)) := by
  obtain ⟨d, rfl⟩ := hd; exact Wg.go (fun t kk => iremM X hx rfl (hb hby d) rfl hy kk) k
theorem w_ldiv (X : Stand p l e R s m args below meth c T locs cells slots) (hx : p.tables.exec = Jvm.exec) (hby : c.code = bs) {x y : Int64} (hd : In bs pc (.ldiv) 1 nx) (hy : y ≠ 0) (k : Wg p e below G T (mkF m nx Ls (.long (x / y) :: st))) : Wg p e below G T (mkF m pc Ls (.long y :: .long x :: st)) := by
  obtain ⟨d, rfl⟩ := hd; exact Wg.go (fun t kk => XS.ldiv X.here hx rfl (hb hby d) rfl hy kk) k
theorem w_lrem (X : Stand p l e R s m args below meth c T locs cells slots) (hx : p.tables.exec = Jvm.exec) (hby : c.code = bs) {x y : Int64} (hd : In bs pc .lrem 1 nx) (hy : y ≠ 0) (k : Wg p e below G T (mkF m nx Ls (.long (x % y) :: st))) : Wg p e below G T (mkF m pc Ls (.long y :: .long x :: st)) := by
  obtain ⟨d, rfl⟩ := hd; refine Wg.go (fun t kk => XS.lrem X.here hx rfl (hb hby d) rfl hy kk) ?_; rw [lrem_mod]; exact k
theorem w_aconst_null (X : Stand p l e R s m args below meth c T locs cells slots) (hx : p.tables.exec = Jvm.exec) (hby : c.code = bs)  (hd : In bs pc (.aconst_null) 1 nx) (k : Wg p e below G T (mkF m nx Ls (.null :: st))) : Wg p e below G T (mkF m pc Ls (st)) := by
  obtain ⟨d, rfl⟩ := hd; exact Wg.go (fun t kk => XS.aconstNull X.here hx rfl (hb hby d) kk) k
theorem w_dup (X : Stand p l e R s m args below meth c T locs cells slots) (hx : p.tables.exec = Jvm.exec) (hby : c.code = bs) {x : Value} (hd : In bs pc (.dup) 1 nx) (hc : x.category = 1) (k : Wg p e below G T (mkF m nx Ls (x :: x :: st))) : Wg p e below G T (mkF m pc Ls (x :: st)) := by
  obtain ⟨d, rfl⟩ := hd; exact Wg.go (fun t kk => XS.dup X.here hx rfl (hb hby d) rfl hc kk) k
theorem w_dup_x1 (X : Stand p l e R s m args below meth c T locs cells slots) (hx : p.tables.exec = Jvm.exec) (hby : c.code = bs) {x y : Value} (hd : In bs pc (.dup_x1) 1 nx) (hc : x.category = 1) (hc2 : y.category = 1) (k : Wg p e below G T (mkF m nx Ls (x :: y :: x :: st))) : Wg p e below G T (mkF m pc Ls (x :: y :: st)) := by
  obtain ⟨d, rfl⟩ := hd; exact Wg.go (fun t kk => XS.dupX1 X.here hx rfl (hb hby d) rfl hc hc2 kk) k
theorem w_dup2 (X : Stand p l e R s m args below meth c T locs cells slots) (hx : p.tables.exec = Jvm.exec) (hby : c.code = bs) {x y : Value} (hd : In bs pc (.dup2) 1 nx) (hc : x.category = 1) (hc2 : y.category = 1) (k : Wg p e below G T (mkF m nx Ls (x :: y :: x :: y :: st))) : Wg p e below G T (mkF m pc Ls (x :: y :: st)) := by
  obtain ⟨d, rfl⟩ := hd; exact Wg.go (fun t kk => XT.dup2 X.here hx rfl (hb hby d) rfl hc hc2 kk) k
theorem w_dup2L (X : Stand p l e R s m args below meth c T locs cells slots) (hx : p.tables.exec = Jvm.exec) (hby : c.code = bs) {x : Int64} (hd : In bs pc (.dup2) 1 nx) (k : Wg p e below G T (mkF m nx Ls (.long x :: .long x :: st))) : Wg p e below G T (mkF m pc Ls (.long x :: st)) := by
  obtain ⟨d, rfl⟩ := hd; exact Wg.go (fun t kk => XT.dup2L X.here hx rfl (hb hby d) rfl kk) k
theorem w_pop (X : Stand p l e R s m args below meth c T locs cells slots) (hx : p.tables.exec = Jvm.exec) (hby : c.code = bs) {x : Value} (hd : In bs pc (.pop) 1 nx) (hc : x.category = 1) (k : Wg p e below G T (mkF m nx Ls (st))) : Wg p e below G T (mkF m pc Ls (x :: st)) := by
  obtain ⟨d, rfl⟩ := hd; exact Wg.go (fun t kk => XS.pop X.here hx rfl (hb hby d) rfl hc kk) k
theorem w_iconst (X : Stand p l e R s m args below meth c T locs cells slots) (hx : p.tables.exec = Jvm.exec) (hby : c.code = bs) {i : Int} (v : Int32) (hd : In bs pc (.iconst i) 1 nx) (hv : Int32.ofInt i = v) (k : Wg p e below G T (mkF m nx Ls (.int v :: st))) : Wg p e below G T (mkF m pc Ls (st)) := by
  obtain ⟨d, rfl⟩ := hd; exact Wg.go (fun t kk => XT.iconstV X.here hx rfl v (hb hby d) hv kk) k
theorem w_bipush (X : Stand p l e R s m args below meth c T locs cells slots) (hx : p.tables.exec = Jvm.exec) (hby : c.code = bs) {i : Int} (v : Int32) (hd : In bs pc (.bipush i) 2 nx) (hv : (Int8.ofInt i).toInt32 = v) (k : Wg p e below G T (mkF m nx Ls (.int v :: st))) : Wg p e below G T (mkF m pc Ls (st)) := by
  obtain ⟨d, rfl⟩ := hd; exact Wg.go (fun t kk => XT.bipushV X.here hx rfl v (hb hby d) hv kk) k
theorem w_sipush (X : Stand p l e R s m args below meth c T locs cells slots) (hx : p.tables.exec = Jvm.exec) (hby : c.code = bs) {i : Int} (v : Int32) (hd : In bs pc (.sipush i) 3 nx) (hv : (Int16.ofInt i).toInt32 = v) (k : Wg p e below G T (mkF m nx Ls (.int v :: st))) : Wg p e below G T (mkF m pc Ls (st)) := by
  obtain ⟨d, rfl⟩ := hd; exact Wg.go (fun t kk => XT.sipushV X.here hx rfl v (hb hby d) hv kk) k
theorem w_lconst (X : Stand p l e R s m args below meth c T locs cells slots) (hx : p.tables.exec = Jvm.exec) (hby : c.code = bs) {i : Fin 2} (v : Int64) (hd : In bs pc (.lconst i) 1 nx) (hv : Int64.ofNat i = v) (k : Wg p e below G T (mkF m nx Ls (.long v :: st))) : Wg p e below G T (mkF m pc Ls (st)) := by
  obtain ⟨d, rfl⟩ := hd; exact Wg.go (fun t kk => XT.lconstV X.here hx rfl v (hb hby d) hv kk) k
theorem w_iloadN (X : Stand p l e R s m args below meth c T locs cells slots) (hx : p.tables.exec = Jvm.exec) (hby : c.code = bs) {i : Fin 4} {v : Int32} (hd : In bs pc (.iload_n i) 1 nx) (hl : Ls[i.val]? = some (.val (.int v))) (k : Wg p e below G T (mkF m nx Ls (.int v :: st))) : Wg p e below G T (mkF m pc Ls (st)) := by
  obtain ⟨d, rfl⟩ := hd; exact Wg.go (fun t kk => XS.iloadN X.here hx rfl (hb hby d) hl kk) k
theorem w_lloadN (X : Stand p l e R s m args below meth c T locs cells slots) (hx : p.tables.exec = Jvm.exec) (hby : c.code = bs) {i : Fin 4} {v : Int64} (hd : In bs pc (.lload_n i) 1 nx) (hl : Ls[i.val]? = some (.val (.long v))) (k : Wg p e below G T (mkF m nx Ls (.long v :: st))) : Wg p e below G T (mkF m pc Ls (st)) := by
  obtain ⟨d, rfl⟩ := hd; exact Wg.go (fun t kk => XS.lloadN X.here hx rfl (hb hby d) hl kk) k
theorem w_aloadN (X : Stand p l e R s m args below meth c T locs cells slots) (hx : p.tables.exec = Jvm.exec) (hby : c.code = bs) {i : Fin 4} {v : Value} (hd : In bs pc (.aload_n i) 1 nx) (hl : Ls[i.val]? = some (.val v)) (hv : v.isRef = true) (k : Wg p e below G T (mkF m nx Ls (v :: st))) : Wg p e below G T (mkF m pc Ls (st)) := by
  obtain ⟨d, rfl⟩ := hd; exact Wg.go (fun t kk => XS.aloadN X.here hx rfl (hb hby d) hl hv kk) k
theorem w_istoreN (X : Stand p l e R s m args below meth c T locs cells slots) (hx : p.tables.exec = Jvm.exec) (hby : c.code = bs) {i : Fin 4} {v : Int32} (l' : Array Slot) (hd : In bs pc (.istore_n i) 1 nx) (hl : storeLocals Ls i.val (.int v) = some l') (k : Wg p e below G T (mkF m nx l' (st))) : Wg p e below G T (mkF m pc Ls (.int v :: st)) := by
  obtain ⟨d, rfl⟩ := hd; exact Wg.go (fun t kk => XS.istoreN X.here hx rfl (hb hby d) rfl hl kk) k
theorem w_lstoreN (X : Stand p l e R s m args below meth c T locs cells slots) (hx : p.tables.exec = Jvm.exec) (hby : c.code = bs) {i : Fin 4} {v : Int64} (l' : Array Slot) (hd : In bs pc (.lstore_n i) 1 nx) (hl : storeLocals Ls i.val (.long v) = some l') (k : Wg p e below G T (mkF m nx l' (st))) : Wg p e below G T (mkF m pc Ls (.long v :: st)) := by
  obtain ⟨d, rfl⟩ := hd; exact Wg.go (fun t kk => XS.lstoreN X.here hx rfl (hb hby d) rfl hl kk) k
theorem w_astoreN (X : Stand p l e R s m args below meth c T locs cells slots) (hx : p.tables.exec = Jvm.exec) (hby : c.code = bs) {i : Fin 4} {v : Value} (l' : Array Slot) (hd : In bs pc (.astore_n i) 1 nx) (hv : v.isRef = true) (hl : storeLocals Ls i.val v = some l') (k : Wg p e below G T (mkF m nx l' (st))) : Wg p e below G T (mkF m pc Ls (v :: st)) := by
  obtain ⟨d, rfl⟩ := hd; exact Wg.go (fun t kk => XS.astoreN X.here hx rfl (hb hby d) rfl hv hl kk) k
theorem w_iload (X : Stand p l e R s m args below meth c T locs cells slots) (hx : p.tables.exec = Jvm.exec) (hby : c.code = bs) {i : Nat} {v : Int32} (hd : In bs pc (.iload i) 2 nx) (hl : Ls[i]? = some (.val (.int v))) (k : Wg p e below G T (mkF m nx Ls (.int v :: st))) : Wg p e below G T (mkF m pc Ls (st)) := by
  obtain ⟨d, rfl⟩ := hd; exact Wg.go (fun t kk => XS.iload X.here hx rfl (hb hby d) hl kk) k
theorem w_lload (X : Stand p l e R s m args below meth c T locs cells slots) (hx : p.tables.exec = Jvm.exec) (hby : c.code = bs) {i : Nat} {v : Int64} (hd : In bs pc (.lload i) 2 nx) (hl : Ls[i]? = some (.val (.long v))) (k : Wg p e below G T (mkF m nx Ls (.long v :: st))) : Wg p e below G T (mkF m pc Ls (st)) := by
  obtain ⟨d, rfl⟩ := hd; exact Wg.go (fun t kk => XS.lload X.here hx rfl (hb hby d) hl kk) k
theorem w_aload (X : Stand p l e R s m args below meth c T locs cells slots) (hx : p.tables.exec = Jvm.exec) (hby : c.code = bs) {i : Nat} {v : Value} (hd : In bs pc (.aload i) 2 nx) (hl : Ls[i]? = some (.val v)) (hv : v.isRef = true) (k : Wg p e below G T (mkF m nx Ls (v :: st))) : Wg p e below G T (mkF m pc Ls (st)) := by
  obtain ⟨d, rfl⟩ := hd; exact Wg.go (fun t kk => XS.aload X.here hx rfl (hb hby d) hl hv kk) k
theorem w_istore (X : Stand p l e R s m args below meth c T locs cells slots) (hx : p.tables.exec = Jvm.exec) (hby : c.code = bs) {i : Nat} {v : Int32} (l' : Array Slot) (hd : In bs pc (.istore i) 2 nx) (hl : storeLocals Ls i (.int v) = some l') (k : Wg p e below G T (mkF m nx l' (st))) : Wg p e below G T (mkF m pc Ls (.int v :: st)) := by
  obtain ⟨d, rfl⟩ := hd; exact Wg.go (fun t kk => XS.istore X.here hx rfl (hb hby d) rfl hl kk) k
theorem w_lstore (X : Stand p l e R s m args below meth c T locs cells slots) (hx : p.tables.exec = Jvm.exec) (hby : c.code = bs) {i : Nat} {v : Int64} (l' : Array Slot) (hd : In bs pc (.lstore i) 2 nx) (hl : storeLocals Ls i (.long v) = some l') (k : Wg p e below G T (mkF m nx l' (st))) : Wg p e below G T (mkF m pc Ls (.long v :: st)) := by
  obtain ⟨d, rfl⟩ := hd; exact Wg.go (fun t kk => XS.lstore X.here hx rfl (hb hby d) rfl hl kk) k
theorem w_astore (X : Stand p l e R s m args below meth c T locs cells slots) (hx : p.tables.exec = Jvm.exec) (hby : c.code = bs) {i : Nat} {v : Value} (l' : Array Slot) (hd : In bs pc (.astore i) 2 nx) (hv : v.isRef = true) (hl : storeLocals Ls i v = some l') (k : Wg p e below G T (mkF m nx l' (st))) : Wg p e below G T (mkF m pc Ls (v :: st)) := by
  obtain ⟨d, rfl⟩ := hd; exact Wg.go (fun t kk => XS.astore X.here hx rfl (hb hby d) rfl hv hl kk) k
theorem w_iinc (X : Stand p l e R s m args below meth c T locs cells slots) (hx : p.tables.exec = Jvm.exec) (hby : c.code = bs) {i : Nat} {cst : Int} {x : Int32} (v : Int32) (l' : Array Slot) (hd : In bs pc (.iinc i cst) 3 nx) (hv : Int32.ofInt cst = v) (hl : Ls[i]? = some (.val (.int x))) (hl' : storeLocals Ls i (.int (x + v)) = some l') (k : Wg p e below G T (mkF m nx l' st)) : Wg p e below G T (mkF m pc Ls st) := by
  obtain ⟨d, rfl⟩ := hd; exact Wg.go (fun t kk => XT.iincV X.here hx rfl v (hb hby d) hv hl hl' kk) k
theorem w_goto (X : Stand p l e R s m args below meth c T locs cells slots) (hx : p.tables.exec = Jvm.exec) (hby : c.code = bs) (hd : Jm bs pc (.goto o) o nx tg) (k : Wg p e below G T (mkF m tg Ls st)) : Wg p e below G T (mkF m pc Ls st) := by
  obtain ⟨d, -, q1, q2⟩ := hd; exact Wg.go (fun t kk => XS.goto X.here hx rfl rfl (hb hby d) q1 q2 kk) k
theorem f_icmp_eq (X : Stand p l e R s m args below meth c T locs cells slots) (hx : p.tables.exec = Jvm.exec) (hby : c.code = bs) {x y : Int32} (hd : Jm bs pc (.if_icmp .eq o) o nx tg) (kt : x = y → Wg p e below G T (mkF m tg Ls st)) (kf : ¬ x = y → Wg p e below G T (mkF m nx Ls st)) : Wg p e below G T (mkF m pc Ls (.int y :: .int x :: st)) := by
  obtain ⟨d, rfl, q1, q2⟩ := hd
  by_cases q : x = y
  · exact Wg.go (fun t kk => XS.icmpYes X.here hx rfl rfl (hb hby d) rfl (XT.ii_eq_t q) q1 q2 kk) (kt q)
  · exact Wg.go (fun t kk => XS.icmpNo X.here hx rfl (hb hby d) rfl (XT.ii_eq_f q) kk) (kf q)
theorem f_if_eq (X : Stand p l e R s m args below meth c T locs cells slots) (hx : p.tables.exec = Jvm.exec) (hby : c.code = bs) {x : Int32} (hd : Jm bs pc (.ifCond .eq o) o nx tg) (kt : x = 0 → Wg p e below G T (mkF m tg Ls st)) (kf : ¬ x = 0 → Wg p e below G T (mkF m nx Ls st)) : Wg p e below G T (mkF m pc Ls (.int x :: st)) := by
  obtain ⟨d, rfl, q1, q2⟩ := hd
  by_cases q : x = 0
  · exact Wg.go (fun t kk => XS.ifYes X.here hx rfl rfl (hb hby d) rfl (XT.i0_eq_t q) q1 q2 kk) (kt q)
  · exact Wg.go (fun t kk => XS.ifNo X.here hx rfl (hb hby d) rfl (XT.i0_eq_f q) kk) (kf q)
theorem f_lcmp_eq (X : Stand p l e R s m args below meth c T locs cells slots) (hx : p.tables.exec = Jvm.exec) (hby : c.code = bs) {x y : Int64} {n1 : Nat} (hc : In bs pc .lcmp 1 n1) (hd : Jm bs n1 (.ifCond .eq o) o nx tg) (kt : x = y → Wg p e below G T (mkF m tg Ls st)) (kf : ¬ x = y → Wg p e below G T (mkF m nx Ls st)) : Wg p e below G T (mkF m pc Ls (.long y :: .long x :: st)) := by
  obtain ⟨d1, rfl⟩ := hc; obtain ⟨d, rfl, q1, q2⟩ := hd
  refine Wg.go (fun t kk => XT.lcmp X.here hx rfl (hb hby d1) rfl kk) ?_
  by_cases q : x = y
  · exact Wg.go (fun t kk => XS.ifYes X.here hx rfl rfl (hb hby d) rfl (XT.ll_eq_t q) q1 q2 kk) (kt q)
  · exact Wg.go (fun t kk => XS.ifNo X.here hx rfl (hb hby d) rfl (XT.ll_eq_f q) kk) (kf q)
theorem f_icmp_ne (X : Stand p l e R s m args below meth c T locs cells slots) (hx : p.tables.exec = Jvm.exec) (hby : c.code = bs) {x y : Int32} (hd : Jm bs pc (.if_icmp .ne o) o nx tg) (kt : ¬ x = y → Wg p e below G T (mkF m tg Ls st)) (kf : x = y → Wg p e below G T (mkF m nx Ls st)) : Wg p e below G T (mkF m pc Ls (.int y :: .int x :: st)) := by
  obtain ⟨d, rfl, q1, q2⟩ := hd
  by_cases q : x = y
  · exact Wg.go (fun t kk => XS.icmpNo X.here hx rfl (hb hby d) rfl (XT.ii_ne_f q) kk) (kf q)
  · exact Wg.go (fun t kk => XS.icmpYes X.here hx rfl rfl (hb hby d) rfl (XT.ii_ne_t q) q1 q2 kk) (kt q)
theorem f_if_ne (X : Stand p l e R s m args below meth c T locs cells slots) (hx : p.tables.exec = Jvm.exec) (hby : c.code = bs) {x : Int32} (hd : Jm bs pc (.ifCond .ne o) o nx tg) (kt : ¬ x = 0 → Wg p e below G T (mkF m tg Ls st)) (kf : x = 0 → Wg p e below G T (mkF m nx Ls st)) : Wg p e below G T (mkF m pc Ls (.int x :: st)) := by
  obtain ⟨d, rfl, q1, q2⟩ := hd
  by_cases q : x = 0
  · exact Wg.go (fun t kk => XS.ifNo X.here hx rfl (hb hby d) rfl (XT.i0_ne_f q) kk) (kf q)
  · exact Wg.go (fun t kk => XS.ifYes X.here hx rfl rfl (hb hby d) rfl (XT.i0_ne_t q) q1 q2 kk) (kt q)
theorem f_lcmp_ne (X : Stand p l e R s m args below meth c T locs cells slots) (hx : p.tables.exec = Jvm.exec) (hby : c.code = bs) {x y : Int64} {n1 : Nat} (hc : In bs pc .lcmp 1 n1) (hd : Jm bs n1 (.ifCond .ne o) o nx tg) (kt : ¬ x = y → Wg p e below G T (mkF m tg Ls st)) (kf : x = y → Wg p e below G T (mkF m nx Ls st)) : Wg p e below G T (mkF m pc Ls (.long y :: .long x :: st)) := by
  obtain ⟨d1, rfl⟩ := hc; obtain ⟨d, rfl, q1, q2⟩ := hd
  refine Wg.go (fun t kk => XT.lcmp X.here hx rfl (hb hby d1) rfl kk) ?_
  by_cases q : x = y
  · exact Wg.go (fun t kk => XS.ifNo X.here hx rfl (hb hby d) rfl (XT.ll_ne_f q) kk) (kf q)
  · exact Wg.go (fun t kk => XS.ifYes X.here hx rfl rfl (hb hby d) rfl (XT.ll_ne_t q) q1 q2 kk) (kt q)
theorem f_icmp_lt (X : Stand p l e R s m args below meth c T locs cells slots) (hx : p.tables.exec = Jvm.exec) (hby : c.code = bs) {x y : Int32} (hd : Jm bs pc (.if_icmp .lt o) o nx tg) (kt : x < y → Wg p e below G T (mkF m tg Ls st)) (kf : ¬ x < y → Wg p e below G T (mkF m nx Ls st)) : Wg p e below G T (mkF m pc Ls (.int y :: .int x :: st)) := by
  obtain ⟨d, rfl, q1, q2⟩ := hd
  by_cases q : x < y
  · exact Wg.go (fun t kk => XS.icmpYes X.here hx rfl rfl (hb hby d) rfl (XT.ii_lt_t q) q1 q2 kk) (kt q)
  · exact Wg.go (fun t kk => XS.icmpNo X.here hx rfl (hb hby d) rfl (XT.ii_lt_f q) kk) (kf q)
theorem f_if_lt (X : Stand p l e R s m args below meth c T locs cells slots) (hx : p.tables.exec = Jvm.exec) (hby : c.code = bs) {x : Int32} (hd : Jm bs pc (.ifCond .lt o) o nx tg) (kt : x < 0 → Wg p e below G T (mkF m tg Ls st)) (kf : ¬ x < 0 → Wg p e below G T (mkF m nx Ls st)) : Wg p e below G T (mkF m pc Ls (.int x :: st)) := by
  obtain ⟨d, rfl, q1, q2⟩ := hd
  by_cases q : x < 0
  · exact Wg.go (fun t kk => XS.ifYes X.here hx rfl rfl (hb hby d) rfl (XT.i0_lt_t q) q1 q2 kk) (kt q)
  · exact Wg.go (fun t kk => XS.ifNo X.here hx rfl (hb hby d) rfl (XT.i0_lt_f q) kk) (kf q)
theorem f_lcmp_lt (X : Stand p l e R s m args below meth c T locs cells slots) (hx : p.tables.exec = Jvm.exec) (hby : c.code = bs) {x y : Int64} {n1 : Nat} (hc : In bs pc .lcmp 1 n1) (hd : Jm bs n1 (.ifCond .lt o) o nx tg) (kt : x < y → Wg p e below G T (mkF m tg Ls st)) (kf : ¬ x < y → Wg p e below G T (mkF m nx Ls st)) : Wg p e below G T (mkF m pc Ls (.long y :: .long x :: st)) := by
  obtain ⟨d1, rfl⟩ := hc; obtain ⟨d, rfl, q1, q2⟩ := hd
  refine Wg.go (fun t kk => XT.lcmp X.here hx rfl (hb hby d1) rfl kk) ?_
  by_cases q : x < y
  · exact Wg.go (fun t kk => XS.ifYes X.here hx rfl rfl (hb hby d) rfl (XT.ll_lt_t q) q1 q2 kk) (kt q)
  · exact Wg.go (fun t kk => XS.ifNo X.here hx rfl (hb hby d) rfl (XT.ll_lt_f q) kk) (kf q)
theorem f_icmp_ge (X : Stand p l e R s m args below meth c T locs cells slots) (hx : p.tables.exec = Jvm.exec) (hby : c.code = bs) {x y : Int32} (hd : Jm bs pc (.if_icmp .ge o) o nx tg) (kt : ¬ x < y → Wg p e below G T (mkF m tg Ls st)) (kf : x < y → Wg p e below G T (mkF m nx Ls st)) : Wg p e below G T (mkF m pc Ls (.int y :: .int x :: st)) := by
  obtain ⟨d, rfl, q1, q2⟩ := hd
  by_cases q : x < y
  · exact Wg.go (fun t kk => XS.icmpNo X.here hx rfl (hb hby d) rfl (XT.ii_ge_f q) kk) (kf q)
  · exact Wg.go (fun t kk => XS.icmpYes X.here hx rfl rfl (hb hby d) rfl (XT.ii_ge_t q) q1 q2 kk) (kt q)
theorem f_if_ge (X : Stand p l e R s m args below meth c T locs cells slots) (hx : p.tables.exec = Jvm.exec) (hby : c.code = bs) {x : Int32} (hd : Jm bs pc (.ifCond .ge o) o nx tg) (kt : ¬ x < 0 → Wg p e below G T (mkF m tg Ls st)) (kf : x < 0 → Wg p e below G T (mkF m nx Ls st)) : Wg p e below G T (mkF m pc Ls (.int x :: st)) := by
  obtain ⟨d, rfl, q1, q2⟩ := hd
  by_cases q : x < 0
  · exact Wg.go (fun t kk => XS.ifNo X.here hx rfl (hb hby d) rfl (XT.i0_ge_f q) kk) (kf q)
  · exact Wg.go (fun t kk => XS.ifYes X.here hx rfl rfl (hb hby d) rfl (XT.i0_ge_t q) q1 q2 kk) (kt q)
theorem f_lcmp_ge (X : Stand p l e R s m args below meth c T locs cells slots) (hx : p.tables.exec = Jvm.exec) (hby : c.code = bs) {x y : Int64} {n1 : Nat} (hc : In bs pc .lcmp 1 n1) (hd : Jm bs n1 (.ifCond .ge o) o nx tg) (kt : ¬ x < y → Wg p e below G T (mkF m tg Ls st)) (kf : x < y → Wg p e below G T (mkF m nx Ls st)) : Wg p e below G T (mkF m pc Ls (.long y :: .long x :: st)) := by
  obtain ⟨d1, rfl⟩ := hc; obtain ⟨d, rfl, q1, q2⟩ := hd
  refine Wg.go (fun t kk => XT.lcmp X.here hx rfl (hb hby d1) rfl kk) ?_
  by_cases q : x < y
  · exact Wg.go (fun t kk => XS.ifNo X.here hx rfl (hb hby d) rfl (XT.ll_ge_f q) kk) (kf q)
  · exact Wg.go (fun t kk => XS.ifYes X.here hx rfl rfl (hb hby d) rfl (XT.ll_ge_t q) q1 q2 kk) (kt q)
theorem f_icmp_gt (X : Stand p l e R s m args below meth c T locs cells slots) (hx : p.tables.exec = Jvm.exec) (hby : c.code = bs) {x y : Int32} (hd : Jm bs pc (.if_icmp .gt o) o nx tg) (kt : y < x → Wg p e below G T (mkF m tg Ls st)) (kf : ¬ y < x → Wg p e below G T (mkF m nx Ls st)) : Wg p e below G T (mkF m pc Ls (.int y :: .int x :: st)) := by
  obtain ⟨d, rfl, q1, q2⟩ := hd
  by_cases q : y < x
  · exact Wg.go (fun t kk => XS.icmpYes X.here hx rfl rfl (hb hby d) rfl (XT.ii_gt_t q) q1 q2 kk) (kt q)
  · exact Wg.go (fun t kk => XS.icmpNo X.here hx rfl (hb hby d) rfl (XT.ii_gt_f q) kk) (kf q)
theorem f_if_gt (X : Stand p l e R s m args below meth c T locs cells slots) (hx : p.tables.exec = Jvm.exec) (hby : c.code = bs) {x : Int32} (hd : Jm bs pc (.ifCond .gt o) o nx tg) (kt : 0 < x → Wg p e below G T (mkF m tg Ls st)) (kf : ¬ 0 < x → Wg p e below G T (mkF m nx Ls st)) : Wg p e below G T (mkF m pc Ls (.int x :: st)) := by
  obtain ⟨d, rfl, q1, q2⟩ := hd
  by_cases q : 0 < x
  · exact Wg.go (fun t kk => XS.ifYes X.here hx rfl rfl (hb hby d) rfl (XT.i0_gt_t q) q1 q2 kk) (kt q)
  · exact Wg.go (fun t kk => XS.ifNo X.here hx rfl (hb hby d) rfl (XT.i0_gt_f q) kk) (kf q)
theorem f_lcmp_gt (X : Stand p l e R s m args below meth c T locs cells slots) (hx : p.tables.exec = Jvm.exec) (hby : c.code = bs) {x y : Int64} {n1 : Nat} (hc : In bs pc .lcmp 1 n1) (hd : Jm bs n1 (.ifCond .gt o) o nx tg) (kt : y < x → Wg p e below G T (mkF m tg Ls st)) (kf : ¬ y < x → Wg p e below G T (mkF m nx Ls st)) : Wg p e below G T (mkF m pc Ls (.long y :: .long x :: st)) := by
  obtain ⟨d1, rfl⟩ := hc; obtain ⟨d, rfl, q1, q2⟩ := hd
  refine Wg.go (fun t kk => XT.lcmp X.here hx rfl (hb hby d1) rfl kk) ?_
  by_cases q : y < x
  · exact Wg.go (fun t kk => XS.ifYes X.here hx rfl rfl (hb hby d) rfl (XT.ll_gt_t q) q1 q2 kk) (kt q)
  · exact Wg.go (fun t kk => XS.ifNo X.here hx rfl (hb hby d) rfl (XT.ll_gt_f q) kk) (kf q)
theorem f_icmp_le (X : Stand p l e R s m args below meth c T locs cells slots) (hx : p.tables.exec = Jvm.exec) (hby : c.code = bs) {x y : Int32} (hd : Jm bs pc (.if_icmp .le o) o nx tg) (kt : ¬ y < x → Wg p e below G T (mkF m tg Ls st)) (kf : y < x → Wg p e below G T (mkF m nx Ls st)) : Wg p e below G T (mkF m pc Ls (.int y :: .int x :: st)) := by
  obtain ⟨d, rfl, q1, q2⟩ := hd
  by_cases q : y < x
  · exact Wg.go (fun t kk => XS.icmpNo X.here hx rfl (hb hby d) rfl (XT.ii_le_f q) kk) (kf q)
  · exact Wg.go (fun t kk => XS.icmpYes X.here hx rfl rfl (hb hby d) rfl (XT.ii_le_t q) q1 q2 kk) (kt q)
theorem f_if_le (X : Stand p l e R s m args below meth c T locs cells slots) (hx : p.tables.exec = Jvm.exec) (hby : c.code = bs) {x : Int32} (hd : Jm bs pc (.ifCond .le o) o nx tg) (kt : ¬ 0 < x → Wg p e below G T (mkF m tg Ls st)) (kf : 0 < x → Wg p e below G T (mkF m nx Ls st)) : Wg p e below G T (mkF m pc Ls (.int x :: st)) := by
  obtain ⟨d, rfl, q1, q2⟩ := hd
  by_cases q : 0 < x
  · exact Wg.go (fun t kk => XS.ifNo X.here hx rfl (hb hby d) rfl (XT.i0_le_f q) kk) (kf q)
  · exact Wg.go (fun t kk => XS.ifYes X.here hx rfl rfl (hb hby d) rfl (XT.i0_le_t q) q1 q2 kk) (kt q)
theorem f_lcmp_le (X : Stand p l e R s m args below meth c T locs cells slots) (hx : p.tables.exec = Jvm.exec) (hby : c.code = bs) {x y : Int64} {n1 : Nat} (hc : In bs pc .lcmp 1 n1) (hd : Jm bs n1 (.ifCond .le o) o nx tg) (kt : ¬ y < x → Wg p e below G T (mkF m tg Ls st)) (kf : y < x → Wg p e below G T (mkF m nx Ls st)) : Wg p e below G T (mkF m pc Ls (.long y :: .long x :: st)) := by
  obtain ⟨d1, rfl⟩ := hc; obtain ⟨d, rfl, q1, q2⟩ := hd
  refine Wg.go (fun t kk => XT.lcmp X.here hx rfl (hb hby d1) rfl kk) ?_
  by_cases q : y < x
  · exact Wg.go (fun t kk => XS.ifNo X.here hx rfl (hb hby d) rfl (XT.ll_le_f q) kk) (kf q)
  · exact Wg.go (fun t kk => XS.ifYes X.here hx rfl rfl (hb hby d) rfl (XT.ll_le_t q) q1 q2 kk) (kt q)
theorem f_acmp_eq (X : Stand p l e R s m args below meth c T locs cells slots) (hx : p.tables.exec = Jvm.exec) (hby : c.code = bs) {x y : Addr} (hd : Jm bs pc (.if_acmp .eq o) o nx tg) (kt : x = y → Wg p e below G T (mkF m tg Ls st)) (kf : ¬ x = y → Wg p e below G T (mkF m nx Ls st)) : Wg p e below G T (mkF m pc Ls (.ref y :: .ref x :: st)) := by
  obtain ⟨d, rfl, q1, q2⟩ := hd
  by_cases q : x = y
  · exact Wg.go (fun t kk => XT.acmpYes X.here hx rfl rfl (hb hby d) rfl rfl rfl (XT.aa_eq_t (congrArg Value.ref q)) q1 q2 kk) (kt q)
  · exact Wg.go (fun t kk => XT.acmpNo X.here hx rfl (hb hby d) rfl rfl rfl (XT.aa_eq_f (fun r => q (Value.ref.inj r))) kk) (kf q)
theorem f_acmpV_eq (X : Stand p l e R s m args below meth c T locs cells slots) (hx : p.tables.exec = Jvm.exec) (hby : c.code = bs) {x y : Value} (hx' : x.isRef = true) (hy' : y.isRef = true) (hd : Jm bs pc (.if_acmp .eq o) o nx tg) (kt : x = y → Wg p e below G T (mkF m tg Ls st)) (kf : ¬ x = y → Wg p e below G T (mkF m nx Ls st)) : Wg p e below G T (mkF m pc Ls (y :: x :: st)) := by
  obtain ⟨d, rfl, q1, q2⟩ := hd
  by_cases q : x = y
  · exact Wg.go (fun t kk => XT.acmpYes X.here hx rfl rfl (hb hby d) rfl hx' hy' (XT.aa_eq_t q) q1 q2 kk) (kt q)
  · exact Wg.go (fun t kk => XT.acmpNo X.here hx rfl (hb hby d) rfl hx' hy' (XT.aa_eq_f q) kk) (kf q)
theorem f_acmp_ne (X : Stand p l e R s m args below meth c T locs cells slots) (hx : p.tables.exec = Jvm.exec) (hby : c.code = bs) {x y : Addr} (hd : Jm bs pc (.if_acmp .ne o) o nx tg) (kt : ¬ x = y → Wg p e below G T (mkF m tg Ls st)) (kf : x = y → Wg p e below G T (mkF m nx Ls st)) : Wg p e below G T (mkF m pc Ls (.ref y :: .ref x :: st)) := by
  obtain ⟨d, rfl, q1, q2⟩ := hd
  by_cases q : x = y
  · exact Wg.go (fun t kk => XT.acmpNo X.here hx rfl (hb hby d) rfl rfl rfl (XT.aa_ne_f (congrArg Value.ref q)) kk) (kf q)
  · exact Wg.go (fun t kk => XT.acmpYes X.here hx rfl rfl (hb hby d) rfl rfl rfl (XT.aa_ne_t (fun r => q (Value.ref.inj r))) q1 q2 kk) (kt q)
theorem f_acmpV_ne (X : Stand p l e R s m args below meth c T locs cells slots) (hx : p.tables.exec = Jvm.exec) (hby : c.code = bs) {x y : Value} (hx' : x.isRef = true) (hy' : y.isRef = true) (hd : Jm bs pc (.if_acmp .ne o) o nx tg) (kt : ¬ x = y → Wg p e below G T (mkF m tg Ls st)) (kf : x = y → Wg p e below G T (mkF m nx Ls st)) : Wg p e below G T (mkF m pc Ls (y :: x :: st)) := by
  obtain ⟨d, rfl, q1, q2⟩ := hd
  by_cases q : x = y
  · exact Wg.go (fun t kk => XT.acmpNo X.here hx rfl (hb hby d) rfl hx' hy' (XT.aa_ne_f q) kk) (kf q)
  · exact Wg.go (fun t kk => XT.acmpYes X.here hx rfl rfl (hb hby d) rfl hx' hy' (XT.aa_ne_t q) q1 q2 kk) (kt q)
theorem w_lswHit (X : Stand p l e R s m args below meth c T locs cells slots) (hx : p.tables.exec = Jvm.exec) (hby : c.code = bs) {x : Int32} {df : Int} {ps : Array (Int × Int)} {len : Nat} {a off : Int} (hd : In bs pc (.lookupswitch df ps) len nx) (hs : (ps.toList.zip (ps.toList.drop 1)).all (fun (a, next) => a.1 < next.1) = true) (hf : ps.find? (·.1 == x.toInt) = some (a, off)) (ho : 0 ≤ (pc : Int) + off) (ht : ((pc : Int) + off).toNat = tg) (k : Wg p e below G T (mkF m tg Ls st)) : Wg p e below G T (mkF m pc Ls (.int x :: st)) := by
  obtain ⟨d, -⟩ := hd; subst ht; exact Wg.go (fun t kk => X.lookupswitchHit hx (g := mkF m pc Ls (.int x :: st)) rfl rfl (hb hby d) hs hf ho t kk) k
theorem w_lswMiss (X : Stand p l e R s m args below meth c T locs cells slots) (hx : p.tables.exec = Jvm.exec) (hby : c.code = bs) {x : Int32} {df : Int} {ps : Array (Int × Int)} {len : Nat} (hd : In bs pc (.lookupswitch df ps) len nx) (hs : (ps.toList.zip (ps.toList.drop 1)).all (fun (a, next) => a.1 < next.1) = true) (hf : ps.find? (·.1 == x.toInt) = none) (ho : 0 ≤ (pc : Int) + df) (ht : ((pc : Int) + df).toNat = tg) (k : Wg p e below G T (mkF m tg Ls st)) : Wg p e below G T (mkF m pc Ls (.int x :: st)) := by
  obtain ⟨d, -⟩ := hd; subst ht; exact Wg.go (fun t kk => X.lookupswitchMiss hx (g := mkF m pc Ls (.int x :: st)) rfl rfl (hb hby d) hs hf ho t kk) k
theorem w_tswIn (X : Stand p l e R s m args below meth c T locs cells slots) (hx : p.tables.exec = Jvm.exec) (hby : c.code = bs) {x : Int32} {df lo hi : Int} {os : Array Int} {len : Nat} {off : Int} (hd : In bs pc (.tableswitch df lo hi os) len nx) (hin : ¬ (x.toInt < lo ∨ x.toInt > hi)) (hoff : os[(x.toInt - lo).toNat]? = some off) (ho : 0 ≤ (pc : Int) + off) (ht : ((pc : Int) + off).toNat = tg) (k : Wg p e below G T (mkF m tg Ls st)) : Wg p e below G T (mkF m pc Ls (.int x :: st)) := by
  obtain ⟨d, -⟩ := hd; exact Wg.go (fun t kk => XS.tswIn X.here hx rfl rfl (hb hby d) rfl hin hoff ho ht kk) k
theorem w_tswOut (X : Stand p l e R s m args below meth c T locs cells slots) (hx : p.tables.exec = Jvm.exec) (hby : c.code = bs) {x : Int32} {df lo hi : Int} {os : Array Int} {len : Nat} (hd : In bs pc (.tableswitch df lo hi os) len nx) (hout : x.toInt < lo ∨ x.toInt > hi) (ho : 0 ≤ (pc : Int) + df) (ht : ((pc : Int) + df).toNat = tg) (k : Wg p e below G T (mkF m tg Ls st)) : Wg p e below G T (mkF m pc Ls (.int x :: st)) := by
  obtain ⟨d, -⟩ := hd; exact Wg.go (fun t kk => XS.tswOut X.here hx rfl rfl (hb hby d) rfl hout ho ht kk) k
theorem own_ne32 {x z : Int32} {i : Int} (h : ¬ x = z) (hz : z.toInt = i) : i ≠ x.toInt := fun q => h (Int32.toInt_inj.mp (by rw [hz, q]))
theorem w_ifnonnullRef (X : Stand p l e R s m args below meth c T locs cells slots) (hx : p.tables.exec = Jvm.exec) (hby : c.code = bs) {a : Addr} (hd : Jm bs pc (.ifnonnull o) o nx tg) (k : Wg p e below G T (mkF m tg Ls st)) : Wg p e below G T (mkF m pc Ls (.ref a :: st)) := by
  obtain ⟨d, -, q1, q2⟩ := hd; exact Wg.go (fun t kk => XS.ifnonnullYes X.here hx rfl rfl (hb hby d) rfl q1 q2 kk) k
theorem w_ifnonnullNull (X : Stand p l e R s m args below meth c T locs cells slots) (hx : p.tables.exec = Jvm.exec) (hby : c.code = bs) (hd : Jm bs pc (.ifnonnull o) o nx tg) (k : Wg p e below G T (mkF m nx Ls st)) : Wg p e below G T (mkF m pc Ls (.null :: st)) := by
  obtain ⟨d, rfl, q1, q2⟩ := hd; exact Wg.go (fun t kk => XS.ifnonnullNo X.here hx rfl (hb hby d) rfl kk) k
theorem w_ifnullRef (X : Stand p l e R s m args below meth c T locs cells slots) (hx : p.tables.exec = Jvm.exec) (hby : c.code = bs) {a : Addr} (hd : Jm bs pc (.ifnull o) o nx tg) (k : Wg p e below G T (mkF m nx Ls st)) : Wg p e below G T (mkF m pc Ls (.ref a :: st)) := by
  obtain ⟨d, rfl, q1, q2⟩ := hd; exact Wg.go (fun t kk => XS.ifnullNo X.here hx rfl (hb hby d) rfl kk) k
theorem w_ifnullNull (X : Stand p l e R s m args below meth c T locs cells slots) (hx : p.tables.exec = Jvm.exec) (hby : c.code = bs) (hd : Jm bs pc (.ifnull o) o nx tg) (k : Wg p e below G T (mkF m tg Ls st)) : Wg p e below G T (mkF m pc Ls (.null :: st)) := by
  obtain ⟨d, -, q1, q2⟩ := hd; exact Wg.go (fun t kk => XS.ifnullYes X.here hx rfl rfl (hb hby d) rfl q1 q2 kk) k
theorem w_ldcI (X : Stand p l e R s m args below meth c T locs cells slots) (hx : p.tables.exec = Jvm.exec) (hby : c.code = bs) (hZ : Z.Warmed39 s.vm) {own : String} (hown : s.vm.findClass own = some m.cls) {index : Nat} {v : Int32} (w : (Cond.constant own index v).before a0 Z = true) (hd : In bs pc (.ldc index) 2 nx) (k : Wg p e below G T (mkF m nx Ls (.int v :: st))) : Wg p e below G T (mkF m pc Ls st) := by
  obtain ⟨d, rfl⟩ := hd; exact Wg.go (fun t kk => X.ldcInt hx hown (mvT hZ w) (g := mkF m pc Ls st) rfl (hb hby d) t kk) k
theorem w_ldcwI (X : Stand p l e R s m args below meth c T locs cells slots) (hx : p.tables.exec = Jvm.exec) (hby : c.code = bs) (hZ : Z.Warmed39 s.vm) {own : String} (hown : s.vm.findClass own = some m.cls) {index : Nat} {v : Int32} (w : (Cond.constant own index v).before a0 Z = true) (hd : In bs pc (.ldc_w index) 3 nx) (k : Wg p e below G T (mkF m nx Ls (.int v :: st))) : Wg p e below G T (mkF m pc Ls st) := by
  obtain ⟨d, rfl⟩ := hd; exact Wg.go (fun t kk => X.ldcWI hx hown (mvT hZ w) (g := mkF m pc Ls st) rfl (hb hby d) kk) k
theorem w_ldc2J (X : Stand p l e R s m args below meth c T locs cells slots) (hx : p.tables.exec = Jvm.exec) (hby : c.code = bs) (hZ : Z.Warmed39 s.vm) {own : String} (hown : s.vm.findClass own = some m.cls) {index : Nat} {v : Int64} (w : (Cond.constantLong own index v).before a0 Z = true) (hd : In bs pc (.ldc2_w index) 3 nx) (k : Wg p e below G T (mkF m nx Ls (.long v :: st))) : Wg p e below G T (mkF m pc Ls st) := by
  obtain ⟨d, rfl⟩ := hd; exact Wg.go (fun t kk => X.ldc2Long hx hown (mvT hZ w) (g := mkF m pc Ls st) rfl (hb hby d) t kk) k
theorem w_getS (X : Stand p l e R s m args below meth c T locs cells slots) (hx : p.tables.exec = Jvm.exec) (hby : c.code = bs) (hZ : Z.Warmed39 s.vm) {own : String} (hown : s.vm.findClass own = some m.cls) {R0 C n d host : String} {index : Nat} (w : (Cond.fieldLink own index R0 n d).before a0 Z = true ∨ (Cond.fieldLinkNest own index R0 n d host).before a0 Z = true) (via : Via Z R0 C n d) (eT : T.heap = h) {v : Value} (F : Sta Z h C n d v) (hd : In bs pc (.getstatic index) 3 nx) (k : ∀ T', Stand p l e R s m args below meth c T' locs cells slots → T'.heap = h → Wg p e below G T' (mkF m nx Ls (v :: st))) : Wg p e below G T (mkF m pc Ls st) := by
  obtain ⟨d, rfl⟩ := hd; obtain ⟨T', X', e', st'⟩ := getS2 X hx hZ hown w via eT F (g := mkF m pc Ls st) rfl (hb hby d); exact Wg.go st' (k T' X' e')
theorem w_getF (X : Stand p l e R s m args below meth c T locs cells slots) (hx : p.tables.exec = Jvm.exec) (hby : c.code = bs) (hZ : Z.Warmed39 s.vm) {own : String} (hown : s.vm.findClass own = some m.cls) {R0 C n d host : String} {index : Nat} (w : (Cond.fieldLink own index R0 n d).before a0 Z = true ∨ (Cond.fieldLinkNest own index R0 n d host).before a0 Z = true) (via : Via Z R0 C n d) (eT : T.heap = h) {a : Addr} {v : Value} (F : Fld Z h a C n d v) (hd : In bs pc (.getfield index) 3 nx) (k : ∀ T', Stand p l e R s m args below meth c T' locs cells slots → T'.heap = h → Wg p e below G T' (mkF m nx Ls (v :: st))) : Wg p e below G T (mkF m pc Ls (.ref a :: st)) := by
  obtain ⟨d, rfl⟩ := hd; obtain ⟨T', X', e', st'⟩ := getF X hx hZ hown w via eT F (g := mkF m pc Ls (.ref a :: st)) rfl rfl (hb hby d); exact Wg.go st' (k T' X' e')
theorem w_putF (X : Stand p l e R s m args below meth c T locs cells slots) (hx : p.tables.exec = Jvm.exec) (hby : c.code = bs) (hZ : Z.Warmed39 s.vm) {own : String} (hown : s.vm.findClass own = some m.cls) {R0 C n d host D : String} {index kk : Nat} {ty : FieldType} (w : (Cond.fieldLink own index R0 n d).before a0 Z = true ∨ (Cond.fieldLinkNest own index R0 n d host).before a0 Z = true) (via : Via Z R0 C n d) (eT : T.heap = h) {a : Addr} {v old : Value} (F : Fld Z h a C n d old) (E : Exa Z h a D) (Lw : (Cond.lays D C n d).before a0 Z = true ∨ ((Cond.laysFinal D C n d).before a0 Z = true ∧ own = C ∧ meth.name = "<init>")) (wi : (Cond.instantiable D kk).before a0 Z = true) (hty : parseFieldDescriptor d = some ty) (hn : narrow ty v = v) (hf : fits ty v = true) (hd : In bs pc (.putfield index) 3 nx) (k : ∀ T' h', Stand p l e R s m args below meth c T' (locs ++ [⟨a, Jvm.RoadKit.slotOf Z C n d⟩]) cells slots → T'.heap = h' → Wr h h' a (Jvm.RoadKit.slotOf Z C n d) v → Wg p e below G T' (mkF m nx Ls st)) : Wg p e below G T (mkF m pc Ls (v :: .ref a :: st)) := by
  obtain ⟨d, rfl⟩ := hd; obtain ⟨T', h', X', e', W', st'⟩ := putF X hx hZ hown w via eT F E Lw wi hty hn hf (g := mkF m pc Ls (v :: .ref a :: st)) rfl rfl (hb hby d); exact Wg.go st' (k T' h' X' e' W')
theorem w_putFN (X : Stand p l e R s m args below meth c T locs cells slots) (hx : p.tables.exec = Jvm.exec) (hby : c.code = bs) (hZ : Z.Warmed39 s.vm) {own : String} (hown : s.vm.findClass own = some m.cls) {R0 C n d D : String} {index kk : Nat} {ty : FieldType} (w : (Cond.fieldLink own index R0 n d).before a0 Z = true) (via : Via Z R0 C n d) (eT : T.heap = h) {a : Addr} {v v' old : Value} (F : Fld Z h a C n d old) (E : Exa Z h a D) (Lw : (Cond.lays D C n d).before a0 Z = true ∨ ((Cond.laysFinal D C n d).before a0 Z = true ∧ own = C ∧ meth.name = "<init>")) (wi : (Cond.instantiable D kk).before a0 Z = true) (hty : parseFieldDescriptor d = some ty) (hn : narrow ty v = v') (hf : fits ty v' = true) (hd : In bs pc (.putfield index) 3 nx) (k : ∀ T' h', Stand p l e R s m args below meth c T' (locs ++ [⟨a, Jvm.RoadKit.slotOf Z C n d⟩]) cells slots → T'.heap = h' → Wr h h' a (Jvm.RoadKit.slotOf Z C n d) v' → Wg p e below G T' (mkF m nx Ls st)) : Wg p e below G T (mkF m pc Ls (v :: .ref a :: st)) := by
  obtain ⟨d, rfl⟩ := hd; obtain ⟨T', h', X', e', W', st'⟩ := putFN X hx hZ hown w via eT F E Lw wi hty hn hf (g := mkF m pc Ls (v :: .ref a :: st)) rfl rfl (hb hby d); exact Wg.go st' (k T' h' X' e' W')
theorem w_newO (X : Stand p l e R s m args below meth c T locs cells slots) (hx : p.tables.exec = Jvm.exec) (hby : c.code = bs) (hZ : Z.Warmed39 s.vm) {own : String} (hown : s.vm.findClass own = some m.cls) {C : String} {index n : Nat} (w : (Cond.classLink own index C).before a0 Z = true) (wi : (Cond.instantiable C n).before a0 Z = true) (wz : (Cond.initialized C).before a0 Z = true) (eT : T.heap = h) (hd : In bs pc (.new index) 3 nx) (hc : cells + 1 ≤ R.cells) (hl : slots + n ≤ R.slots) (k : ∀ T' h' a, a = h.size → Stand p l e R s m args below meth c T' locs (cells + 1) (slots + n) → T'.heap = h' → Ext h h' → Exa Z h' a C → (∀ {D nm d : String} {ty : FieldType}, Laid Z a0 C D nm d → parseFieldDescriptor d = some ty → Fld Z h' a D nm d (defaultValue ty)) → Wg p e below G T' (mkF m nx Ls (.ref a :: st))) : Wg p e below G T (mkF m pc Ls st) := by
  obtain ⟨d, rfl⟩ := hd; obtain ⟨T', h', X', e', E', A', D', -, st'⟩ := newO X hx hZ hown w wi wz eT (g := mkF m pc Ls st) rfl (hb hby d) hc hl; exact Wg.go st' (k T' h' _ rfl X' e' E' A' D')
theorem w_newP (X : Stand p l e R s m args below meth c T locs cells slots) (hx : p.tables.exec = Jvm.exec) (hby : c.code = bs) (hZ : Z.Warmed39 s.vm) {aty : ArrayType} (w : (Cond.arrayClass (newarray.typeOf aty)).before a0 Z = true) (eT : T.heap = h) {n : Int32} (hd : In bs pc (.newarray aty) 2 nx) (hn : ¬ n < 0) (cap : Nat) (hcap : n.toNatClampNeg ≤ cap) (hbig : cap * 8 ≤ 536870912) (hc : cells + 1 ≤ R.cells) (hl : slots + cap ≤ R.slots) (k : ∀ T' h' a kA, a = h.size → Stand p l e R s m args below meth c T' locs (cells + 1) (slots + cap) → T'.heap = h' → Ext h h' → Arr Z h' a (newA kA (newarray.typeOf aty) n) (newarray.typeOf aty) → Wg p e below G T' (mkF m nx Ls (.ref a :: st))) : Wg p e below G T (mkF m pc Ls (.int n :: st)) := by
  obtain ⟨d, rfl⟩ := hd; obtain ⟨T', h', kA, X', e', E', A', st'⟩ := newP X hx hZ w eT (g := mkF m pc Ls (.int n :: st)) rfl (hb hby d) rfl hn hcap hbig hc hl; exact Wg.go st' (k T' h' _ kA rfl X' e' E' A')
theorem w_newPE (X : Stand p l e R s m args below meth c T locs cells slots) (hx : p.tables.exec = Jvm.exec) (hby : c.code = bs) (hZ : Z.Warmed39 s.vm) {aty : ArrayType} (w : (Cond.arrayClass (newarray.typeOf aty)).before a0 Z = true) (eT : T.heap = h) {n : Int32} (hd : In bs pc (.newarray aty) 2 nx) (hn : ¬ n < 0) (cap : Nat) (hcap : n.toNatClampNeg ≤ cap) (hbig : cap * 8 ≤ 536870912) (hc : cells + 1 ≤ R.cells) (hl : slots + cap ≤ R.slots) (ad : String) (had : "[" ++ (newarray.typeOf aty).toString = ad) (k : ∀ T' h' a kA, a = h.size → Stand p l e R s m args below meth c T' locs (cells + 1) (slots + cap) → T'.heap = h' → Ext h h' → Arr Z h' a (newA kA (newarray.typeOf aty) n) (newarray.typeOf aty) → Exa Z h' a ad → Wg p e below G T' (mkF m nx Ls (.ref a :: st))) : Wg p e below G T (mkF m pc Ls (.int n :: st)) := by
  obtain ⟨d, rfl⟩ := hd; obtain ⟨T', h', kA, X', e', E', A', I', st'⟩ := newPE X hx hZ w eT (g := mkF m pc Ls (.int n :: st)) rfl (hb hby d) rfl hn hcap hbig hc hl had; exact Wg.go st' (k T' h' _ kA rfl X' e' E' A' I')
theorem w_newRA (X : Stand p l e R s m args below meth c T locs cells slots) (hx : p.tables.exec = Jvm.exec) (hby : c.code = bs) (hZ : Z.Warmed39 s.vm) {own : String} (hown : s.vm.findClass own = some m.cls) {C : String} {ty : FieldType} {index : Nat} (hC : (FieldType.array ty).toString = C) (w1 : (Cond.classLink own index C).before a0 Z = true) (w2 : (Cond.arrayOver (.array ty)).before a0 Z = true) (eT : T.heap = h) {n : Int32} (hd : In bs pc (.anewarray index) 3 nx) (hn : ¬ n < 0) (cap : Nat) (hcap : n.toNatClampNeg ≤ cap) (hbig : cap * 8 ≤ 536870912) (hc : cells + 1 ≤ R.cells) (hl : slots + cap ≤ R.slots) (k : ∀ T' h' a kA, a = h.size → Stand p l e R s m args below meth c T' locs (cells + 1) (slots + cap) → T'.heap = h' → Ext h h' → Arr Z h' a (newA kA (.array ty) n) (.array ty) → OvrA Z kA ty C → Wg p e below G T' (mkF m nx Ls (.ref a :: st))) : Wg p e below G T (mkF m pc Ls (.int n :: st)) := by
  obtain ⟨d, rfl⟩ := hd; obtain ⟨T', h', kA, X', e', E', A', -, O', st'⟩ := newRA X hx hZ hown hC w1 w2 eT (g := mkF m pc Ls (.int n :: st)) rfl (hb hby d) rfl hn hcap hbig hc hl rfl; exact Wg.go st' (k T' h' _ kA rfl X' e' E' A' O')
theorem w_newR (X : Stand p l e R s m args below meth c T locs cells slots) (hx : p.tables.exec = Jvm.exec) (hby : c.code = bs) (hZ : Z.Warmed39 s.vm) {own : String} (hown : s.vm.findClass own = some m.cls) {C : String} {index : Nat} (w1 : (Cond.classLink own index C).before a0 Z = true) (w2 : (Cond.arrayOver (.object C)).before a0 Z = true) (eT : T.heap = h) {n : Int32} (hd : In bs pc (.anewarray index) 3 nx) (hn : ¬ n < 0) (cap : Nat) (hcap : n.toNatClampNeg ≤ cap) (hbig : cap * 8 ≤ 536870912) (hc : cells + 1 ≤ R.cells) (hl : slots + cap ≤ R.slots) (k : ∀ T' h' a kA, a = h.size → Stand p l e R s m args below meth c T' locs (cells + 1) (slots + cap) → T'.heap = h' → Ext h h' → Arr Z h' a (newA kA (.object C) n) (.object C) → Ovr Z kA C → Wg p e below G T' (mkF m nx Ls (.ref a :: st))) : Wg p e below G T (mkF m pc Ls (.int n :: st)) := by
  obtain ⟨d, rfl⟩ := hd; obtain ⟨T', h', kA, X', e', E', A', O', st'⟩ := newR X hx hZ hown w1 w2 eT (g := mkF m pc Ls (.int n :: st)) rfl (hb hby d) rfl hn hcap hbig hc hl; exact Wg.go st' (k T' h' _ kA rfl X' e' E' A' O')
theorem w_stI (X : Stand p l e R s m args below meth c T locs cells slots) (hx : p.tables.exec = Jvm.exec) (hby : c.code = bs) (hZ : Z.Warmed39 s.vm) (eT : T.heap = h) {a : Addr} {cl : Cell} (A : Arr Z h a cl .int) {j : Int32} {x : Int32} (hj : ¬ (j < 0 ∨ cl.slots.size ≤ j.toNatClampNeg)) (hd : In bs pc .iastore 1 nx) (k : ∀ T' h', Stand p l e R s m args below meth c T' (locs ++ [⟨a, j.toNatClampNeg⟩]) cells slots → T'.heap = h' → Wr h h' a j.toNatClampNeg (.int x) → Wg p e below G T' (mkF m nx Ls st)) : Wg p e below G T (mkF m pc Ls (.int x :: .int j :: .ref a :: st)) := by
  obtain ⟨d, rfl⟩ := hd; obtain ⟨T', h', X', e', W', st'⟩ := stI X hx hZ eT A hj (g := mkF m pc Ls (.int x :: .int j :: .ref a :: st)) rfl rfl (hb hby d); exact Wg.go st' (k T' h' X' e' W')
theorem w_stJ (X : Stand p l e R s m args below meth c T locs cells slots) (hx : p.tables.exec = Jvm.exec) (hby : c.code = bs) (hZ : Z.Warmed39 s.vm) (eT : T.heap = h) {a : Addr} {cl : Cell} (A : Arr Z h a cl .long) {j : Int32} {x : Int64} (hj : ¬ (j < 0 ∨ cl.slots.size ≤ j.toNatClampNeg)) (hd : In bs pc .lastore 1 nx) (k : ∀ T' h', Stand p l e R s m args below meth c T' (locs ++ [⟨a, j.toNatClampNeg⟩]) cells slots → T'.heap = h' → Wr h h' a j.toNatClampNeg (.long x) → Wg p e below G T' (mkF m nx Ls st)) : Wg p e below G T (mkF m pc Ls (.long x :: .int j :: .ref a :: st)) := by
  obtain ⟨d, rfl⟩ := hd; obtain ⟨T', h', X', e', W', st'⟩ := stJ X hx hZ eT A hj (g := mkF m pc Ls (.long x :: .int j :: .ref a :: st)) rfl rfl (hb hby d); exact Wg.go st' (k T' h' X' e' W')
theorem w_stC (X : Stand p l e R s m args below meth c T locs cells slots) (hx : p.tables.exec = Jvm.exec) (hby : c.code = bs) (hZ : Z.Warmed39 s.vm) (eT : T.heap = h) {a : Addr} {cl : Cell} (A : Arr Z h a cl .char) {j : Int32} {x : Int32} (hj : ¬ (j < 0 ∨ cl.slots.size ≤ j.toNatClampNeg)) (hd : In bs pc .castore 1 nx) (k : ∀ T' h', Stand p l e R s m args below meth c T' (locs ++ [⟨a, j.toNatClampNeg⟩]) cells slots → T'.heap = h' → Wr h h' a j.toNatClampNeg (.int (nar .char x)) → Wg p e below G T' (mkF m nx Ls st)) : Wg p e below G T (mkF m pc Ls (.int x :: .int j :: .ref a :: st)) := by
  obtain ⟨d, rfl⟩ := hd; obtain ⟨T', h', X', e', W', st'⟩ := stC X hx hZ eT A hj (g := mkF m pc Ls (.int x :: .int j :: .ref a :: st)) rfl rfl (hb hby d); exact Wg.go st' (k T' h' X' e' W')
theorem w_stB (X : Stand p l e R s m args below meth c T locs cells slots) (hx : p.tables.exec = Jvm.exec) (hby : c.code = bs) (hZ : Z.Warmed39 s.vm) (eT : T.heap = h) {a : Addr} {cl : Cell} (A : Arr Z h a cl .byte) {j : Int32} {x : Int32} (hj : ¬ (j < 0 ∨ cl.slots.size ≤ j.toNatClampNeg)) (hd : In bs pc .bastore 1 nx) (k : ∀ T' h', Stand p l e R s m args below meth c T' (locs ++ [⟨a, j.toNatClampNeg⟩]) cells slots → T'.heap = h' → Wr h h' a j.toNatClampNeg (.int (nar .byte x)) → Wg p e below G T' (mkF m nx Ls st)) : Wg p e below G T (mkF m pc Ls (.int x :: .int j :: .ref a :: st)) := by
  obtain ⟨d, rfl⟩ := hd; obtain ⟨T', h', X', e', W', st'⟩ := stB X hx hZ eT A hj (g := mkF m pc Ls (.int x :: .int j :: .ref a :: st)) rfl rfl (hb hby d); exact Wg.go st' (k T' h' X' e' W')
theorem w_stZ (X : Stand p l e R s m args below meth c T locs cells slots) (hx : p.tables.exec = Jvm.exec) (hby : c.code = bs) (hZ : Z.Warmed39 s.vm) (eT : T.heap = h) {a : Addr} {cl : Cell} (A : Arr Z h a cl .boolean) {j : Int32} {x : Int32} (hj : ¬ (j < 0 ∨ cl.slots.size ≤ j.toNatClampNeg)) (hd : In bs pc .bastore 1 nx) (k : ∀ T' h', Stand p l e R s m args below meth c T' (locs ++ [⟨a, j.toNatClampNeg⟩]) cells slots → T'.heap = h' → Wr h h' a j.toNatClampNeg (.int (nar .boolean x)) → Wg p e below G T' (mkF m nx Ls st)) : Wg p e below G T (mkF m pc Ls (.int x :: .int j :: .ref a :: st)) := by
  obtain ⟨d, rfl⟩ := hd; obtain ⟨T', h', X', e', W', st'⟩ := stZ X hx hZ eT A hj (g := mkF m pc Ls (.int x :: .int j :: .ref a :: st)) rfl rfl (hb hby d); exact Wg.go st' (k T' h' X' e' W')
theorem w_stR (X : Stand p l e R s m args below meth c T locs cells slots) (hx : p.tables.exec = Jvm.exec) (hby : c.code = bs) (hZ : Z.Warmed39 s.vm) (eT : T.heap = h) {a : Addr} {cl : Cell} {ty : FieldType} (A : Arr Z h a cl ty) {j : Int32} {v : Value} (hj : ¬ (j < 0 ∨ cl.slots.size ≤ j.toNatClampNeg)) (hty : ty.isReference = true) (F : Sto Z h a v) (hd : In bs pc .aastore 1 nx) (k : ∀ T' h', Stand p l e R s m args below meth c T' (locs ++ [⟨a, j.toNatClampNeg⟩]) cells slots → T'.heap = h' → Wr h h' a j.toNatClampNeg v → Wg p e below G T' (mkF m nx Ls st)) : Wg p e below G T (mkF m pc Ls (v :: .int j :: .ref a :: st)) := by
  obtain ⟨d, rfl⟩ := hd; obtain ⟨T', h', X', e', W', st'⟩ := stR X hx hZ eT A hj hty F (g := mkF m pc Ls (v :: .int j :: .ref a :: st)) rfl rfl (hb hby d); exact Wg.go st' (k T' h' X' e' W')
theorem w_iaload (X : Stand p l e R s m args below meth c T locs cells slots) (hx : p.tables.exec = Jvm.exec) (hby : c.code = bs) (hZ : Z.Warmed39 s.vm) (eT : T.heap = h) {a : Addr} {cl : Cell} (A : Arr Z h a cl .int) {j : Int32} {v : Value} (hj : ¬ (j < 0 ∨ cl.slots.size ≤ j.toNatClampNeg)) (hv : cl.slots[j.toNatClampNeg]? = some v) (hd : In bs pc .iaload 1 nx) (k : Wg p e below G T (mkF m nx Ls (v :: st))) : Wg p e below G T (mkF m pc Ls (.int j :: .ref a :: st)) := by
  obtain ⟨d, rfl⟩ := hd; exact Wg.go (fun t kk => X.iaload hx (by rw [eT]; exact A.1) (State.isArrayOf_alike hZ.alike A.2.1) A.2.2 hj hv (g := mkF m pc Ls (.int j :: .ref a :: st)) rfl rfl (hb hby d) t kk) k
theorem w_laload (X : Stand p l e R s m args below meth c T locs cells slots) (hx : p.tables.exec = Jvm.exec) (hby : c.code = bs) (hZ : Z.Warmed39 s.vm) (eT : T.heap = h) {a : Addr} {cl : Cell} (A : Arr Z h a cl .long) {j : Int32} {v : Value} (hj : ¬ (j < 0 ∨ cl.slots.size ≤ j.toNatClampNeg)) (hv : cl.slots[j.toNatClampNeg]? = some v) (hd : In bs pc .laload 1 nx) (k : Wg p e below G T (mkF m nx Ls (v :: st))) : Wg p e below G T (mkF m pc Ls (.int j :: .ref a :: st)) := by
  obtain ⟨d, rfl⟩ := hd; exact Wg.go (fun t kk => X.laload hx (by rw [eT]; exact A.1) (State.isArrayOf_alike hZ.alike A.2.1) A.2.2 hj hv (g := mkF m pc Ls (.int j :: .ref a :: st)) rfl rfl (hb hby d) t kk) k
theorem w_caload (X : Stand p l e R s m args below meth c T locs cells slots) (hx : p.tables.exec = Jvm.exec) (hby : c.code = bs) (hZ : Z.Warmed39 s.vm) (eT : T.heap = h) {a : Addr} {cl : Cell} (A : Arr Z h a cl .char) {j : Int32} {v : Value} (hj : ¬ (j < 0 ∨ cl.slots.size ≤ j.toNatClampNeg)) (hv : cl.slots[j.toNatClampNeg]? = some v) (hd : In bs pc .caload 1 nx) (k : Wg p e below G T (mkF m nx Ls (v :: st))) : Wg p e below G T (mkF m pc Ls (.int j :: .ref a :: st)) := by
  obtain ⟨d, rfl⟩ := hd; exact Wg.go (fun t kk => X.caload hx (by rw [eT]; exact A.1) (State.isArrayOf_alike hZ.alike A.2.1) A.2.2 hj hv (g := mkF m pc Ls (.int j :: .ref a :: st)) rfl rfl (hb hby d) t kk) k
theorem w_baload (X : Stand p l e R s m args below meth c T locs cells slots) (hx : p.tables.exec = Jvm.exec) (hby : c.code = bs) (hZ : Z.Warmed39 s.vm) (eT : T.heap = h) {a : Addr} {cl : Cell} (A : Arr Z h a cl .byte) {j : Int32} {v : Value} (hj : ¬ (j < 0 ∨ cl.slots.size ≤ j.toNatClampNeg)) (hv : cl.slots[j.toNatClampNeg]? = some v) (hd : In bs pc .baload 1 nx) (k : Wg p e below G T (mkF m nx Ls (v :: st))) : Wg p e below G T (mkF m pc Ls (.int j :: .ref a :: st)) := by
  obtain ⟨d, rfl⟩ := hd; exact Wg.go (fun t kk => X.baloadBytes hx (by rw [eT]; exact A.1) (State.isArrayOf_alike hZ.alike A.2.1) A.2.2 hj hv (g := mkF m pc Ls (.int j :: .ref a :: st)) rfl rfl (hb hby d) t kk) k
theorem w_aaload (X : Stand p l e R s m args below meth c T locs cells slots) (hx : p.tables.exec = Jvm.exec) (hby : c.code = bs) (hZ : Z.Warmed39 s.vm) (eT : T.heap = h) {a : Addr} {cl : Cell} {ty : FieldType} (A : Arr Z h a cl ty) (hty : ty.isReference = true) {j : Int32} {v : Value} (hj : ¬ (j < 0 ∨ cl.slots.size ≤ j.toNatClampNeg)) (hv : cl.slots[j.toNatClampNeg]? = some v) (hd : In bs pc .aaload 1 nx) (k : Wg p e below G T (mkF m nx Ls (v :: st))) : Wg p e below G T (mkF m pc Ls (.int j :: .ref a :: st)) := by
  obtain ⟨d, rfl⟩ := hd; exact Wg.go (fun t kk => X.aaload hx (by rw [eT]; exact A.1) (State.isArrayOf_alike hZ.alike A.2.1) hty A.2.2 hj hv (g := mkF m pc Ls (.int j :: .ref a :: st)) rfl rfl (hb hby d) t kk) k
theorem w_arraylength (X : Stand p l e R s m args below meth c T locs cells slots) (hx : p.tables.exec = Jvm.exec) (hby : c.code = bs) (hZ : Z.Warmed39 s.vm) (eT : T.heap = h) {a : Addr} {cl : Cell} {ty : FieldType} (A : Arr Z h a cl ty) {z : Int32} (hz : cl.slots.size.toInt32 = z) (hd : In bs pc .arraylength 1 nx) (k : Wg p e below G T (mkF m nx Ls (.int z :: st))) : Wg p e below G T (mkF m pc Ls (.ref a :: st)) := by
  obtain ⟨d, rfl⟩ := hd; subst hz; exact Wg.go (fun t kk => X.arraylength hx (by rw [eT]; exact A.1) (State.isArrayOf_alike hZ.alike A.2.1) (g := mkF m pc Ls (.ref a :: st)) rfl rfl (hb hby d) t kk) k
theorem w_initO (X : Stand p l e R s m args below meth c T locs cells slots) (hx : p.tables.exec = Jvm.exec) (hby : c.code = bs) (hZ : Z.Warmed39 s.vm) {own : String} (hown : s.vm.findClass own = some m.cls) (hml : Ls.size = c.maxLocals) {idx : Nat} (w1 : (Cond.methodLink own idx Lib.objectInit).before a0 Z = true) (w2 : (Cond.instanceMethod Lib.objectInit).before a0 Z = true) (w3 : (Cond.code Lib.objectInit ⟨#[0xb1]⟩ 1 none).before a0 Z = true) (eT : T.heap = h) {a : Addr} (hd : In bs pc (.invokespecial idx) 3 nx) (hf : 1 ≤ R.frames) {Wd : Nat} (hW : (st.map fun v => v.category).sum = Wd) (hl : Wd + 12 ≤ R.locals) (k : ∀ T', Stand p l e R s m args below meth c T' locs cells slots → T'.heap = h → Wg p e below G T' (mkF m nx Ls st)) : Wg p e below G T (mkF m pc Ls (.ref a :: st)) := by
  obtain ⟨d, rfl⟩ := hd; obtain ⟨T', X', e', st'⟩ := initO X hx hZ hown w1 w2 w3 eT (g := mkF m pc Ls (.ref a :: st)) rfl hml rfl (hb hby d) hf (W := Wd) (by show 2 * 0 + _ ≤ _; omega) hl; exact Wg.go st' (k T' X' e')
/-- a body's contract: called on as' at the heap h it returns as Q says, within the room rm -/
def Con (l : Launch) (Z : State) (y : MethodName) (bs : ByteArray) (ml : Nat) (rt : Option FieldType) (rm : Room) (as' : Array Value) (h : Heap) (Q : Option Value → Heap → List Loc → Prop) : Prop :=
  ∀ ws : List Jvm.Cond, MetFree l y (head1 (Jvm.Cond.code y bs ml rt :: ws) rm) (fun a U => a = as' ∧ Z.Warmed39 U.vm ∧ U.heap = h) (fun _ _ _ _ _ => True) (fun _ U o U' => ∃ v L, o = .returned v ∧ Q v U'.heap L ∧ FrameEnd U o U' L rm.cells rm.slots)
theorem w_body {y : MethodName} {ml : Nat} {rt : Option FieldType} {rm : Room} {as' : Array Value} (hy : plainFor y = true) (hf : ∀ m, entryFrame m as' ml = mkF m 0 Ls [])
    (k : ∀ (p : Program) (e : Env) (s : State) (m : MethodId) (below : List Frame) (meth : Method) (c : Code) (T : State), Stand p l e rm s m as' below meth c T [] 0 0 → p.tables.exec = Jvm.exec → c.code = bs → c.maxLocals = ml → s.vm.findClass y.cls = some m.cls → meth.name = y.name → meth.sig.returnType = rt → meth.locks = false → Z.Warmed39 s.vm → T.heap = h → Wg p e below (Gn s rm.cells rm.slots Q) T (mkF m 0 Ls [])) : Con l Z y bs ml rt rm as' h Q := by
  intro ws
  refine MetFree.of_bodySF hy hisR ?_
  intro p e s m args below meth c s₁ Bd hml0 hP hK
  obtain ⟨rfl, hZ, hh⟩ := hP
  have e0 : s₁.heap = h := by rw [← hh, Bd.state]; rfl
  rw [hf m]
  exact k p e s m below meth c s₁ (Stand.of_body Bd) Bd.exec Bd.bytes hml0 (findClass_of_methodNamed Bd.named) (name_of_methodNamed Bd.named Bd.method).1 Bd.returns (BodyLoose.notSynchronized Bd) hZ e0
/-- what a call leaves -/
def Called (p : Program) (l : Launch) (e : Env) (R : Room) (s : State) (m : MethodId) (args : Array Value) (below : List Frame) (meth : Method) (c : Code) (T : State) (locs : List Loc) (cells slots : Nat) (rm : Room) (Qc : Option Value → Heap → List Loc → Prop) (pc nx : Nat) (Ls : Array Slot) (stk rest : List Value) : Prop :=
  ∃ v T' L, Stand p l e R s m args below meth c T' (locs ++ L) (cells + rm.cells) (slots + rm.slots) ∧ Qc v T'.heap L ∧ Steps p.tables e below (T.setTop (mkF m pc Ls stk)) (T'.setTop (mkF m nx Ls (v.toList ++ rest)))
theorem call_S (X : Stand p l e R s m args below meth c T locs cells slots) (hx : p.tables.exec = Jvm.exec) (hby : c.code = bs) (hZ : Z.Warmed39 s.vm) {own : String} (hown : s.vm.findClass own = some m.cls) {y : MethodName} {ml : Nat} {rt : Option FieldType} {rm : Room} {as' : Array Value} {Qc : Option Value → Heap → List Loc → Prop} {index : Nat} {argsL rest : List Value} {Wd : Nat} {bs' : ByteArray} (w1 : (Cond.methodLink own index y).before a0 Z = true) (w2 : (Cond.static y).before a0 Z = true) (wz : (Cond.initialized y.cls).before a0 Z = true) (wc : (Cond.code y bs' ml rt).before a0 Z = true) (hy : y.cls ≠ "java/lang/invoke/MethodHandle" ∧ y.cls ≠ "java/lang/invoke/VarHandle") (con : Con l Z y bs' ml rt rm as' h Qc) (ha : argsL.toArray = as') (hd : In bs pc (.invokestatic index) 3 nx) (hsz : Ls.size = c.maxLocals) (hlen : ∀ sig, parseMethodDescriptor y.desc = some sig → argsL.length = sig.parameters.length) (hW : (rest.map fun v => v.category).sum = Wd) (hfr : rm.frames + 1 ≤ R.frames) (hlo : Wd + (ml + 11) + rm.locals ≤ R.locals) (hce : cells + rm.cells ≤ R.cells) (hso : slots + rm.slots ≤ R.slots) (eT : T.heap = h) : Called p l e R s m args below meth c T locs cells slots rm Qc pc nx Ls (argsL.reverse ++ rest) rest := by
  obtain ⟨d, rfl⟩ := hd
  obtain ⟨v, vm, ⟨T', L', k', n'⟩, -, X', ⟨L, q, l', y', z'⟩, st'⟩ := Jvm.LawKit.callS X hx (y := y) hown (mvT hZ w1) (mvT hZ w2) (mvT hZ wz) (mvT hZ wc) hy (backOf (W := Wd) (con []) hZ wc wz hfr hlo) (g := mkF m pc Ls (argsL.reverse ++ rest)) rfl hsz (argsL := argsL) (rest := rest) hlen rfl (by show 2 * 0 + _ ≤ _; omega) (hb hby d) (fun _ _ => ⟨ha, eT, hce, hso⟩)
  dsimp only [Pt.U, Pt.locs, Pt.cells, Pt.slots] at X' l' y' z' st' q
  subst l' y' z'
  exact ⟨v, T', L, X', q, st' _ (Steps.refl _)⟩
theorem call_N (X : Stand p l e R s m args below meth c T locs cells slots) (hx : p.tables.exec = Jvm.exec) (hby : c.code = bs) (hZ : Z.Warmed39 s.vm) {own : String} (hown : s.vm.findClass own = some m.cls) {y : MethodName} {ml : Nat} {rm : Room} {as' : Array Value} {Qc : Option Value → Heap → List Loc → Prop} {index : Nat} {argsL rest : List Value} {Wd : Nat} {bs' : ByteArray} {a : Addr} (hn : y.name = "<init>") (w1 : (Cond.methodLink own index y).before a0 Z = true) (w2 : (Cond.instanceMethod y).before a0 Z = true) (wz : (Cond.initialized y.cls).before a0 Z = true) (wc : (Cond.code y bs' ml none).before a0 Z = true) (hy : y.cls ≠ "java/lang/invoke/MethodHandle" ∧ y.cls ≠ "java/lang/invoke/VarHandle") (con : Con l Z y bs' ml none rm as' h Qc) (ha : (.ref a :: argsL).toArray = as') (hd : In bs pc (.invokespecial index) 3 nx) (hsz : Ls.size = c.maxLocals) (hlen : ∀ sig, parseMethodDescriptor y.desc = some sig → argsL.length = sig.parameters.length) (hW : (rest.map fun v => v.category).sum = Wd) (hfr : rm.frames + 1 ≤ R.frames) (hlo : Wd + (ml + 11) + rm.locals ≤ R.locals) (hce : cells + rm.cells ≤ R.cells) (hso : slots + rm.slots ≤ R.slots) (eT : T.heap = h) : Called p l e R s m args below meth c T locs cells slots rm Qc pc nx Ls (argsL.reverse ++ .ref a :: rest) rest := by
  obtain ⟨d, rfl⟩ := hd
  obtain ⟨v, vm, ⟨T', L', k', n'⟩, -, X', ⟨L, q, l', y', z'⟩, st'⟩ := X.specialBack hx (y := y) hn hown (mvT hZ w1) (mvT hZ w2) (mvT hZ wc) hy (backOf (W := Wd) (con []) hZ wc wz hfr hlo) (g := mkF m pc Ls (argsL.reverse ++ .ref a :: rest)) rfl hsz (Steps.refl _) (a := a) (argsL := argsL) (rest := rest) hlen rfl (by show 2 * 0 + _ ≤ _; omega) (hb hby d) (fun _ _ => ⟨ha, eT, hce, hso⟩)
  dsimp only [Pt.U, Pt.locs, Pt.cells, Pt.slots] at X' l' y' z' st' q
  subst l' y' z'
  exact ⟨v, T', L, X', q, st'⟩
theorem call_V (X : Stand p l e R s m args below meth c T locs cells slots) (hx : p.tables.exec = Jvm.exec) (hby : c.code = bs) (hZ : Z.Warmed39 s.vm) {own : String} (hown : s.vm.findClass own = some m.cls) {y : MethodName} {ml : Nat} {rt : Option FieldType} {rm : Room} {as' : Array Value} {Qc : Option Value → Heap → List Loc → Prop} {index : Nat} {argsL rest : List Value} {Wd : Nat} {bs' : ByteArray} {a : Addr} {C : String} (w1 : (Cond.methodLink own index y).before a0 Z = true) (w2 : (Cond.declares y).before a0 Z = true) (w3 : (Cond.selects C y y).before a0 Z = true) (w4 : (Cond.instanceMethod y).before a0 Z = true) (wz : (Cond.initialized y.cls).before a0 Z = true) (wc : (Cond.code y bs' ml rt).before a0 Z = true) (hy : y.cls ≠ "java/lang/invoke/MethodHandle" ∧ y.cls ≠ "java/lang/invoke/VarHandle") (E : Exa Z h a C) (con : Con l Z y bs' ml rt rm as' h Qc) (ha : (.ref a :: argsL).toArray = as') (hd : In bs pc (.invokevirtual index) 3 nx) (hsz : Ls.size = c.maxLocals) (hlen : ∀ sig, parseMethodDescriptor y.desc = some sig → argsL.length = sig.parameters.length) (hW : (rest.map fun v => v.category).sum = Wd) (hfr : rm.frames + 1 ≤ R.frames) (hlo : Wd + (ml + 11) + rm.locals ≤ R.locals) (hce : cells + rm.cells ≤ R.cells) (hso : slots + rm.slots ≤ R.slots) (eT : T.heap = h) : Called p l e R s m args below meth c T locs cells slots rm Qc pc nx Ls (argsL.reverse ++ .ref a :: rest) rest := by
  obtain ⟨d, rfl⟩ := hd
  obtain ⟨cq, kq, qa, qb, qc⟩ := isOf hZ eT E
  obtain ⟨v, vm, ⟨T', L', k', n'⟩, -, X', ⟨L, q, l', y', z'⟩, st'⟩ := X.virtualBack hx (y := y) (z := y) hown (mvT hZ w1) (mvT hZ w2) (notFace_of_selects (args := #[]) (mvT hZ w3)) (mvT hZ w3) (mvT hZ w4) hy (backOf (W := Wd) (con []) hZ wc wz hfr hlo) qa qc (g := mkF m pc Ls (argsL.reverse ++ .ref a :: rest)) rfl hsz (Steps.refl _) (argsL := argsL) (rest := rest) hlen rfl (by show 2 * 0 + _ ≤ _; omega) (hb hby d) (fun _ _ => ⟨ha, eT, hce, hso⟩)
  dsimp only [Pt.U, Pt.locs, Pt.cells, Pt.slots] at X' l' y' z' st' q
  subst l' y' z'
  exact ⟨v, T', L, X', q, st'⟩
theorem call_U (X : Stand p l e R s m args below meth c T locs cells slots) (hx : p.tables.exec = Jvm.exec) (hby : c.code = bs) (hZ : Z.Warmed39 s.vm) {own : String} (hown : s.vm.findClass own = some m.cls) {y : MethodName} {ml : Nat} {rt : Option FieldType} {rm : Room} {as' : Array Value} {Qc : Option Value → Heap → List Loc → Prop} {index : Nat} {argsL rest : List Value} {Wd : Nat} {bs' : ByteArray} {x : MethodName} {a : Addr} {C owner : String} (w1 : (Cond.methodLink own index x).before a0 Z = true) (w2 : (Cond.sameMethod x.cls owner x.name x.desc).before a0 Z = true) (w5 : (Cond.declares ⟨owner, x.name, x.desc⟩).before a0 Z = true) (ho : owner ≠ "java/lang/invoke/MethodHandle" ∧ owner ≠ "java/lang/invoke/VarHandle") (w3 : (Cond.selects C x y).before a0 Z = true) (w4 : (Cond.instanceMethod y).before a0 Z = true) (wz : (Cond.initialized y.cls).before a0 Z = true) (wc : (Cond.code y bs' ml rt).before a0 Z = true) (E : Exa Z h a C) (con : Con l Z y bs' ml rt rm as' h Qc) (ha : (.ref a :: argsL).toArray = as') (hd : In bs pc (.invokevirtual index) 3 nx) (hsz : Ls.size = c.maxLocals) (hlen : ∀ sig, parseMethodDescriptor x.desc = some sig → argsL.length = sig.parameters.length) (hW : (rest.map fun v => v.category).sum = Wd) (hfr : rm.frames + 1 ≤ R.frames) (hlo : Wd + (ml + 11) + rm.locals ≤ R.locals) (hce : cells + rm.cells ≤ R.cells) (hso : slots + rm.slots ≤ R.slots) (eT : T.heap = h) : Called p l e R s m args below meth c T locs cells slots rm Qc pc nx Ls (argsL.reverse ++ .ref a :: rest) rest := by
  obtain ⟨d, rfl⟩ := hd
  obtain ⟨cq, kq, qa, qb, qc⟩ := isOf hZ eT E
  obtain ⟨v, vm, ⟨T', L', k', n'⟩, -, X', ⟨L, q, l', y', z'⟩, st'⟩ := X.virtualBackUp hx (x := x) (y := y) hown (mvT hZ w1) (mvT hZ w2) (mvT hZ w5) ho (mvT hZ w3) (mvT hZ w4) (backOf (W := Wd) (con []) hZ wc wz hfr hlo) qa qc (g := mkF m pc Ls (argsL.reverse ++ .ref a :: rest)) rfl hsz (Steps.refl _) (argsL := argsL) (rest := rest) hlen rfl (by show 2 * 0 + _ ≤ _; omega) (hb hby d) (fun _ _ => ⟨ha, eT, hce, hso⟩)
  dsimp only [Pt.U, Pt.locs, Pt.cells, Pt.slots] at X' l' y' z' st' q
  subst l' y' z'
  exact ⟨v, T', L, X', q, st'⟩
theorem call_P (X : Stand p l e R s m args below meth c T locs cells slots) (hx : p.tables.exec = Jvm.exec) (hby : c.code = bs) (hZ : Z.Warmed39 s.vm) {own : String} (hown : s.vm.findClass own = some m.cls) {y : MethodName} {ml : Nat} {rt : Option FieldType} {rm : Room} {as' : Array Value} {Qc : Option Value → Heap → List Loc → Prop} {index : Nat} {argsL rest : List Value} {Wd : Nat} {bs' : ByteArray} {a : Addr} {C : String} {kI : Nat} (w1 : (Cond.methodLink own index y).before a0 Z = true) (w2 : (Cond.instanceMethod y).before a0 Z = true) (wp : (Cond.privateMethod y).before a0 Z = true) (wi : (Cond.instantiable y.cls kI).before a0 Z = true) (wz : (Cond.initialized y.cls).before a0 Z = true) (wc : (Cond.code y bs' ml rt).before a0 Z = true) (hy : y.cls ≠ "java/lang/invoke/MethodHandle" ∧ y.cls ≠ "java/lang/invoke/VarHandle") (E : Exa Z h a C) (con : Con l Z y bs' ml rt rm as' h Qc) (ha : (.ref a :: argsL).toArray = as') (hd : In bs pc (.invokevirtual index) 3 nx) (hsz : Ls.size = c.maxLocals) (hlen : ∀ sig, parseMethodDescriptor y.desc = some sig → argsL.length = sig.parameters.length) (hW : (rest.map fun v => v.category).sum = Wd) (hfr : rm.frames + 1 ≤ R.frames) (hlo : Wd + (ml + 11) + rm.locals ≤ R.locals) (hce : cells + rm.cells ≤ R.cells) (hso : slots + rm.slots ≤ R.slots) (eT : T.heap = h) : Called p l e R s m args below meth c T locs cells slots rm Qc pc nx Ls (argsL.reverse ++ .ref a :: rest) rest := by
  obtain ⟨d, rfl⟩ := hd
  obtain ⟨cq, qa, qb⟩ := E.cell
  have hpv := Cond.privateMethod_at (mvP hZ wp (args := args))
  have hin : (Cond.instanceMethod y).before args s = true := mvT hZ w2
  obtain ⟨ci, ki, hi1, hi2, -, hi4, -, -⟩ := Cond.instantiable_spec (show (Cond.instantiable y.cls kI).before args s = true from mvT hZ wi)
  have hsel : (Cond.selects y.cls y y).before args s = true := Jvm.Stand.selects_self_of_private hi1 hi2 (by rw [Bool.or_eq_false_iff] at hi4; exact hi4.1) hpv hin hy
  obtain ⟨v, vm, ⟨T', L', k', n'⟩, -, X', ⟨L, q, l', y', z'⟩, st'⟩ := X.privateBack hx (y := y) hown (mvT hZ w1) hin hsel hpv (mvT hZ wc) hy (backOf (W := Wd) (con []) hZ wc wz hfr hlo) (g := mkF m pc Ls (argsL.reverse ++ .ref a :: rest)) rfl hsz (Steps.refl _) (a := a) (by rw [eT]; exact qa) qb (argsL := argsL) (rest := rest) hlen rfl (by show 2 * 0 + _ ≤ _; omega) (hb hby d) (fun _ _ => ⟨ha, eT, hce, hso⟩)
  dsimp only [Pt.U, Pt.locs, Pt.cells, Pt.slots] at X' l' y' z' st' q
  subst l' y' z'
  exact ⟨v, T', L, X', q, st'⟩
theorem call_NK (X : Stand p l e R s m args below meth c T locs cells slots) (hx : p.tables.exec = Jvm.exec) (hby : c.code = bs) (hZ : Z.Warmed39 s.vm) {own : String} (hown : s.vm.findClass own = some m.cls) {y : MethodName} {ml ck cs : Nat} {bs' : ByteArray} {as' : Array Value} {Qc : Option Value → Heap → List Loc → Prop} {index : Nat} {argsL rest : List Value} {Wd : Nat} {a : Addr} (hn : y.name = "<init>") (w1 : (Cond.methodLink own index y).before a0 Z = true) (w2 : (Cond.instanceMethod y).before a0 Z = true) (wc : (Cond.code y bs' ml none).before a0 Z = true) (hy : y.cls ≠ "java/lang/invoke/MethodHandle" ∧ y.cls ≠ "java/lang/invoke/VarHandle") (hK : Back l R p e below s args y 3 Wd (fun P a => a = as' ∧ P.U.heap = h ∧ P.cells + ck ≤ R.cells ∧ P.slots + cs ≤ R.slots) (fun P _ v B => ∃ L, Qc v B.U.heap L ∧ B.locs = P.locs ++ L ∧ B.cells = P.cells + ck ∧ B.slots = P.slots + cs)) (ha : (.ref a :: argsL).toArray = as') (hd : In bs pc (.invokespecial index) 3 nx) (hsz : Ls.size = c.maxLocals) (hlen : ∀ sig, parseMethodDescriptor y.desc = some sig → argsL.length = sig.parameters.length) (hW : (rest.map fun v => v.category).sum = Wd) (hce : cells + ck ≤ R.cells) (hso : slots + cs ≤ R.slots) (eT : T.heap = h) : Called p l e R s m args below meth c T locs cells slots ({ frames := 0, cells := ck, slots := cs, locals := 0 } : Room) Qc pc nx Ls (argsL.reverse ++ .ref a :: rest) rest := by
  obtain ⟨d, rfl⟩ := hd
  obtain ⟨v, vm, ⟨T', L', k', n'⟩, -, X', ⟨L, q, l', y', z'⟩, st'⟩ := X.specialBack hx (y := y) hn hown (mvT hZ w1) (mvT hZ w2) (mvT hZ wc) hy hK (g := mkF m pc Ls (argsL.reverse ++ .ref a :: rest)) rfl hsz (Steps.refl _) (a := a) (argsL := argsL) (rest := rest) hlen rfl (by show 2 * 0 + _ ≤ _; omega) (hb hby d) (fun _ _ => ⟨ha, eT, hce, hso⟩)
  dsimp only [Pt.U, Pt.locs, Pt.cells, Pt.slots] at X' l' y' z' st' q
  subst l' y' z'
  exact ⟨v, T', L, X', q, st'⟩
/-- behind a call -/
theorem w_called {rm : Room} {Qc : Option Value → Heap → List Loc → Prop} {stk rest : List Value} (hc : Called p l e R s m args below meth c T locs cells slots rm Qc pc nx Ls stk rest)
    (k : ∀ v T' L, Stand p l e R s m args below meth c T' (locs ++ L) (cells + rm.cells) (slots + rm.slots) → Qc v T'.heap L → Wg p e below G T' (mkF m nx Ls (v.toList ++ rest))) : Wg p e below G T (mkF m pc Ls stk) := by
  obtain ⟨v, T', L, X', q, st'⟩ := hc; exact Wg.tr st' (k v T' L X' q)
/-- behind a call that writes nothing and makes nothing -/
theorem w_calledp {rm : Room} {w : Value} {stk rest : List Value} (hc : Called p l e R s m args below meth c T locs cells slots rm (fun v h' L => v = some w ∧ h' = h ∧ L = []) pc nx Ls stk rest) (h1 : rm.cells = 0) (h2 : rm.slots = 0)
    (k : ∀ T', Stand p l e R s m args below meth c T' locs cells slots → T'.heap = h → Wg p e below G T' (mkF m nx Ls (w :: rest))) : Wg p e below G T (mkF m pc Ls stk) := by
  obtain ⟨v, T', L, X', ⟨rfl, q, rfl⟩, st'⟩ := hc
  rw [h1, h2, List.append_nil] at X'
  exact Wg.tr st' (k T' X' q)
theorem w_retI (X : Stand p l e R s m args below meth c T locs cells slots) (hx : p.tables.exec = Jvm.exec) (hby : c.code = bs) (eT : T.heap = h) (hlk : meth.locks = false) {z : Int32} (hret : meth.sig.returnType = some .int) (hd : In bs pc .ireturn 1 nx) (hK : cells ≤ K) (hN : slots ≤ N) (q : Q (some (.int z)) h locs) : Wg p e below (Gn s K N Q) T (mkF m pc Ls (.int z :: st)) := by
  obtain ⟨fs, hr, hrun, hended, hW, hsame⟩ := X.leave (v := some (.int z)) (fun h => by rw [hret] at h; cases h) hlk
  subst eT
  refine ⟨_, _, ?_, hrun, hended, _, _, rfl, q, ⟨_, rfl⟩, hW, hsame.mono hK hN⟩
  exact retOut X hx hret rfl (Or.inl ⟨rfl, Or.inl rfl, z, rfl⟩) (hb hby hd.1) hr
theorem w_retN (X : Stand p l e R s m args below meth c T locs cells slots) (hx : p.tables.exec = Jvm.exec) (hby : c.code = bs) (eT : T.heap = h) (hlk : meth.locks = false) {z : Int32} {t : FieldType} (hret : meth.sig.returnType = some t) (ht : t = .boolean ∨ t = .byte ∨ t = .char ∨ t = .short) (hd : In bs pc .ireturn 1 nx) (hK : cells ≤ K) (hN : slots ≤ N) (q : Q (some (.int (nar t z))) h locs) : Wg p e below (Gn s K N Q) T (mkF m pc Ls (.int z :: st)) := by
  obtain ⟨fs, hr, hrun, hended, hW, hsame⟩ := X.leave (v := some (.int (nar t z))) (fun h => by rw [hret] at h; cases h) hlk
  subst eT
  refine ⟨_, _, ?_, hrun, hended, _, _, rfl, q, ⟨_, rfl⟩, hW, hsame.mono hK hN⟩
  exact retN X hx hret ht (hb hby hd.1) hr
theorem w_retJ (X : Stand p l e R s m args below meth c T locs cells slots) (hx : p.tables.exec = Jvm.exec) (hby : c.code = bs) (eT : T.heap = h) (hlk : meth.locks = false) {z : Int64} (hret : meth.sig.returnType = some .long) (hd : In bs pc .lreturn 1 nx) (hK : cells ≤ K) (hN : slots ≤ N) (q : Q (some (.long z)) h locs) : Wg p e below (Gn s K N Q) T (mkF m pc Ls (.long z :: st)) := by
  obtain ⟨fs, hr, hrun, hended, hW, hsame⟩ := X.leave (v := some (.long z)) (fun h => by rw [hret] at h; cases h) hlk
  subst eT
  refine ⟨_, _, ?_, hrun, hended, _, _, rfl, q, ⟨_, rfl⟩, hW, hsame.mono hK hN⟩
  exact retOut X hx hret rfl (Or.inr (Or.inl ⟨rfl, rfl, z, rfl⟩)) (hb hby hd.1) hr
theorem w_retA (X : Stand p l e R s m args below meth c T locs cells slots) (hx : p.tables.exec = Jvm.exec) (hby : c.code = bs) (eT : T.heap = h) (hlk : meth.locks = false) {w : Value} {t : FieldType} (hret : meth.sig.returnType = some t) (ht : t.isReference = true) (hw : w.isRef = true) (hn : narrow t w = w) (hd : In bs pc .areturn 1 nx) (hK : cells ≤ K) (hN : slots ≤ N) (q : Q (some w) h locs) : Wg p e below (Gn s K N Q) T (mkF m pc Ls (w :: st)) := by
  obtain ⟨fs, hr, hrun, hended, hW, hsame⟩ := X.leave (v := some w) (fun h => by rw [hret] at h; cases h) hlk
  subst eT
  refine ⟨_, _, ?_, hrun, hended, _, _, rfl, q, ⟨_, rfl⟩, hW, hsame.mono hK hN⟩
  exact retOut X hx hret hn (Or.inr (Or.inr (Or.inr (Or.inr ⟨rfl, ht, hw⟩)))) (hb hby hd.1) hr
theorem w_retV (X : Stand p l e R s m args below meth c T locs cells slots) (hx : p.tables.exec = Jvm.exec) (hby : c.code = bs) (eT : T.heap = h) (hlk : meth.locks = false) (hret : meth.sig.returnType = none) (hd : In bs pc .return_ 1 nx) (hK : cells ≤ K) (hN : slots ≤ N) (q : Q none h locs) : Wg p e below (Gn s K N Q) T (mkF m pc Ls []) := by
  obtain ⟨fs, hr, hrun, hended, hW, hsame⟩ := X.leave (v := none) (fun _ => rfl) hlk
  subst eT
  refine ⟨_, _, ?_, hrun, hended, _, _, rfl, q, ⟨_, rfl⟩, hW, hsame.mono hK hN⟩
  exact X.returnOut hx hret (hb hby hd.1) hr
theorem own_ns {Z : State} {h : Heap} {a : Addr} {K : String} (E : Exa Z h a K) : ∃ c : Cell, h[a]? = some c ∧ c.vm.isStatics = false := by
  obtain ⟨c, _, h1, -, -, h4, -⟩ := E; exact ⟨c, h1, h4⟩
theorem own_nsV {Z : State} {h : Heap} {a : Addr} {k : ClassId} {ty : FieldType} {n : Int32} {vs : List Value} {dv : Value} (E : Arv Z h a k ty n vs dv) : ∃ c : Cell, h[a]? = some c ∧ c.vm.isStatics = false := by
  obtain ⟨c, A, -⟩ := E; exact ⟨c, A.1, A.plain⟩
theorem own_sta_keep {Z : State} {h h' : Heap} {C n d : String} {v : Value} {ws : List Addr} (F : Sta Z h C n d v) (K : Keep h h' ws) (q : ∀ x ∈ ws, ∃ c : Cell, h[x]? = some c ∧ c.vm.isStatics = false) : Sta Z h' C n d v := by
  obtain ⟨cf, i, k, f, st, cell, h1, h2, h3, h4, h5, h6, h7⟩ := F
  refine ⟨cf, i, k, f, st, cell, h1, h2, h3, h4, K.2.1 _ _ h5 (fun hm => ?_), h6, h7⟩
  obtain ⟨c, e1, e2⟩ := q st hm
  cases h5.symm.trans e1
  rw [h6] at e2; cases e2
theorem own_arr_keep {Z : State} {h h' : Heap} {a : Addr} {c : Cell} {ty : FieldType} {ws : List Addr} (F : Arr Z h a c ty) (K : Keep h h' ws) (q : a ∉ ws) : Arr Z h' a c ty := ⟨K.2.1 a c F.1 q, F.2⟩
theorem own_ext_keep {h h' : Heap} (E : Ext h h') : Keep h h' [] := (Keep.refl h []).ext E
theorem own_keep_ext {h h' : Heap} (K : Keep h h' []) : Ext h h' := ⟨K.1, fun a c q => K.2.1 a c q nin0⟩
theorem w_castY (X : Stand p l e R s m args below meth c T locs cells slots) (hx : p.tables.exec = Jvm.exec) (hby : c.code = bs) (hZ : Z.Warmed39 s.vm) {own : String} (hown : s.vm.findClass own = some m.cls) {K : String} {index : Nat} {a : Addr} (w : (Cond.classLink own index K).before a0 Z = true) (eT : T.heap = h) (F : Ins Z h a K true) (hd : In bs pc (.checkcast index) 3 nx) (k : ∀ T', Stand p l e R s m args below meth c T' locs cells slots → T'.heap = h → Wg p e below G T' (mkF m nx Ls (.ref a :: st))) : Wg p e below G T (mkF m pc Ls (.ref a :: st)) := by
  obtain ⟨d, rfl⟩ := hd; obtain ⟨T', X', e', st'⟩ := castY X hx hZ hown w eT F (g := mkF m pc Ls (.ref a :: st)) rfl rfl (hb hby d); exact Wg.go st' (k T' X' e')
theorem w_instY (X : Stand p l e R s m args below meth c T locs cells slots) (hx : p.tables.exec = Jvm.exec) (hby : c.code = bs) (hZ : Z.Warmed39 s.vm) {own : String} (hown : s.vm.findClass own = some m.cls) {K : String} {index : Nat} {a : Addr} (w : (Cond.classLink own index K).before a0 Z = true) (eT : T.heap = h) (F : Ins Z h a K true) (hd : In bs pc (.instanceof index) 3 nx) (k : ∀ T', Stand p l e R s m args below meth c T' locs cells slots → T'.heap = h → Wg p e below G T' (mkF m nx Ls (.int 1 :: st))) : Wg p e below G T (mkF m pc Ls (.ref a :: st)) := by
  obtain ⟨d, rfl⟩ := hd; obtain ⟨T', X', e', st'⟩ := instY X hx hZ hown w eT F (g := mkF m pc Ls (.ref a :: st)) rfl rfl (hb hby d); exact Wg.go st' (k T' X' e')
theorem w_instNo (X : Stand p l e R s m args below meth c T locs cells slots) (hx : p.tables.exec = Jvm.exec) (hby : c.code = bs) (hZ : Z.Warmed39 s.vm) {own : String} (hown : s.vm.findClass own = some m.cls) {K : String} {index : Nat} {a : Addr} (w : (Cond.classLink own index K).before a0 Z = true) (eT : T.heap = h) {D : String} (E : Exa Z h a D) (F : ∃ c t, Z.vm.findClass D = some c ∧ Z.vm.findClass K = some t ∧ Z.vm.assignable c t = false) (hd : In bs pc (.instanceof index) 3 nx) (k : ∀ T', Stand p l e R s m args below meth c T' locs cells slots → T'.heap = h → Wg p e below G T' (mkF m nx Ls (.int 0 :: st))) : Wg p e below G T (mkF m pc Ls (.ref a :: st)) := by
  obtain ⟨d, rfl⟩ := hd; obtain ⟨T', X', e', st'⟩ := instNo X hx hZ hown w eT E F (g := mkF m pc Ls (.ref a :: st)) rfl rfl (hb hby d); exact Wg.go st' (k T' X' e')
theorem w_ldcM (X : Stand p l e R s m args below meth c T locs cells slots) (hx : p.tables.exec = Jvm.exec) (hby : c.code = bs) (hZ : Z.Warmed39 s.vm) {own : String} (hown : s.vm.findClass own = some m.cls) {K : String} {index : Nat} {a : Addr} (w : (Cond.classLink own index K).before a0 Z = true) (eT : T.heap = h) (M : Mir Z K a) (hd : In bs pc (.ldc index) 2 nx) (k : ∀ T', Stand p l e R s m args below meth c T' locs cells slots → T'.heap = h → Wg p e below G T' (mkF m nx Ls (.ref a :: st))) : Wg p e below G T (mkF m pc Ls st) := by
  obtain ⟨d, rfl⟩ := hd
  have hev : (Term.mirror K).eval args s none [] s = some (.ref a) := by
    obtain ⟨cc, kc, m1, m2, m3, -⟩ := M
    obtain ⟨k', q, ek⟩ := hZ.alike.2.2 _ _ m2
    rw [← hZ.alike.findClass] at m1
    have m3' : k'.mirror = some a := by rw [ek]; exact m3
    simp [Term.eval, m1, q, m3']
  obtain ⟨vm', X', st'⟩ := X.ldcMirror hx hown (mv hZ w) hev (g := mkF m pc Ls st) rfl (hb hby d)
  exact Wg.go st' (k _ X' eT)
theorem w_gcls (X : Stand p l e R s m args below meth c T locs cells slots) (hx : p.tables.exec = Jvm.exec) (hby : c.code = bs) (hZ : Z.Warmed39 s.vm) {own : String} (hown : s.vm.findClass own = some m.cls) {D : String} {index : Nat} {a mr : Addr} (w1 : (Cond.methodLink own index ⟨"java/lang/Object", "getClass", "()Ljava/lang/Class;"⟩).before a0 Z = true) (w2 : (Cond.declares ⟨"java/lang/Object", "getClass", "()Ljava/lang/Class;"⟩).before a0 Z = true) (w3 : (Cond.noSuperclass "java/lang/Object").before a0 Z = true) (w4 : (Cond.selects D ⟨"java/lang/Object", "getClass", "()Ljava/lang/Class;"⟩ ⟨"java/lang/Object", "getClass", "()Ljava/lang/Class;"⟩).before a0 Z = true) (w5 : (Cond.instanceMethod ⟨"java/lang/Object", "getClass", "()Ljava/lang/Class;"⟩).before a0 Z = true) (w6 : (Cond.native ⟨"java/lang/Object", "getClass", "()Ljava/lang/Class;"⟩).before a0 Z = true) (eT : T.heap = h) (E : Exa Z h a D) (M : Mir Z D mr) (hsz : Ls.size = c.maxLocals) (hd : In bs pc (.invokevirtual index) 3 nx) (hf : 1 ≤ R.frames) {Wd : Nat} (hW : (st.map fun v => v.category).sum = Wd) (hl : Wd + 14 ≤ R.locals) (k : ∀ T', Stand p l e R s m args below meth c T' locs cells slots → T'.heap = h → Wg p e below G T' (mkF m nx Ls (.ref mr :: st))) : Wg p e below G T (mkF m pc Ls (.ref a :: st)) := by
  obtain ⟨d, rfl⟩ := hd; obtain ⟨T', X', e', st'⟩ := gcls X hx hZ hown w1 w2 w3 w4 w5 w6 eT E M (g := mkF m pc Ls (.ref a :: st)) rfl hsz rfl (hb hby d) hf (W := Wd) (by show 2 * 0 + _ ≤ _; omega) hl; exact Wg.go st' (k T' X' e')
theorem w_cpA (X : Stand p l e R s m args below meth c T locs cells slots) (hx : p.tables.exec = Jvm.exec) (hby : c.code = bs) (hZ : Z.Warmed39 s.vm) {own : String} (hown : s.vm.findClass own = some m.cls) {index : Nat} {a b : Addr} {k1 k2 : ClassId} {ty ty' : FieldType} {z z' sp dp nn : Int32} {vs vd us : List Value} {dv dd : Value} (w1 : (Cond.methodLink own index Jvm.Stand.acN).before a0 Z = true) (w2 : (Cond.native Jvm.Stand.acN).before a0 Z = true) (w3 : (Cond.static Jvm.Stand.acN).before a0 Z = true) (w4 : (Cond.initialized "java/lang/System").before a0 Z = true) (eT : T.heap = h) (A : Arv Z h a k1 ty z vs dv) (B : Arv Z h b k2 ty' z' vd dd) (r1 : refKind ty = true) (r2 : refKind ty' = true) (S : StoL Z h b us) (h1 : ¬ sp < 0) (h2 : ¬ dp < 0) (h3 : ¬ nn < 0) (h4 : sp.toNatClampNeg + nn.toNatClampNeg ≤ z.toNatClampNeg) (h5 : dp.toNatClampNeg + nn.toNatClampNeg ≤ z'.toNatClampNeg) (hus : us = (List.range nn.toNatClampNeg).map fun i => vs.getD (sp.toNatClampNeg + i) dv) (hl : dp.toNatClampNeg + nn.toNatClampNeg ≤ vd.length) {n0 : Nat} (Nn : Fr n0 locs) (ge : n0 ≤ b) (hsz : Ls.size = c.maxLocals) (hd : In bs pc (.invokestatic index) 3 nx) (hf : 1 ≤ R.frames) {Wd : Nat} (hW : (st.map fun v => v.category).sum = Wd) (hlo : Wd + 18 ≤ R.locals) (k : ∀ T' h' L, Stand p l e R s m args below meth c T' L cells slots → T'.heap = h' → Fr n0 L → Keep h h' [b] → Arv Z h' b k2 ty' z' (vd.take dp.toNatClampNeg ++ us ++ vd.drop (dp.toNatClampNeg + nn.toNatClampNeg)) dd → Wg p e below G T' (mkF m nx Ls st)) : Wg p e below G T (mkF m pc Ls (.int nn :: .int dp :: .ref b :: .int sp :: .ref a :: st)) := by
  obtain ⟨d, rfl⟩ := hd; obtain ⟨T', h', L, X', e', N', K', V', st'⟩ := cpA X hx hZ hown w1 w2 w3 w4 eT A B (Or.inr ⟨r1, r2, S⟩) h1 h2 h3 h4 h5 hus hl Nn ge (g := mkF m pc Ls (.int nn :: .int dp :: .ref b :: .int sp :: .ref a :: st)) rfl hsz rfl (hb hby d) hf (W := Wd) (by show 2 * 0 + _ ≤ _; omega) hlo; exact Wg.go st' (k T' h' L X' e' N' K' V')
theorem w_newRE (X : Stand p l e R s m args below meth c T locs cells slots) (hx : p.tables.exec = Jvm.exec) (hby : c.code = bs) (hZ : Z.Warmed39 s.vm) {own : String} (hown : s.vm.findClass own = some m.cls) {D : String} {index : Nat} (w1 : (Cond.classLink own index D).before a0 Z = true) (w2 : (Cond.arrayOver (.object D)).before a0 Z = true) (eT : T.heap = h) {n : Int32} (hd : In bs pc (.anewarray index) 3 nx) (hn : ¬ n < 0) (cap : Nat) (hcap : n.toNatClampNeg ≤ cap) (hbig : cap * 8 ≤ 536870912) (hc : cells + 1 ≤ R.cells) (hl : slots + cap ≤ R.slots) {ad : String} (had : "[" ++ (FieldType.object D).toString = ad) (k : ∀ T' h' a kA, a = h.size → Stand p l e R s m args below meth c T' locs (cells + 1) (slots + cap) → T'.heap = h' → Ext h h' → Arr Z h' a (newA kA (.object D) n) (.object D) → Exa Z h' a ad → Ovr Z kA D → Wg p e below G T' (mkF m nx Ls (.ref a :: st))) : Wg p e below G T (mkF m pc Ls (.int n :: st)) := by
  obtain ⟨d, rfl⟩ := hd; obtain ⟨T', h', kA, X', e', E', A', I', O', st'⟩ := newRE X hx hZ hown w1 w2 eT (g := mkF m pc Ls (.int n :: st)) rfl (hb hby d) rfl hn hcap hbig hc hl had; exact Wg.go st' (k T' h' _ kA rfl X' e' E' A' I' O')
theorem call_I (X : Stand p l e R s m args below meth c T locs cells slots) (hx : p.tables.exec = Jvm.exec) (hby : c.code = bs) (hZ : Z.Warmed39 s.vm) {own : String} (hown : s.vm.findClass own = some m.cls) {y : MethodName} {ml : Nat} {rt : Option FieldType} {rm : Room} {as' : Array Value} {Qc : Option Value → Heap → List Loc → Prop} {index : Nat} {argsL rest : List Value} {Wd : Nat} {bs' : ByteArray} {x : MethodName} {cnt : Nat} {a : Addr} {D : String} (w1 : (Cond.methodLink own index x).before a0 Z = true) (w2 : (Cond.declares x).before a0 Z = true) (w3 : (Cond.interfaceMethod x.cls x.cls x.name x.desc).before a0 Z = true) (w4 : (Cond.selects D x y).before a0 Z = true) (w5 : (Cond.instanceMethod y).before a0 Z = true) (w6 : (Cond.publicMethod y).before a0 Z = true) (w7 : (Cond.unhidden D x.name x.desc).before a0 Z = true) (w8 : (Cond.castable D x.cls).before a0 Z = true) (hfa : (Cond.interfaceMethod x.cls x.cls x.name x.desc).faceAtom = true) (ho : x.cls ≠ "java/lang/invoke/MethodHandle" ∧ x.cls ≠ "java/lang/invoke/VarHandle") (wz : (Cond.initialized y.cls).before a0 Z = true) (wc : (Cond.code y bs' ml rt).before a0 Z = true) (E : Exa Z h a D) (con : Con l Z y bs' ml rt rm as' h Qc) (ha : (.ref a :: argsL).toArray = as') (hd : In bs pc (.invokeinterface index cnt) 5 nx) (hsz : Ls.size = c.maxLocals) (hlen : ∀ sig, parseMethodDescriptor x.desc = some sig → argsL.length = sig.parameters.length) (hW : (rest.map fun v => v.category).sum = Wd) (hfr : rm.frames + 1 ≤ R.frames) (hlo : Wd + (ml + 11) + rm.locals ≤ R.locals) (hce : cells + rm.cells ≤ R.cells) (hso : slots + rm.slots ≤ R.slots) (eT : T.heap = h) : Called p l e R s m args below meth c T locs cells slots rm Qc pc nx Ls (argsL.reverse ++ .ref a :: rest) rest := by
  obtain ⟨d, rfl⟩ := hd
  obtain ⟨cq, kq, qa, qb, qc⟩ := isOf hZ eT E
  obtain ⟨v, vm, ⟨T', L', k', n'⟩, -, X', ⟨L, q, l', y', z'⟩, st'⟩ := X.interfaceBack hx (xi := x) (y := y) hown (mvT hZ w1) (mvT hZ w2) (mvT hZ w3 (by simp [Cond.onTables, Cond.keepsFace, Cond.keeps, Cond.steady, hfa])) (mvT hZ w4) (mvT hZ w5) (mvT hZ w6) (mvT hZ w7) (mvT hZ w8) ho (backOf (W := Wd) (con []) hZ wc wz hfr hlo) qa qb qc (g := mkF m pc Ls (argsL.reverse ++ .ref a :: rest)) rfl hsz (Steps.refl _) (argsL := argsL) (rest := rest) hlen rfl (by show 2 * 0 + _ ≤ _; omega) (hb hby d) (fun _ _ => ⟨ha, eT, hce, hso⟩)
  dsimp only [Pt.U, Pt.locs, Pt.cells, Pt.slots] at X' l' y' z' st' q
  subst l' y' z'
  exact ⟨v, T', L, X', q, st'⟩
theorem w_ldcS {vm0 : Vm} (X : Stand p l e R (s.setVm vm0) m args below meth c T locs cells slots) (hx : p.tables.exec = Jvm.exec) (hby : c.code = bs) (hZ : Z.Warmed39 (s.setVm vm0).vm) {own : String} (hown : (s.setVm vm0).vm.findClass own = some m.cls) {text : String} {index : Nat} (w : (Cond.stringLink own index text).before a0 Z = true) (wS : ∀ a ∈ Bundle.stringAtoms, a.before a0 Z = true) (eT : T.heap = h) {k0 : Nat} (hS : s.Since vm0 k0) (hk : k0 ≤ h.size) (hd : In bs pc (.ldc index) 2 nx) (n : Nat) (hn : 4 * text.toList.length ≤ n) (hbig : n ≤ 536870912) (hc : cells + 2 ≤ R.cells) (hl : slots + (n + 4) ≤ R.slots) (k : ∀ (a : Addr) (T' : State) (h' : Heap) (k1 : Nat), Stand p l e R (s.setVm T'.vm) m args below meth c T' locs (cells + 2) (slots + (n + 4)) → T'.heap = h' → Ext h h' → s.Since T'.vm k1 → k1 ≤ h'.size → Z.Warmed39 (s.setVm T'.vm).vm → (s.setVm T'.vm).vm.findClass own = some m.cls → Wg p e below G T' (mkF m nx Ls (.ref a :: st))) : Wg p e below G T (mkF m pc Ls st) := by
  obtain ⟨d, rfl⟩ := hd; obtain ⟨a, T', h', k1, X', e', E', S', hk', hZ', hown', st'⟩ := ldcS (vm0 := vm0) X hx hZ hown w wS eT hS hk (g := mkF m pc Ls st) rfl (hb hby d) hn hbig hc hl; exact Wg.go st' (k a T' h' k1 X' e' E' S' hk' hZ' hown')
end OwnKit
theorem t_0 : (Jvm.Cond.classLink "com/example/variaform/variaform/model/feature/GroupIsUpperUnboundedPinLaw" (7 : Nat) "java/util/ArrayList") ∈ tables_1 := List.mem_of_getElem? (i := 0) rfl
theorem t_1 : (Jvm.Cond.instantiable "java/util/ArrayList" (3 : Nat)) ∈ tables_1 := List.mem_of_getElem? (i := 1) rfl
theorem t_2 : (Jvm.Cond.initialized "java/util/ArrayList") ∈ tables_1 := List.mem_of_getElem? (i := 2) rfl
theorem t_3 : (Jvm.Cond.methodLink "com/example/variaform/variaform/model/feature/GroupIsUpperUnboundedPinLaw" (9 : Nat) ({ cls := "java/util/ArrayList", name := "<init>", desc := "()V" } : Jvm.MethodName)) ∈ tables_1 := List.mem_of_getElem? (i := 3) rfl
theorem t_4 : (Jvm.Cond.instanceMethod ({ cls := "java/util/ArrayList", name := "<init>", desc := "()V" } : Jvm.MethodName)) ∈ tables_1 := List.mem_of_getElem? (i := 4) rfl
theorem t_5 : (Jvm.Cond.code ({ cls := "java/util/ArrayList", name := "<init>", desc := "()V" } : Jvm.MethodName) jdk_38_method_2_code (1 : Nat) (Option.none : Option Jvm.ClassFile.FieldType)) ∈ tables_1 := List.mem_of_getElem? (i := 5) rfl
theorem t_6 : (Jvm.Cond.methodLink "java/util/ArrayList" (1 : Nat) ({ cls := "java/util/AbstractList", name := "<init>", desc := "()V" } : Jvm.MethodName)) ∈ tables_1 := List.mem_of_getElem? (i := 6) rfl
theorem t_7 : (Jvm.Cond.instanceMethod ({ cls := "java/util/AbstractList", name := "<init>", desc := "()V" } : Jvm.MethodName)) ∈ tables_1 := List.mem_of_getElem? (i := 7) rfl
theorem t_10 : (Jvm.Cond.initialized "java/util/AbstractList") ∈ tables_1 := List.mem_of_getElem? (i := 10) rfl
theorem t_11 : (Jvm.Cond.code ({ cls := "java/util/AbstractList", name := "<init>", desc := "()V" } : Jvm.MethodName) jdk_39_method_1_code (1 : Nat) (Option.none : Option Jvm.ClassFile.FieldType)) ∈ tables_1 := List.mem_of_getElem? (i := 11) rfl
theorem t_12 : (Jvm.Cond.methodLink "java/util/AbstractList" (1 : Nat) ({ cls := "java/util/AbstractCollection", name := "<init>", desc := "()V" } : Jvm.MethodName)) ∈ tables_1 := List.mem_of_getElem? (i := 12) rfl
theorem t_13 : (Jvm.Cond.instanceMethod ({ cls := "java/util/AbstractCollection", name := "<init>", desc := "()V" } : Jvm.MethodName)) ∈ tables_1 := List.mem_of_getElem? (i := 13) rfl
theorem t_16 : (Jvm.Cond.initialized "java/util/AbstractCollection") ∈ tables_1 := List.mem_of_getElem? (i := 16) rfl
theorem t_17 : (Jvm.Cond.code ({ cls := "java/util/AbstractCollection", name := "<init>", desc := "()V" } : Jvm.MethodName) jdk_22_method_1_code (1 : Nat) (Option.none : Option Jvm.ClassFile.FieldType)) ∈ tables_1 := List.mem_of_getElem? (i := 17) rfl
theorem t_18 : (Jvm.Cond.methodLink "java/util/AbstractCollection" (1 : Nat) ({ cls := "java/lang/Object", name := "<init>", desc := "()V" } : Jvm.MethodName)) ∈ tables_1 := List.mem_of_getElem? (i := 18) rfl
theorem t_19 : (Jvm.Cond.instanceMethod ({ cls := "java/lang/Object", name := "<init>", desc := "()V" } : Jvm.MethodName)) ∈ tables_1 := List.mem_of_getElem? (i := 19) rfl
theorem t_20 : (Jvm.Cond.code ({ cls := "java/lang/Object", name := "<init>", desc := "()V" } : Jvm.MethodName) object_method_1_code (1 : Nat) (Option.none : Option Jvm.ClassFile.FieldType)) ∈ tables_1 := List.mem_of_getElem? (i := 20) rfl
theorem t_21 : (Jvm.Cond.fieldLink "java/util/AbstractList" (7 : Nat) "java/util/AbstractList" "modCount" "I") ∈ tables_1 := List.mem_of_getElem? (i := 21) rfl
theorem t_22 : (Jvm.Cond.lays "java/util/ArrayList" "java/util/AbstractList" "modCount" "I") ∈ tables_1 := List.mem_of_getElem? (i := 22) rfl
theorem t_23 : (Jvm.Cond.fieldLink "java/util/ArrayList" (39 : Nat) "java/util/ArrayList" "DEFAULTCAPACITY_EMPTY_ELEMENTDATA" "[Ljava/lang/Object;") ∈ tables_1 := List.mem_of_getElem? (i := 23) rfl
theorem t_24 : (Jvm.Cond.fieldLink "java/util/ArrayList" (9 : Nat) "java/util/ArrayList" "elementData" "[Ljava/lang/Object;") ∈ tables_1 := List.mem_of_getElem? (i := 24) rfl
theorem t_25 : (Jvm.Cond.lays "java/util/ArrayList" "java/util/ArrayList" "elementData" "[Ljava/lang/Object;") ∈ tables_1 := List.mem_of_getElem? (i := 25) rfl
theorem t_26 : (Jvm.Cond.constant "com/example/variaform/variaform/model/feature/GroupIsUpperUnboundedPinLaw" (21 : Nat) (2147483647 : Int32)) ∈ tables_1 := List.mem_of_getElem? (i := 26) rfl
theorem t_27 : (Jvm.Cond.classLink "com/example/variaform/variaform/model/feature/GroupIsUpperUnboundedPinLaw" (22 : Nat) "com/example/variaform/variaform/model/feature/Group") ∈ tables_1 := List.mem_of_getElem? (i := 27) rfl
theorem t_28 : (Jvm.Cond.instantiable "com/example/variaform/variaform/model/feature/Group" (5 : Nat)) ∈ tables_1 := List.mem_of_getElem? (i := 28) rfl
theorem t_29 : (Jvm.Cond.initialized "com/example/variaform/variaform/model/feature/Group") ∈ tables_1 := List.mem_of_getElem? (i := 29) rfl
theorem t_30 : (Jvm.Cond.methodLink "com/example/variaform/variaform/model/feature/GroupIsUpperUnboundedPinLaw" (24 : Nat) ({ cls := "com/example/variaform/variaform/model/feature/GroupIsUpperUnboundedPinLaw", name := "kindOf", desc := "(I)Lcom/example/variaform/variaform/model/feature/Group$Kind;" } : Jvm.MethodName)) ∈ tables_1 := List.mem_of_getElem? (i := 30) rfl
theorem t_31 : (Jvm.Cond.static ({ cls := "com/example/variaform/variaform/model/feature/GroupIsUpperUnboundedPinLaw", name := "kindOf", desc := "(I)Lcom/example/variaform/variaform/model/feature/Group$Kind;" } : Jvm.MethodName)) ∈ tables_1 := List.mem_of_getElem? (i := 31) rfl
theorem t_32 : (Jvm.Cond.initialized "com/example/variaform/variaform/model/feature/GroupIsUpperUnboundedPinLaw") ∈ tables_1 := List.mem_of_getElem? (i := 32) rfl
theorem t_33 : (Jvm.Cond.code ({ cls := "com/example/variaform/variaform/model/feature/GroupIsUpperUnboundedPinLaw", name := "kindOf", desc := "(I)Lcom/example/variaform/variaform/model/feature/Group$Kind;" } : Jvm.MethodName) method_3_code (1 : Nat) (Option.some (Jvm.ClassFile.FieldType.object "com/example/variaform/variaform/model/feature/Group$Kind"))) ∈ tables_1 := List.mem_of_getElem? (i := 33) rfl
theorem t_34 : (Jvm.Cond.fieldLink "com/example/variaform/variaform/model/feature/GroupIsUpperUnboundedPinLaw" (56 : Nat) "com/example/variaform/variaform/model/feature/Group$Kind" "OPTIONAL" "Lcom/example/variaform/variaform/model/feature/Group$Kind;") ∈ tables_1 := List.mem_of_getElem? (i := 34) rfl
theorem t_35 : (Jvm.Cond.initialized "com/example/variaform/variaform/model/feature/Group$Kind") ∈ tables_1 := List.mem_of_getElem? (i := 35) rfl
theorem t_36 : (Jvm.Cond.laysStatic "com/example/variaform/variaform/model/feature/Group$Kind" "OPTIONAL" "Lcom/example/variaform/variaform/model/feature/Group$Kind;") ∈ tables_1 := List.mem_of_getElem? (i := 36) rfl
theorem t_37 : (Jvm.Cond.methodLink "com/example/variaform/variaform/model/feature/GroupIsUpperUnboundedPinLaw" (30 : Nat) ({ cls := "com/example/variaform/variaform/model/feature/Group", name := "<init>", desc := "(Lcom/example/variaform/variaform/model/feature/Group$Kind;Ljava/util/List;)V" } : Jvm.MethodName)) ∈ tables_1 := List.mem_of_getElem? (i := 37) rfl
theorem t_38 : (Jvm.Cond.instanceMethod ({ cls := "com/example/variaform/variaform/model/feature/Group", name := "<init>", desc := "(Lcom/example/variaform/variaform/model/feature/Group$Kind;Ljava/util/List;)V" } : Jvm.MethodName)) ∈ tables_1 := List.mem_of_getElem? (i := 38) rfl
theorem t_39 : (Jvm.Cond.code ({ cls := "com/example/variaform/variaform/model/feature/Group", name := "<init>", desc := "(Lcom/example/variaform/variaform/model/feature/Group$Kind;Ljava/util/List;)V" } : Jvm.MethodName) prog_39_method_2_code (3 : Nat) (Option.none : Option Jvm.ClassFile.FieldType)) ∈ tables_1 := List.mem_of_getElem? (i := 39) rfl
theorem t_40 : (Jvm.Cond.fieldLink "com/example/variaform/variaform/model/feature/Group" (7 : Nat) "com/example/variaform/variaform/model/feature/Comments" "NONE" "Lcom/example/variaform/variaform/model/feature/Comments;") ∈ tables_1 := List.mem_of_getElem? (i := 40) rfl
theorem t_41 : (Jvm.Cond.initialized "com/example/variaform/variaform/model/feature/Comments") ∈ tables_1 := List.mem_of_getElem? (i := 41) rfl
theorem t_42 : (Jvm.Cond.laysStatic "com/example/variaform/variaform/model/feature/Comments" "NONE" "Lcom/example/variaform/variaform/model/feature/Comments;") ∈ tables_1 := List.mem_of_getElem? (i := 42) rfl
theorem t_43 : (Jvm.Cond.methodLink "com/example/variaform/variaform/model/feature/Group" (13 : Nat) ({ cls := "com/example/variaform/variaform/model/feature/Group", name := "<init>", desc := "(Lcom/example/variaform/variaform/model/feature/Group$Kind;IILjava/util/List;Lcom/example/variaform/variaform/model/feature/Comments;)V" } : Jvm.MethodName)) ∈ tables_1 := List.mem_of_getElem? (i := 43) rfl
theorem t_44 : (Jvm.Cond.instanceMethod ({ cls := "com/example/variaform/variaform/model/feature/Group", name := "<init>", desc := "(Lcom/example/variaform/variaform/model/feature/Group$Kind;IILjava/util/List;Lcom/example/variaform/variaform/model/feature/Comments;)V" } : Jvm.MethodName)) ∈ tables_1 := List.mem_of_getElem? (i := 44) rfl
theorem t_45 : (Jvm.Cond.code ({ cls := "com/example/variaform/variaform/model/feature/Group", name := "<init>", desc := "(Lcom/example/variaform/variaform/model/feature/Group$Kind;IILjava/util/List;Lcom/example/variaform/variaform/model/feature/Comments;)V" } : Jvm.MethodName) prog_39_method_3_code (6 : Nat) (Option.none : Option Jvm.ClassFile.FieldType)) ∈ tables_1 := List.mem_of_getElem? (i := 45) rfl
theorem t_46 : (Jvm.Cond.methodLink "com/example/variaform/variaform/model/feature/Group" (34 : Nat) ({ cls := "java/lang/Object", name := "<init>", desc := "()V" } : Jvm.MethodName)) ∈ tables_1 := List.mem_of_getElem? (i := 46) rfl
theorem t_47 : (Jvm.Cond.fieldLink "com/example/variaform/variaform/model/feature/Group" (39 : Nat) "com/example/variaform/variaform/model/feature/Group" "kind" "Lcom/example/variaform/variaform/model/feature/Group$Kind;") ∈ tables_1 := List.mem_of_getElem? (i := 47) rfl
theorem t_48 : (Jvm.Cond.laysFinal "com/example/variaform/variaform/model/feature/Group" "com/example/variaform/variaform/model/feature/Group" "kind" "Lcom/example/variaform/variaform/model/feature/Group$Kind;") ∈ tables_1 := List.mem_of_getElem? (i := 48) rfl
theorem t_49 : (Jvm.Cond.fieldLink "com/example/variaform/variaform/model/feature/Group" (42 : Nat) "com/example/variaform/variaform/model/feature/Group" "lower" "I") ∈ tables_1 := List.mem_of_getElem? (i := 49) rfl
theorem t_50 : (Jvm.Cond.laysFinal "com/example/variaform/variaform/model/feature/Group" "com/example/variaform/variaform/model/feature/Group" "lower" "I") ∈ tables_1 := List.mem_of_getElem? (i := 50) rfl
theorem t_51 : (Jvm.Cond.fieldLink "com/example/variaform/variaform/model/feature/Group" (46 : Nat) "com/example/variaform/variaform/model/feature/Group" "upper" "I") ∈ tables_1 := List.mem_of_getElem? (i := 51) rfl
theorem t_52 : (Jvm.Cond.laysFinal "com/example/variaform/variaform/model/feature/Group" "com/example/variaform/variaform/model/feature/Group" "upper" "I") ∈ tables_1 := List.mem_of_getElem? (i := 52) rfl
theorem t_53 : (Jvm.Cond.methodLink "com/example/variaform/variaform/model/feature/Group" (49 : Nat) ({ cls := "java/util/List", name := "copyOf", desc := "(Ljava/util/Collection;)Ljava/util/List;" } : Jvm.MethodName)) ∈ tables_1 := List.mem_of_getElem? (i := 53) rfl
theorem t_54 : (Jvm.Cond.static ({ cls := "java/util/List", name := "copyOf", desc := "(Ljava/util/Collection;)Ljava/util/List;" } : Jvm.MethodName)) ∈ tables_1 := List.mem_of_getElem? (i := 54) rfl
theorem t_55 : (Jvm.Cond.initialized "java/util/List") ∈ tables_1 := List.mem_of_getElem? (i := 55) rfl
theorem t_56 : (Jvm.Cond.code ({ cls := "java/util/List", name := "copyOf", desc := "(Ljava/util/Collection;)Ljava/util/List;" } : Jvm.MethodName) jdk_40_method_48_code (1 : Nat) (Option.some (Jvm.ClassFile.FieldType.object "java/util/List"))) ∈ tables_1 := List.mem_of_getElem? (i := 56) rfl
theorem t_57 : (Jvm.Cond.methodLink "java/util/List" (112 : Nat) ({ cls := "java/util/ImmutableCollections", name := "listCopy", desc := "(Ljava/util/Collection;)Ljava/util/List;" } : Jvm.MethodName)) ∈ tables_1 := List.mem_of_getElem? (i := 57) rfl
theorem t_58 : (Jvm.Cond.static ({ cls := "java/util/ImmutableCollections", name := "listCopy", desc := "(Ljava/util/Collection;)Ljava/util/List;" } : Jvm.MethodName)) ∈ tables_1 := List.mem_of_getElem? (i := 58) rfl
theorem t_59 : (Jvm.Cond.initialized "java/util/ImmutableCollections") ∈ tables_1 := List.mem_of_getElem? (i := 59) rfl
theorem t_60 : (Jvm.Cond.code ({ cls := "java/util/ImmutableCollections", name := "listCopy", desc := "(Ljava/util/Collection;)Ljava/util/List;" } : Jvm.MethodName) jdk_56_method_3_code (2 : Nat) (Option.some (Jvm.ClassFile.FieldType.object "java/util/List"))) ∈ tables_1 := List.mem_of_getElem? (i := 60) rfl
theorem t_61 : (Jvm.Cond.classLink "java/util/ImmutableCollections" (10 : Nat) "java/util/ImmutableCollections$List12") ∈ tables_1 := List.mem_of_getElem? (i := 61) rfl
theorem t_62 : (Jvm.Cond.superclass "java/util/ArrayList" "java/util/AbstractList") ∈ tables_1 := List.mem_of_getElem? (i := 62) rfl
theorem t_63 : (Jvm.Cond.superclass "java/util/AbstractList" "java/util/AbstractCollection") ∈ tables_1 := List.mem_of_getElem? (i := 63) rfl
theorem t_64 : (Jvm.Cond.superclass "java/util/AbstractCollection" "java/lang/Object") ∈ tables_1 := List.mem_of_getElem? (i := 64) rfl
theorem t_65 : (Jvm.Cond.noSuperclass "java/lang/Object") ∈ tables_1 := List.mem_of_getElem? (i := 65) rfl
theorem t_66 : (Jvm.Cond.classLink "java/util/ImmutableCollections" (12 : Nat) "java/util/ImmutableCollections$ListN") ∈ tables_1 := List.mem_of_getElem? (i := 66) rfl
theorem t_67 : (Jvm.Cond.methodLink "java/util/ImmutableCollections" (20 : Nat) ({ cls := "java/util/Collection", name := "isEmpty", desc := "()Z" } : Jvm.MethodName)) ∈ tables_1 := List.mem_of_getElem? (i := 67) rfl
theorem t_68 : (Jvm.Cond.declares ({ cls := "java/util/Collection", name := "isEmpty", desc := "()Z" } : Jvm.MethodName)) ∈ tables_1 := List.mem_of_getElem? (i := 68) rfl
theorem t_69 : (Jvm.Cond.interfaceMethod "java/util/Collection" "java/util/Collection" "isEmpty" "()Z") ∈ tables_1 := List.mem_of_getElem? (i := 69) rfl
theorem t_70 : (Jvm.Cond.selects "java/util/ArrayList" ({ cls := "java/util/Collection", name := "isEmpty", desc := "()Z" } : Jvm.MethodName) ({ cls := "java/util/ArrayList", name := "isEmpty", desc := "()Z" } : Jvm.MethodName)) ∈ tables_1 := List.mem_of_getElem? (i := 70) rfl
theorem t_71 : (Jvm.Cond.instanceMethod ({ cls := "java/util/ArrayList", name := "isEmpty", desc := "()Z" } : Jvm.MethodName)) ∈ tables_1 := List.mem_of_getElem? (i := 71) rfl
theorem t_72 : (Jvm.Cond.publicMethod ({ cls := "java/util/ArrayList", name := "isEmpty", desc := "()Z" } : Jvm.MethodName)) ∈ tables_1 := List.mem_of_getElem? (i := 72) rfl
theorem t_73 : (Jvm.Cond.unhidden "java/util/ArrayList" "isEmpty" "()Z") ∈ tables_1 := List.mem_of_getElem? (i := 73) rfl
theorem t_74 : (Jvm.Cond.castable "java/util/ArrayList" "java/util/Collection") ∈ tables_1 := List.mem_of_getElem? (i := 74) rfl
theorem t_75 : (Jvm.Cond.code ({ cls := "java/util/ArrayList", name := "isEmpty", desc := "()Z" } : Jvm.MethodName) jdk_38_method_9_code (1 : Nat) (Option.some Jvm.ClassFile.FieldType.boolean)) ∈ tables_1 := List.mem_of_getElem? (i := 75) rfl
theorem t_76 : (Jvm.Cond.fieldLink "java/util/ArrayList" (48 : Nat) "java/util/ArrayList" "size" "I") ∈ tables_1 := List.mem_of_getElem? (i := 76) rfl
theorem t_77 : (Jvm.Cond.lays "java/util/ArrayList" "java/util/ArrayList" "size" "I") ∈ tables_1 := List.mem_of_getElem? (i := 77) rfl
theorem t_78 : (Jvm.Cond.methodLink "java/util/ImmutableCollections" (26 : Nat) ({ cls := "java/util/List", name := "of", desc := "()Ljava/util/List;" } : Jvm.MethodName)) ∈ tables_1 := List.mem_of_getElem? (i := 78) rfl
theorem t_79 : (Jvm.Cond.static ({ cls := "java/util/List", name := "of", desc := "()Ljava/util/List;" } : Jvm.MethodName)) ∈ tables_1 := List.mem_of_getElem? (i := 79) rfl
theorem t_80 : (Jvm.Cond.code ({ cls := "java/util/List", name := "of", desc := "()Ljava/util/List;" } : Jvm.MethodName) jdk_40_method_36_code (0 : Nat) (Option.some (Jvm.ClassFile.FieldType.object "java/util/List"))) ∈ tables_1 := List.mem_of_getElem? (i := 80) rfl
theorem t_81 : (Jvm.Cond.fieldLink "java/util/List" (90 : Nat) "java/util/ImmutableCollections" "EMPTY_LIST" "Ljava/util/ImmutableCollections$ListN;") ∈ tables_1 := List.mem_of_getElem? (i := 81) rfl
theorem t_82 : (Jvm.Cond.fieldLink "com/example/variaform/variaform/model/feature/Group" (55 : Nat) "com/example/variaform/variaform/model/feature/Group" "children" "Ljava/util/List;") ∈ tables_1 := List.mem_of_getElem? (i := 82) rfl
theorem t_83 : (Jvm.Cond.laysFinal "com/example/variaform/variaform/model/feature/Group" "com/example/variaform/variaform/model/feature/Group" "children" "Ljava/util/List;") ∈ tables_1 := List.mem_of_getElem? (i := 83) rfl
theorem t_84 : (Jvm.Cond.fieldLink "com/example/variaform/variaform/model/feature/Group" (59 : Nat) "com/example/variaform/variaform/model/feature/Group" "comments" "Lcom/example/variaform/variaform/model/feature/Comments;") ∈ tables_1 := List.mem_of_getElem? (i := 84) rfl
theorem t_85 : (Jvm.Cond.laysFinal "com/example/variaform/variaform/model/feature/Group" "com/example/variaform/variaform/model/feature/Group" "comments" "Lcom/example/variaform/variaform/model/feature/Comments;") ∈ tables_1 := List.mem_of_getElem? (i := 85) rfl
theorem t_86 : (Jvm.Cond.fieldLink "com/example/variaform/variaform/model/feature/Group" (1 : Nat) "com/example/variaform/variaform/model/feature/Group$Kind" "INTERVAL" "Lcom/example/variaform/variaform/model/feature/Group$Kind;") ∈ tables_1 := List.mem_of_getElem? (i := 86) rfl
theorem t_87 : (Jvm.Cond.laysStatic "com/example/variaform/variaform/model/feature/Group$Kind" "INTERVAL" "Lcom/example/variaform/variaform/model/feature/Group$Kind;") ∈ tables_1 := List.mem_of_getElem? (i := 87) rfl
theorem t_88 : (Jvm.Cond.methodLink "com/example/variaform/variaform/model/feature/GroupIsUpperUnboundedPinLaw" (46 : Nat) ({ cls := "com/example/variaform/variaform/model/feature/Group", name := "isUpperUnbounded", desc := "()Z" } : Jvm.MethodName)) ∈ tables_1 := List.mem_of_getElem? (i := 88) rfl
theorem t_89 : (Jvm.Cond.declares ({ cls := "com/example/variaform/variaform/model/feature/Group", name := "isUpperUnbounded", desc := "()Z" } : Jvm.MethodName)) ∈ tables_1 := List.mem_of_getElem? (i := 89) rfl
theorem t_90 : (Jvm.Cond.instanceMethod ({ cls := "com/example/variaform/variaform/model/feature/Group", name := "isUpperUnbounded", desc := "()Z" } : Jvm.MethodName)) ∈ tables_1 := List.mem_of_getElem? (i := 90) rfl
theorem t_91 : (Jvm.Cond.selects "com/example/variaform/variaform/model/feature/Group" ({ cls := "com/example/variaform/variaform/model/feature/Group", name := "isUpperUnbounded", desc := "()Z" } : Jvm.MethodName) ({ cls := "com/example/variaform/variaform/model/feature/Group", name := "isUpperUnbounded", desc := "()Z" } : Jvm.MethodName)) ∈ tables_1 := List.mem_of_getElem? (i := 91) rfl
theorem t_92 : (Jvm.Cond.code ({ cls := "com/example/variaform/variaform/model/feature/Group", name := "isUpperUnbounded", desc := "()Z" } : Jvm.MethodName) prog_39_method_11_code (1 : Nat) (Option.some Jvm.ClassFile.FieldType.boolean)) ∈ tables_1 := List.mem_of_getElem? (i := 92) rfl
theorem t_93 : (Jvm.Cond.fieldLink "com/example/variaform/variaform/model/feature/GroupIsUpperUnboundedPinLaw" (59 : Nat) "com/example/variaform/variaform/model/feature/Group$Kind" "OR" "Lcom/example/variaform/variaform/model/feature/Group$Kind;") ∈ tables_1 := List.mem_of_getElem? (i := 93) rfl
theorem t_94 : (Jvm.Cond.laysStatic "com/example/variaform/variaform/model/feature/Group$Kind" "OR" "Lcom/example/variaform/variaform/model/feature/Group$Kind;") ∈ tables_1 := List.mem_of_getElem? (i := 94) rfl
theorem t_95 : (Jvm.Cond.methodLink "com/example/variaform/variaform/model/feature/GroupIsUpperUnboundedPinLaw" (42 : Nat) ({ cls := "com/example/variaform/variaform/model/feature/Group", name := "withChildren", desc := "(Ljava/util/List;)Lcom/example/variaform/variaform/model/feature/Group;" } : Jvm.MethodName)) ∈ tables_1 := List.mem_of_getElem? (i := 95) rfl
theorem t_96 : (Jvm.Cond.declares ({ cls := "com/example/variaform/variaform/model/feature/Group", name := "withChildren", desc := "(Ljava/util/List;)Lcom/example/variaform/variaform/model/feature/Group;" } : Jvm.MethodName)) ∈ tables_1 := List.mem_of_getElem? (i := 96) rfl
theorem t_97 : (Jvm.Cond.instanceMethod ({ cls := "com/example/variaform/variaform/model/feature/Group", name := "withChildren", desc := "(Ljava/util/List;)Lcom/example/variaform/variaform/model/feature/Group;" } : Jvm.MethodName)) ∈ tables_1 := List.mem_of_getElem? (i := 97) rfl
theorem t_98 : (Jvm.Cond.selects "com/example/variaform/variaform/model/feature/Group" ({ cls := "com/example/variaform/variaform/model/feature/Group", name := "withChildren", desc := "(Ljava/util/List;)Lcom/example/variaform/variaform/model/feature/Group;" } : Jvm.MethodName) ({ cls := "com/example/variaform/variaform/model/feature/Group", name := "withChildren", desc := "(Ljava/util/List;)Lcom/example/variaform/variaform/model/feature/Group;" } : Jvm.MethodName)) ∈ tables_1 := List.mem_of_getElem? (i := 98) rfl
theorem t_99 : (Jvm.Cond.code ({ cls := "com/example/variaform/variaform/model/feature/Group", name := "withChildren", desc := "(Ljava/util/List;)Lcom/example/variaform/variaform/model/feature/Group;" } : Jvm.MethodName) prog_39_method_6_code (2 : Nat) (Option.some (Jvm.ClassFile.FieldType.object "com/example/variaform/variaform/model/feature/Group"))) ∈ tables_1 := List.mem_of_getElem? (i := 99) rfl
theorem t_100 : (Jvm.Cond.classLink "com/example/variaform/variaform/model/feature/Group" (14 : Nat) "com/example/variaform/variaform/model/feature/Group") ∈ tables_1 := List.mem_of_getElem? (i := 100) rfl
theorem t_101 : (Jvm.Cond.methodLink "com/example/variaform/variaform/model/feature/GroupIsUpperUnboundedPinLaw" (33 : Nat) ({ cls := "com/example/variaform/variaform/model/feature/Group", name := "atLeast", desc := "(ILjava/util/List;)Lcom/example/variaform/variaform/model/feature/Group;" } : Jvm.MethodName)) ∈ tables_1 := List.mem_of_getElem? (i := 101) rfl
theorem t_102 : (Jvm.Cond.static ({ cls := "com/example/variaform/variaform/model/feature/Group", name := "atLeast", desc := "(ILjava/util/List;)Lcom/example/variaform/variaform/model/feature/Group;" } : Jvm.MethodName)) ∈ tables_1 := List.mem_of_getElem? (i := 102) rfl
theorem t_103 : (Jvm.Cond.code ({ cls := "com/example/variaform/variaform/model/feature/Group", name := "atLeast", desc := "(ILjava/util/List;)Lcom/example/variaform/variaform/model/feature/Group;" } : Jvm.MethodName) prog_39_method_4_code (2 : Nat) (Option.some (Jvm.ClassFile.FieldType.object "com/example/variaform/variaform/model/feature/Group"))) ∈ tables_1 := List.mem_of_getElem? (i := 103) rfl
theorem t_104 : (Jvm.Cond.classLink "com/example/variaform/variaform/model/feature/GroupIsUpperUnboundedPinLaw" (10 : Nat) "com/example/variaform/variaform/model/feature/Feature") ∈ tables_1 := List.mem_of_getElem? (i := 104) rfl
theorem t_105 : (Jvm.Cond.instantiable "com/example/variaform/variaform/model/feature/Feature" (6 : Nat)) ∈ tables_1 := List.mem_of_getElem? (i := 105) rfl
theorem t_106 : (Jvm.Cond.initialized "com/example/variaform/variaform/model/feature/Feature") ∈ tables_1 := List.mem_of_getElem? (i := 106) rfl
theorem t_107 : (Jvm.Cond.stringLink "com/example/variaform/variaform/model/feature/GroupIsUpperUnboundedPinLaw" (12 : Nat) "a") ∈ tables_1 := List.mem_of_getElem? (i := 107) rfl
theorem t_115 : (Jvm.Cond.methodLink "com/example/variaform/variaform/model/feature/GroupIsUpperUnboundedPinLaw" (14 : Nat) ({ cls := "com/example/variaform/variaform/model/feature/Feature", name := "<init>", desc := "(Ljava/lang/String;Ljava/util/List;)V" } : Jvm.MethodName)) ∈ tables_1 := List.mem_of_getElem? (i := 115) rfl
theorem t_116 : (Jvm.Cond.instanceMethod ({ cls := "com/example/variaform/variaform/model/feature/Feature", name := "<init>", desc := "(Ljava/lang/String;Ljava/util/List;)V" } : Jvm.MethodName)) ∈ tables_1 := List.mem_of_getElem? (i := 116) rfl
theorem t_117 : (Jvm.Cond.code ({ cls := "com/example/variaform/variaform/model/feature/Feature", name := "<init>", desc := "(Ljava/lang/String;Ljava/util/List;)V" } : Jvm.MethodName) prog_35_method_1_code (3 : Nat) (Option.none : Option Jvm.ClassFile.FieldType)) ∈ tables_1 := List.mem_of_getElem? (i := 117) rfl
theorem t_118 : (Jvm.Cond.fieldLink "com/example/variaform/variaform/model/feature/Feature" (1 : Nat) "com/example/variaform/variaform/model/feature/Feature$Type" "BOOLEAN" "Lcom/example/variaform/variaform/model/feature/Feature$Type;") ∈ tables_1 := List.mem_of_getElem? (i := 118) rfl
theorem t_119 : (Jvm.Cond.initialized "com/example/variaform/variaform/model/feature/Feature$Type") ∈ tables_1 := List.mem_of_getElem? (i := 119) rfl
theorem t_120 : (Jvm.Cond.laysStatic "com/example/variaform/variaform/model/feature/Feature$Type" "BOOLEAN" "Lcom/example/variaform/variaform/model/feature/Feature$Type;") ∈ tables_1 := List.mem_of_getElem? (i := 120) rfl
theorem t_121 : (Jvm.Cond.methodLink "com/example/variaform/variaform/model/feature/Feature" (7 : Nat) ({ cls := "java/util/List", name := "of", desc := "()Ljava/util/List;" } : Jvm.MethodName)) ∈ tables_1 := List.mem_of_getElem? (i := 121) rfl
theorem t_122 : (Jvm.Cond.methodLink "com/example/variaform/variaform/model/feature/Feature" (13 : Nat) ({ cls := "com/example/variaform/variaform/model/feature/Feature", name := "<init>", desc := "(Ljava/lang/String;Lcom/example/variaform/variaform/model/feature/Feature$Type;Ljava/util/List;Ljava/util/List;)V" } : Jvm.MethodName)) ∈ tables_1 := List.mem_of_getElem? (i := 122) rfl
theorem t_123 : (Jvm.Cond.instanceMethod ({ cls := "com/example/variaform/variaform/model/feature/Feature", name := "<init>", desc := "(Ljava/lang/String;Lcom/example/variaform/variaform/model/feature/Feature$Type;Ljava/util/List;Ljava/util/List;)V" } : Jvm.MethodName)) ∈ tables_1 := List.mem_of_getElem? (i := 123) rfl
theorem t_124 : (Jvm.Cond.code ({ cls := "com/example/variaform/variaform/model/feature/Feature", name := "<init>", desc := "(Ljava/lang/String;Lcom/example/variaform/variaform/model/feature/Feature$Type;Ljava/util/List;Ljava/util/List;)V" } : Jvm.MethodName) prog_35_method_2_code (5 : Nat) (Option.none : Option Jvm.ClassFile.FieldType)) ∈ tables_1 := List.mem_of_getElem? (i := 124) rfl
theorem t_125 : (Jvm.Cond.fieldLink "com/example/variaform/variaform/model/feature/Feature" (19 : Nat) "com/example/variaform/variaform/model/feature/Comments" "NONE" "Lcom/example/variaform/variaform/model/feature/Comments;") ∈ tables_1 := List.mem_of_getElem? (i := 125) rfl
theorem t_126 : (Jvm.Cond.methodLink "com/example/variaform/variaform/model/feature/Feature" (25 : Nat) ({ cls := "com/example/variaform/variaform/model/feature/Feature", name := "<init>", desc := "(Ljava/lang/String;Lcom/example/variaform/variaform/model/feature/Feature$Type;Ljava/util/List;Ljava/util/List;Lcom/example/variaform/variaform/model/feature/Comments;)V" } : Jvm.MethodName)) ∈ tables_1 := List.mem_of_getElem? (i := 126) rfl
theorem t_127 : (Jvm.Cond.instanceMethod ({ cls := "com/example/variaform/variaform/model/feature/Feature", name := "<init>", desc := "(Ljava/lang/String;Lcom/example/variaform/variaform/model/feature/Feature$Type;Ljava/util/List;Ljava/util/List;Lcom/example/variaform/variaform/model/feature/Comments;)V" } : Jvm.MethodName)) ∈ tables_1 := List.mem_of_getElem? (i := 127) rfl
theorem t_128 : (Jvm.Cond.code ({ cls := "com/example/variaform/variaform/model/feature/Feature", name := "<init>", desc := "(Ljava/lang/String;Lcom/example/variaform/variaform/model/feature/Feature$Type;Ljava/util/List;Ljava/util/List;Lcom/example/variaform/variaform/model/feature/Comments;)V" } : Jvm.MethodName) prog_35_method_3_code (10 : Nat) (Option.none : Option Jvm.ClassFile.FieldType)) ∈ tables_1 := List.mem_of_getElem? (i := 128) rfl
theorem t_129 : (Jvm.Cond.methodLink "com/example/variaform/variaform/model/feature/Feature" (28 : Nat) ({ cls := "java/lang/Object", name := "<init>", desc := "()V" } : Jvm.MethodName)) ∈ tables_1 := List.mem_of_getElem? (i := 129) rfl
theorem t_130 : (Jvm.Cond.fieldLink "com/example/variaform/variaform/model/feature/Feature" (33 : Nat) "com/example/variaform/variaform/model/feature/Feature" "name" "Ljava/lang/String;") ∈ tables_1 := List.mem_of_getElem? (i := 130) rfl
theorem t_131 : (Jvm.Cond.laysFinal "com/example/variaform/variaform/model/feature/Feature" "com/example/variaform/variaform/model/feature/Feature" "name" "Ljava/lang/String;") ∈ tables_1 := List.mem_of_getElem? (i := 131) rfl
theorem t_132 : (Jvm.Cond.fieldLink "com/example/variaform/variaform/model/feature/Feature" (37 : Nat) "com/example/variaform/variaform/model/feature/Feature" "type" "Lcom/example/variaform/variaform/model/feature/Feature$Type;") ∈ tables_1 := List.mem_of_getElem? (i := 132) rfl
theorem t_133 : (Jvm.Cond.laysFinal "com/example/variaform/variaform/model/feature/Feature" "com/example/variaform/variaform/model/feature/Feature" "type" "Lcom/example/variaform/variaform/model/feature/Feature$Type;") ∈ tables_1 := List.mem_of_getElem? (i := 133) rfl
theorem t_134 : (Jvm.Cond.methodLink "com/example/variaform/variaform/model/feature/Feature" (40 : Nat) ({ cls := "java/util/List", name := "copyOf", desc := "(Ljava/util/Collection;)Ljava/util/List;" } : Jvm.MethodName)) ∈ tables_1 := List.mem_of_getElem? (i := 134) rfl
theorem t_135 : (Jvm.Cond.fieldLink "com/example/variaform/variaform/model/feature/Feature" (44 : Nat) "com/example/variaform/variaform/model/feature/Feature" "groups" "Ljava/util/List;") ∈ tables_1 := List.mem_of_getElem? (i := 135) rfl
theorem t_136 : (Jvm.Cond.laysFinal "com/example/variaform/variaform/model/feature/Feature" "com/example/variaform/variaform/model/feature/Feature" "groups" "Ljava/util/List;") ∈ tables_1 := List.mem_of_getElem? (i := 136) rfl
theorem t_137 : (Jvm.Cond.superclass "java/util/ImmutableCollections$ListN" "java/util/ImmutableCollections$AbstractImmutableList") ∈ tables_1 := List.mem_of_getElem? (i := 137) rfl
theorem t_138 : (Jvm.Cond.superclass "java/util/ImmutableCollections$AbstractImmutableList" "java/util/ImmutableCollections$AbstractImmutableCollection") ∈ tables_1 := List.mem_of_getElem? (i := 138) rfl
theorem t_139 : (Jvm.Cond.superclass "java/util/ImmutableCollections$AbstractImmutableCollection" "java/util/AbstractCollection") ∈ tables_1 := List.mem_of_getElem? (i := 139) rfl
theorem t_141 : (Jvm.Cond.fieldLinkNest "java/util/ImmutableCollections" (14 : Nat) "java/util/ImmutableCollections$ListN" "allowNulls" "Z" "java/util/ImmutableCollections") ∈ tables_1 := List.mem_of_getElem? (i := 141) rfl
theorem t_143 : (Jvm.Cond.classLink "java/util/ImmutableCollections" (18 : Nat) "java/util/List") ∈ tables_1 := List.mem_of_getElem? (i := 143) rfl
theorem t_144 : (Jvm.Cond.castable "java/util/ImmutableCollections$ListN" "java/util/List") ∈ tables_1 := List.mem_of_getElem? (i := 144) rfl
theorem t_145 : (Jvm.Cond.fieldLink "com/example/variaform/variaform/model/feature/Feature" (48 : Nat) "com/example/variaform/variaform/model/feature/Feature" "attributes" "Ljava/util/List;") ∈ tables_1 := List.mem_of_getElem? (i := 145) rfl
theorem t_146 : (Jvm.Cond.laysFinal "com/example/variaform/variaform/model/feature/Feature" "com/example/variaform/variaform/model/feature/Feature" "attributes" "Ljava/util/List;") ∈ tables_1 := List.mem_of_getElem? (i := 146) rfl
theorem t_147 : (Jvm.Cond.fieldLink "com/example/variaform/variaform/model/feature/Feature" (51 : Nat) "com/example/variaform/variaform/model/feature/Feature" "comments" "Lcom/example/variaform/variaform/model/feature/Comments;") ∈ tables_1 := List.mem_of_getElem? (i := 147) rfl
theorem t_148 : (Jvm.Cond.laysFinal "com/example/variaform/variaform/model/feature/Feature" "com/example/variaform/variaform/model/feature/Feature" "comments" "Lcom/example/variaform/variaform/model/feature/Comments;") ∈ tables_1 := List.mem_of_getElem? (i := 148) rfl
theorem t_149 : (Jvm.Cond.methodLink "com/example/variaform/variaform/model/feature/Feature" (54 : Nat) ({ cls := "java/util/List", name := "iterator", desc := "()Ljava/util/Iterator;" } : Jvm.MethodName)) ∈ tables_1 := List.mem_of_getElem? (i := 149) rfl
theorem t_150 : (Jvm.Cond.declares ({ cls := "java/util/List", name := "iterator", desc := "()Ljava/util/Iterator;" } : Jvm.MethodName)) ∈ tables_1 := List.mem_of_getElem? (i := 150) rfl
theorem t_151 : (Jvm.Cond.interfaceMethod "java/util/List" "java/util/List" "iterator" "()Ljava/util/Iterator;") ∈ tables_1 := List.mem_of_getElem? (i := 151) rfl
theorem t_152 : (Jvm.Cond.selects "java/util/ImmutableCollections$ListN" ({ cls := "java/util/List", name := "iterator", desc := "()Ljava/util/Iterator;" } : Jvm.MethodName) ({ cls := "java/util/ImmutableCollections$AbstractImmutableList", name := "iterator", desc := "()Ljava/util/Iterator;" } : Jvm.MethodName)) ∈ tables_1 := List.mem_of_getElem? (i := 152) rfl
theorem t_153 : (Jvm.Cond.instanceMethod ({ cls := "java/util/ImmutableCollections$AbstractImmutableList", name := "iterator", desc := "()Ljava/util/Iterator;" } : Jvm.MethodName)) ∈ tables_1 := List.mem_of_getElem? (i := 153) rfl
theorem t_154 : (Jvm.Cond.publicMethod ({ cls := "java/util/ImmutableCollections$AbstractImmutableList", name := "iterator", desc := "()Ljava/util/Iterator;" } : Jvm.MethodName)) ∈ tables_1 := List.mem_of_getElem? (i := 154) rfl
theorem t_155 : (Jvm.Cond.unhidden "java/util/ImmutableCollections$ListN" "iterator" "()Ljava/util/Iterator;") ∈ tables_1 := List.mem_of_getElem? (i := 155) rfl
theorem t_156 : (Jvm.Cond.initialized "java/util/ImmutableCollections$AbstractImmutableList") ∈ tables_1 := List.mem_of_getElem? (i := 156) rfl
theorem t_157 : (Jvm.Cond.code ({ cls := "java/util/ImmutableCollections$AbstractImmutableList", name := "iterator", desc := "()Ljava/util/Iterator;" } : Jvm.MethodName) jdk_46_method_10_code (1 : Nat) (Option.some (Jvm.ClassFile.FieldType.object "java/util/Iterator"))) ∈ tables_1 := List.mem_of_getElem? (i := 157) rfl
theorem t_158 : (Jvm.Cond.classLink "java/util/ImmutableCollections$AbstractImmutableList" (61 : Nat) "java/util/ImmutableCollections$ListItr") ∈ tables_1 := List.mem_of_getElem? (i := 158) rfl
theorem t_159 : (Jvm.Cond.instantiable "java/util/ImmutableCollections$ListItr" (4 : Nat)) ∈ tables_1 := List.mem_of_getElem? (i := 159) rfl
theorem t_160 : (Jvm.Cond.initialized "java/util/ImmutableCollections$ListItr") ∈ tables_1 := List.mem_of_getElem? (i := 160) rfl
theorem t_161 : (Jvm.Cond.methodLink "java/util/ImmutableCollections$AbstractImmutableList" (13 : Nat) ({ cls := "java/util/ImmutableCollections$AbstractImmutableList", name := "size", desc := "()I" } : Jvm.MethodName)) ∈ tables_1 := List.mem_of_getElem? (i := 161) rfl
theorem t_162 : (Jvm.Cond.sameMethod "java/util/ImmutableCollections$AbstractImmutableList" "java/util/AbstractCollection" "size" "()I") ∈ tables_1 := List.mem_of_getElem? (i := 162) rfl
theorem t_163 : (Jvm.Cond.declares ({ cls := "java/util/AbstractCollection", name := "size", desc := "()I" } : Jvm.MethodName)) ∈ tables_1 := List.mem_of_getElem? (i := 163) rfl
theorem t_164 : (Jvm.Cond.selects "java/util/ImmutableCollections$ListN" ({ cls := "java/util/ImmutableCollections$AbstractImmutableList", name := "size", desc := "()I" } : Jvm.MethodName) ({ cls := "java/util/ImmutableCollections$ListN", name := "size", desc := "()I" } : Jvm.MethodName)) ∈ tables_1 := List.mem_of_getElem? (i := 164) rfl
theorem t_165 : (Jvm.Cond.instanceMethod ({ cls := "java/util/ImmutableCollections$ListN", name := "size", desc := "()I" } : Jvm.MethodName)) ∈ tables_1 := List.mem_of_getElem? (i := 165) rfl
theorem t_166 : (Jvm.Cond.initialized "java/util/ImmutableCollections$ListN") ∈ tables_1 := List.mem_of_getElem? (i := 166) rfl
theorem t_167 : (Jvm.Cond.code ({ cls := "java/util/ImmutableCollections$ListN", name := "size", desc := "()I" } : Jvm.MethodName) jdk_45_method_3_code (1 : Nat) (Option.some Jvm.ClassFile.FieldType.int)) ∈ tables_1 := List.mem_of_getElem? (i := 167) rfl
theorem t_168 : (Jvm.Cond.fieldLink "java/util/ImmutableCollections$ListN" (7 : Nat) "java/util/ImmutableCollections$ListN" "elements" "[Ljava/lang/Object;") ∈ tables_1 := List.mem_of_getElem? (i := 168) rfl
theorem t_170 : (Jvm.Cond.methodLink "java/util/ImmutableCollections$AbstractImmutableList" (63 : Nat) ({ cls := "java/util/ImmutableCollections$ListItr", name := "<init>", desc := "(Ljava/util/List;I)V" } : Jvm.MethodName)) ∈ tables_1 := List.mem_of_getElem? (i := 170) rfl
theorem t_171 : (Jvm.Cond.instanceMethod ({ cls := "java/util/ImmutableCollections$ListItr", name := "<init>", desc := "(Ljava/util/List;I)V" } : Jvm.MethodName)) ∈ tables_1 := List.mem_of_getElem? (i := 171) rfl
theorem t_173 : (Jvm.Cond.code ({ cls := "java/util/ImmutableCollections$ListItr", name := "<init>", desc := "(Ljava/util/List;I)V" } : Jvm.MethodName) jdk_53_method_1_code (3 : Nat) (Option.none : Option Jvm.ClassFile.FieldType)) ∈ tables_1 := List.mem_of_getElem? (i := 173) rfl
theorem t_174 : (Jvm.Cond.methodLink "java/util/ImmutableCollections$ListItr" (1 : Nat) ({ cls := "java/lang/Object", name := "<init>", desc := "()V" } : Jvm.MethodName)) ∈ tables_1 := List.mem_of_getElem? (i := 174) rfl
theorem t_175 : (Jvm.Cond.fieldLink "java/util/ImmutableCollections$ListItr" (7 : Nat) "java/util/ImmutableCollections$ListItr" "list" "Ljava/util/List;") ∈ tables_1 := List.mem_of_getElem? (i := 175) rfl
theorem t_176 : (Jvm.Cond.laysFinal "java/util/ImmutableCollections$ListItr" "java/util/ImmutableCollections$ListItr" "list" "Ljava/util/List;") ∈ tables_1 := List.mem_of_getElem? (i := 176) rfl
theorem t_177 : (Jvm.Cond.fieldLink "java/util/ImmutableCollections$ListItr" (13 : Nat) "java/util/ImmutableCollections$ListItr" "size" "I") ∈ tables_1 := List.mem_of_getElem? (i := 177) rfl
theorem t_178 : (Jvm.Cond.laysFinal "java/util/ImmutableCollections$ListItr" "java/util/ImmutableCollections$ListItr" "size" "I") ∈ tables_1 := List.mem_of_getElem? (i := 178) rfl
theorem t_179 : (Jvm.Cond.fieldLink "java/util/ImmutableCollections$ListItr" (17 : Nat) "java/util/ImmutableCollections$ListItr" "cursor" "I") ∈ tables_1 := List.mem_of_getElem? (i := 179) rfl
theorem t_180 : (Jvm.Cond.lays "java/util/ImmutableCollections$ListItr" "java/util/ImmutableCollections$ListItr" "cursor" "I") ∈ tables_1 := List.mem_of_getElem? (i := 180) rfl
theorem t_181 : (Jvm.Cond.fieldLink "java/util/ImmutableCollections$ListItr" (20 : Nat) "java/util/ImmutableCollections$ListItr" "isListIterator" "Z") ∈ tables_1 := List.mem_of_getElem? (i := 181) rfl
theorem t_182 : (Jvm.Cond.laysFinal "java/util/ImmutableCollections$ListItr" "java/util/ImmutableCollections$ListItr" "isListIterator" "Z") ∈ tables_1 := List.mem_of_getElem? (i := 182) rfl
theorem t_183 : (Jvm.Cond.methodLink "com/example/variaform/variaform/model/feature/Feature" (58 : Nat) ({ cls := "java/util/Iterator", name := "hasNext", desc := "()Z" } : Jvm.MethodName)) ∈ tables_1 := List.mem_of_getElem? (i := 183) rfl
theorem t_184 : (Jvm.Cond.declares ({ cls := "java/util/Iterator", name := "hasNext", desc := "()Z" } : Jvm.MethodName)) ∈ tables_1 := List.mem_of_getElem? (i := 184) rfl
theorem t_185 : (Jvm.Cond.interfaceMethod "java/util/Iterator" "java/util/Iterator" "hasNext" "()Z") ∈ tables_1 := List.mem_of_getElem? (i := 185) rfl
theorem t_186 : (Jvm.Cond.selects "java/util/ImmutableCollections$ListItr" ({ cls := "java/util/Iterator", name := "hasNext", desc := "()Z" } : Jvm.MethodName) ({ cls := "java/util/ImmutableCollections$ListItr", name := "hasNext", desc := "()Z" } : Jvm.MethodName)) ∈ tables_1 := List.mem_of_getElem? (i := 186) rfl
theorem t_187 : (Jvm.Cond.instanceMethod ({ cls := "java/util/ImmutableCollections$ListItr", name := "hasNext", desc := "()Z" } : Jvm.MethodName)) ∈ tables_1 := List.mem_of_getElem? (i := 187) rfl
theorem t_188 : (Jvm.Cond.publicMethod ({ cls := "java/util/ImmutableCollections$ListItr", name := "hasNext", desc := "()Z" } : Jvm.MethodName)) ∈ tables_1 := List.mem_of_getElem? (i := 188) rfl
theorem t_189 : (Jvm.Cond.unhidden "java/util/ImmutableCollections$ListItr" "hasNext" "()Z") ∈ tables_1 := List.mem_of_getElem? (i := 189) rfl
theorem t_190 : (Jvm.Cond.castable "java/util/ImmutableCollections$ListItr" "java/util/Iterator") ∈ tables_1 := List.mem_of_getElem? (i := 190) rfl
theorem t_191 : (Jvm.Cond.code ({ cls := "java/util/ImmutableCollections$ListItr", name := "hasNext", desc := "()Z" } : Jvm.MethodName) jdk_53_method_3_code (1 : Nat) (Option.some Jvm.ClassFile.FieldType.boolean)) ∈ tables_1 := List.mem_of_getElem? (i := 191) rfl
theorem t_192 : (Jvm.Cond.methodLink "com/example/variaform/variaform/model/feature/GroupIsUpperUnboundedPinLaw" (17 : Nat) ({ cls := "java/util/ArrayList", name := "add", desc := "(Ljava/lang/Object;)Z" } : Jvm.MethodName)) ∈ tables_1 := List.mem_of_getElem? (i := 192) rfl
theorem t_193 : (Jvm.Cond.declares ({ cls := "java/util/ArrayList", name := "add", desc := "(Ljava/lang/Object;)Z" } : Jvm.MethodName)) ∈ tables_1 := List.mem_of_getElem? (i := 193) rfl
theorem t_194 : (Jvm.Cond.instanceMethod ({ cls := "java/util/ArrayList", name := "add", desc := "(Ljava/lang/Object;)Z" } : Jvm.MethodName)) ∈ tables_1 := List.mem_of_getElem? (i := 194) rfl
theorem t_195 : (Jvm.Cond.selects "java/util/ArrayList" ({ cls := "java/util/ArrayList", name := "add", desc := "(Ljava/lang/Object;)Z" } : Jvm.MethodName) ({ cls := "java/util/ArrayList", name := "add", desc := "(Ljava/lang/Object;)Z" } : Jvm.MethodName)) ∈ tables_1 := List.mem_of_getElem? (i := 195) rfl
theorem t_196 : (Jvm.Cond.code ({ cls := "java/util/ArrayList", name := "add", desc := "(Ljava/lang/Object;)Z" } : Jvm.MethodName) jdk_38_method_25_code (2 : Nat) (Option.some Jvm.ClassFile.FieldType.boolean)) ∈ tables_1 := List.mem_of_getElem? (i := 196) rfl
theorem t_197 : (Jvm.Cond.fieldLink "java/util/ArrayList" (63 : Nat) "java/util/ArrayList" "modCount" "I") ∈ tables_1 := List.mem_of_getElem? (i := 197) rfl
theorem t_198 : (Jvm.Cond.sameField "java/util/ArrayList" "java/util/AbstractList" "modCount" "I") ∈ tables_1 := List.mem_of_getElem? (i := 198) rfl
theorem t_199 : (Jvm.Cond.methodLink "java/util/ArrayList" (131 : Nat) ({ cls := "java/util/ArrayList", name := "add", desc := "(Ljava/lang/Object;[Ljava/lang/Object;I)V" } : Jvm.MethodName)) ∈ tables_1 := List.mem_of_getElem? (i := 199) rfl
theorem t_200 : (Jvm.Cond.instanceMethod ({ cls := "java/util/ArrayList", name := "add", desc := "(Ljava/lang/Object;[Ljava/lang/Object;I)V" } : Jvm.MethodName)) ∈ tables_1 := List.mem_of_getElem? (i := 200) rfl
theorem t_201 : (Jvm.Cond.privateMethod ({ cls := "java/util/ArrayList", name := "add", desc := "(Ljava/lang/Object;[Ljava/lang/Object;I)V" } : Jvm.MethodName)) ∈ tables_1 := List.mem_of_getElem? (i := 201) rfl
theorem t_203 : (Jvm.Cond.code ({ cls := "java/util/ArrayList", name := "add", desc := "(Ljava/lang/Object;[Ljava/lang/Object;I)V" } : Jvm.MethodName) jdk_38_method_24_code (4 : Nat) (Option.none : Option Jvm.ClassFile.FieldType)) ∈ tables_1 := List.mem_of_getElem? (i := 203) rfl
theorem t_204 : (Jvm.Cond.methodLink "java/util/ArrayList" (129 : Nat) ({ cls := "java/util/ArrayList", name := "grow", desc := "()[Ljava/lang/Object;" } : Jvm.MethodName)) ∈ tables_1 := List.mem_of_getElem? (i := 204) rfl
theorem t_205 : (Jvm.Cond.instanceMethod ({ cls := "java/util/ArrayList", name := "grow", desc := "()[Ljava/lang/Object;" } : Jvm.MethodName)) ∈ tables_1 := List.mem_of_getElem? (i := 205) rfl
theorem t_206 : (Jvm.Cond.privateMethod ({ cls := "java/util/ArrayList", name := "grow", desc := "()[Ljava/lang/Object;" } : Jvm.MethodName)) ∈ tables_1 := List.mem_of_getElem? (i := 206) rfl
theorem t_208 : (Jvm.Cond.code ({ cls := "java/util/ArrayList", name := "grow", desc := "()[Ljava/lang/Object;" } : Jvm.MethodName) jdk_38_method_7_code (1 : Nat) (Option.some (Jvm.ClassFile.FieldType.array (Jvm.ClassFile.FieldType.object "java/lang/Object")))) ∈ tables_1 := List.mem_of_getElem? (i := 208) rfl
theorem t_209 : (Jvm.Cond.methodLink "java/util/ArrayList" (69 : Nat) ({ cls := "java/util/ArrayList", name := "grow", desc := "(I)[Ljava/lang/Object;" } : Jvm.MethodName)) ∈ tables_1 := List.mem_of_getElem? (i := 209) rfl
theorem t_210 : (Jvm.Cond.instanceMethod ({ cls := "java/util/ArrayList", name := "grow", desc := "(I)[Ljava/lang/Object;" } : Jvm.MethodName)) ∈ tables_1 := List.mem_of_getElem? (i := 210) rfl
theorem t_211 : (Jvm.Cond.privateMethod ({ cls := "java/util/ArrayList", name := "grow", desc := "(I)[Ljava/lang/Object;" } : Jvm.MethodName)) ∈ tables_1 := List.mem_of_getElem? (i := 211) rfl
theorem t_213 : (Jvm.Cond.code ({ cls := "java/util/ArrayList", name := "grow", desc := "(I)[Ljava/lang/Object;" } : Jvm.MethodName) jdk_38_method_6_code (4 : Nat) (Option.some (Jvm.ClassFile.FieldType.array (Jvm.ClassFile.FieldType.object "java/lang/Object")))) ∈ tables_1 := List.mem_of_getElem? (i := 213) rfl
theorem t_214 : (Jvm.Cond.methodLink "java/util/ArrayList" (79 : Nat) ({ cls := "java/lang/Math", name := "max", desc := "(II)I" } : Jvm.MethodName)) ∈ tables_1 := List.mem_of_getElem? (i := 214) rfl
theorem t_215 : (Jvm.Cond.static ({ cls := "java/lang/Math", name := "max", desc := "(II)I" } : Jvm.MethodName)) ∈ tables_1 := List.mem_of_getElem? (i := 215) rfl
theorem t_216 : (Jvm.Cond.initialized "java/lang/Math") ∈ tables_1 := List.mem_of_getElem? (i := 216) rfl
theorem t_217 : (Jvm.Cond.code ({ cls := "java/lang/Math", name := "max", desc := "(II)I" } : Jvm.MethodName) jdk_29_method_65_code (2 : Nat) (Option.some Jvm.ClassFile.FieldType.int)) ∈ tables_1 := List.mem_of_getElem? (i := 217) rfl
theorem t_218 : (Jvm.Cond.classLink "java/util/ArrayList" (7 : Nat) "java/lang/Object") ∈ tables_1 := List.mem_of_getElem? (i := 218) rfl
theorem t_219 : (Jvm.Cond.arrayOver (Jvm.ClassFile.FieldType.object "java/lang/Object")) ∈ tables_1 := List.mem_of_getElem? (i := 219) rfl
theorem t_220 : (Jvm.Cond.castable "com/example/variaform/variaform/model/feature/Feature" "java/lang/Object") ∈ tables_1 := List.mem_of_getElem? (i := 220) rfl
theorem t_221 : (Jvm.Cond.fieldLink "com/example/variaform/variaform/model/feature/GroupIsUpperUnboundedPinLaw" (50 : Nat) "com/example/variaform/variaform/model/feature/Group$Kind" "MANDATORY" "Lcom/example/variaform/variaform/model/feature/Group$Kind;") ∈ tables_1 := List.mem_of_getElem? (i := 221) rfl
theorem t_222 : (Jvm.Cond.laysStatic "com/example/variaform/variaform/model/feature/Group$Kind" "MANDATORY" "Lcom/example/variaform/variaform/model/feature/Group$Kind;") ∈ tables_1 := List.mem_of_getElem? (i := 222) rfl
theorem t_223 : (Jvm.Cond.methodLink "java/util/ImmutableCollections" (30 : Nat) ({ cls := "java/util/Collection", name := "toArray", desc := "()[Ljava/lang/Object;" } : Jvm.MethodName)) ∈ tables_1 := List.mem_of_getElem? (i := 223) rfl
theorem t_224 : (Jvm.Cond.declares ({ cls := "java/util/Collection", name := "toArray", desc := "()[Ljava/lang/Object;" } : Jvm.MethodName)) ∈ tables_1 := List.mem_of_getElem? (i := 224) rfl
theorem t_225 : (Jvm.Cond.interfaceMethod "java/util/Collection" "java/util/Collection" "toArray" "()[Ljava/lang/Object;") ∈ tables_1 := List.mem_of_getElem? (i := 225) rfl
theorem t_226 : (Jvm.Cond.selects "java/util/ArrayList" ({ cls := "java/util/Collection", name := "toArray", desc := "()[Ljava/lang/Object;" } : Jvm.MethodName) ({ cls := "java/util/ArrayList", name := "toArray", desc := "()[Ljava/lang/Object;" } : Jvm.MethodName)) ∈ tables_1 := List.mem_of_getElem? (i := 226) rfl
theorem t_227 : (Jvm.Cond.instanceMethod ({ cls := "java/util/ArrayList", name := "toArray", desc := "()[Ljava/lang/Object;" } : Jvm.MethodName)) ∈ tables_1 := List.mem_of_getElem? (i := 227) rfl
theorem t_228 : (Jvm.Cond.publicMethod ({ cls := "java/util/ArrayList", name := "toArray", desc := "()[Ljava/lang/Object;" } : Jvm.MethodName)) ∈ tables_1 := List.mem_of_getElem? (i := 228) rfl
theorem t_229 : (Jvm.Cond.unhidden "java/util/ArrayList" "toArray" "()[Ljava/lang/Object;") ∈ tables_1 := List.mem_of_getElem? (i := 229) rfl
theorem t_230 : (Jvm.Cond.code ({ cls := "java/util/ArrayList", name := "toArray", desc := "()[Ljava/lang/Object;" } : Jvm.MethodName) jdk_38_method_16_code (1 : Nat) (Option.some (Jvm.ClassFile.FieldType.array (Jvm.ClassFile.FieldType.object "java/lang/Object")))) ∈ tables_1 := List.mem_of_getElem? (i := 230) rfl
theorem t_231 : (Jvm.Cond.methodLink "java/util/ArrayList" (66 : Nat) ({ cls := "java/util/Arrays", name := "copyOf", desc := "([Ljava/lang/Object;I)[Ljava/lang/Object;" } : Jvm.MethodName)) ∈ tables_1 := List.mem_of_getElem? (i := 231) rfl
theorem t_232 : (Jvm.Cond.static ({ cls := "java/util/Arrays", name := "copyOf", desc := "([Ljava/lang/Object;I)[Ljava/lang/Object;" } : Jvm.MethodName)) ∈ tables_1 := List.mem_of_getElem? (i := 232) rfl
theorem t_233 : (Jvm.Cond.initialized "java/util/Arrays") ∈ tables_1 := List.mem_of_getElem? (i := 233) rfl
theorem t_234 : (Jvm.Cond.code ({ cls := "java/util/Arrays", name := "copyOf", desc := "([Ljava/lang/Object;I)[Ljava/lang/Object;" } : Jvm.MethodName) jdk_65_method_119_code (2 : Nat) (Option.some (Jvm.ClassFile.FieldType.array (Jvm.ClassFile.FieldType.object "java/lang/Object")))) ∈ tables_1 := List.mem_of_getElem? (i := 234) rfl
theorem t_235 : (Jvm.Cond.methodLink "java/util/Arrays" (86 : Nat) ({ cls := "java/lang/Object", name := "getClass", desc := "()Ljava/lang/Class;" } : Jvm.MethodName)) ∈ tables_1 := List.mem_of_getElem? (i := 235) rfl
theorem t_236 : (Jvm.Cond.declares ({ cls := "java/lang/Object", name := "getClass", desc := "()Ljava/lang/Class;" } : Jvm.MethodName)) ∈ tables_1 := List.mem_of_getElem? (i := 236) rfl
theorem t_237 : (Jvm.Cond.instanceMethod ({ cls := "java/lang/Object", name := "getClass", desc := "()Ljava/lang/Class;" } : Jvm.MethodName)) ∈ tables_1 := List.mem_of_getElem? (i := 237) rfl
theorem t_238 : (Jvm.Cond.selects "[Ljava/lang/Object;" ({ cls := "java/lang/Object", name := "getClass", desc := "()Ljava/lang/Class;" } : Jvm.MethodName) ({ cls := "java/lang/Object", name := "getClass", desc := "()Ljava/lang/Class;" } : Jvm.MethodName)) ∈ tables_1 := List.mem_of_getElem? (i := 238) rfl
theorem t_239 : (Jvm.Cond.native ({ cls := "java/lang/Object", name := "getClass", desc := "()Ljava/lang/Class;" } : Jvm.MethodName)) ∈ tables_1 := List.mem_of_getElem? (i := 239) rfl
theorem t_241 : (Jvm.Cond.methodLink "java/util/Arrays" (300 : Nat) ({ cls := "java/util/Arrays", name := "copyOf", desc := "([Ljava/lang/Object;ILjava/lang/Class;)[Ljava/lang/Object;" } : Jvm.MethodName)) ∈ tables_1 := List.mem_of_getElem? (i := 241) rfl
theorem t_242 : (Jvm.Cond.static ({ cls := "java/util/Arrays", name := "copyOf", desc := "([Ljava/lang/Object;ILjava/lang/Class;)[Ljava/lang/Object;" } : Jvm.MethodName)) ∈ tables_1 := List.mem_of_getElem? (i := 242) rfl
theorem t_243 : (Jvm.Cond.code ({ cls := "java/util/Arrays", name := "copyOf", desc := "([Ljava/lang/Object;ILjava/lang/Class;)[Ljava/lang/Object;" } : Jvm.MethodName) jdk_65_method_120_code (4 : Nat) (Option.some (Jvm.ClassFile.FieldType.array (Jvm.ClassFile.FieldType.object "java/lang/Object")))) ∈ tables_1 := List.mem_of_getElem? (i := 243) rfl
theorem t_244 : (Jvm.Cond.classLink "java/util/Arrays" (110 : Nat) "[Ljava/lang/Object;") ∈ tables_1 := List.mem_of_getElem? (i := 244) rfl
theorem t_245 : (Jvm.Cond.classLink "java/util/Arrays" (2 : Nat) "java/lang/Object") ∈ tables_1 := List.mem_of_getElem? (i := 245) rfl
theorem t_246 : (Jvm.Cond.methodLink "java/util/Arrays" (304 : Nat) ({ cls := "java/lang/Math", name := "min", desc := "(II)I" } : Jvm.MethodName)) ∈ tables_1 := List.mem_of_getElem? (i := 246) rfl
theorem t_247 : (Jvm.Cond.static ({ cls := "java/lang/Math", name := "min", desc := "(II)I" } : Jvm.MethodName)) ∈ tables_1 := List.mem_of_getElem? (i := 247) rfl
theorem t_248 : (Jvm.Cond.code ({ cls := "java/lang/Math", name := "min", desc := "(II)I" } : Jvm.MethodName) jdk_29_method_69_code (2 : Nat) (Option.some Jvm.ClassFile.FieldType.int)) ∈ tables_1 := List.mem_of_getElem? (i := 248) rfl
theorem t_249 : (Jvm.Cond.methodLink "java/util/Arrays" (150 : Nat) ({ cls := "java/lang/System", name := "arraycopy", desc := "(Ljava/lang/Object;ILjava/lang/Object;II)V" } : Jvm.MethodName)) ∈ tables_1 := List.mem_of_getElem? (i := 249) rfl
theorem t_250 : (Jvm.Cond.static ({ cls := "java/lang/System", name := "arraycopy", desc := "(Ljava/lang/Object;ILjava/lang/Object;II)V" } : Jvm.MethodName)) ∈ tables_1 := List.mem_of_getElem? (i := 250) rfl
theorem t_251 : (Jvm.Cond.initialized "java/lang/System") ∈ tables_1 := List.mem_of_getElem? (i := 251) rfl
theorem t_252 : (Jvm.Cond.native ({ cls := "java/lang/System", name := "arraycopy", desc := "(Ljava/lang/Object;ILjava/lang/Object;II)V" } : Jvm.MethodName)) ∈ tables_1 := List.mem_of_getElem? (i := 252) rfl
theorem t_253 : (Jvm.Cond.methodLink "java/util/ImmutableCollections" (34 : Nat) ({ cls := "java/util/List", name := "of", desc := "([Ljava/lang/Object;)Ljava/util/List;" } : Jvm.MethodName)) ∈ tables_1 := List.mem_of_getElem? (i := 253) rfl
theorem t_254 : (Jvm.Cond.static ({ cls := "java/util/List", name := "of", desc := "([Ljava/lang/Object;)Ljava/util/List;" } : Jvm.MethodName)) ∈ tables_1 := List.mem_of_getElem? (i := 254) rfl
theorem t_255 : (Jvm.Cond.code ({ cls := "java/util/List", name := "of", desc := "([Ljava/lang/Object;)Ljava/util/List;" } : Jvm.MethodName) jdk_40_method_47_code (2 : Nat) (Option.some (Jvm.ClassFile.FieldType.object "java/util/List"))) ∈ tables_1 := List.mem_of_getElem? (i := 255) rfl
theorem t_256 : (Jvm.Cond.classLink "java/util/List" (96 : Nat) "java/util/ImmutableCollections$List12") ∈ tables_1 := List.mem_of_getElem? (i := 256) rfl
theorem t_257 : (Jvm.Cond.instantiable "java/util/ImmutableCollections$List12" (2 : Nat)) ∈ tables_1 := List.mem_of_getElem? (i := 257) rfl
theorem t_258 : (Jvm.Cond.initialized "java/util/ImmutableCollections$List12") ∈ tables_1 := List.mem_of_getElem? (i := 258) rfl
theorem t_259 : (Jvm.Cond.methodLink "java/util/List" (98 : Nat) ({ cls := "java/util/ImmutableCollections$List12", name := "<init>", desc := "(Ljava/lang/Object;)V" } : Jvm.MethodName)) ∈ tables_1 := List.mem_of_getElem? (i := 259) rfl
theorem t_260 : (Jvm.Cond.instanceMethod ({ cls := "java/util/ImmutableCollections$List12", name := "<init>", desc := "(Ljava/lang/Object;)V" } : Jvm.MethodName)) ∈ tables_1 := List.mem_of_getElem? (i := 260) rfl
theorem t_262 : (Jvm.Cond.code ({ cls := "java/util/ImmutableCollections$List12", name := "<init>", desc := "(Ljava/lang/Object;)V" } : Jvm.MethodName) jdk_44_method_1_code (2 : Nat) (Option.none : Option Jvm.ClassFile.FieldType)) ∈ tables_1 := List.mem_of_getElem? (i := 262) rfl
theorem t_263 : (Jvm.Cond.methodLink "java/util/ImmutableCollections$List12" (1 : Nat) ({ cls := "java/util/ImmutableCollections$AbstractImmutableList", name := "<init>", desc := "()V" } : Jvm.MethodName)) ∈ tables_1 := List.mem_of_getElem? (i := 263) rfl
theorem t_264 : (Jvm.Cond.instanceMethod ({ cls := "java/util/ImmutableCollections$AbstractImmutableList", name := "<init>", desc := "()V" } : Jvm.MethodName)) ∈ tables_1 := List.mem_of_getElem? (i := 264) rfl
theorem t_267 : (Jvm.Cond.code ({ cls := "java/util/ImmutableCollections$AbstractImmutableList", name := "<init>", desc := "()V" } : Jvm.MethodName) jdk_46_method_1_code (1 : Nat) (Option.none : Option Jvm.ClassFile.FieldType)) ∈ tables_1 := List.mem_of_getElem? (i := 267) rfl
theorem t_268 : (Jvm.Cond.methodLink "java/util/ImmutableCollections$AbstractImmutableList" (1 : Nat) ({ cls := "java/util/ImmutableCollections$AbstractImmutableCollection", name := "<init>", desc := "()V" } : Jvm.MethodName)) ∈ tables_1 := List.mem_of_getElem? (i := 268) rfl
theorem t_269 : (Jvm.Cond.instanceMethod ({ cls := "java/util/ImmutableCollections$AbstractImmutableCollection", name := "<init>", desc := "()V" } : Jvm.MethodName)) ∈ tables_1 := List.mem_of_getElem? (i := 269) rfl
theorem t_272 : (Jvm.Cond.initialized "java/util/ImmutableCollections$AbstractImmutableCollection") ∈ tables_1 := List.mem_of_getElem? (i := 272) rfl
theorem t_273 : (Jvm.Cond.code ({ cls := "java/util/ImmutableCollections$AbstractImmutableCollection", name := "<init>", desc := "()V" } : Jvm.MethodName) jdk_47_method_1_code (1 : Nat) (Option.none : Option Jvm.ClassFile.FieldType)) ∈ tables_1 := List.mem_of_getElem? (i := 273) rfl
theorem t_274 : (Jvm.Cond.methodLink "java/util/ImmutableCollections$AbstractImmutableCollection" (1 : Nat) ({ cls := "java/util/AbstractCollection", name := "<init>", desc := "()V" } : Jvm.MethodName)) ∈ tables_1 := List.mem_of_getElem? (i := 274) rfl
theorem t_276 : (Jvm.Cond.methodLink "java/util/ImmutableCollections$List12" (7 : Nat) ({ cls := "java/util/Objects", name := "requireNonNull", desc := "(Ljava/lang/Object;)Ljava/lang/Object;" } : Jvm.MethodName)) ∈ tables_1 := List.mem_of_getElem? (i := 276) rfl
theorem t_277 : (Jvm.Cond.static ({ cls := "java/util/Objects", name := "requireNonNull", desc := "(Ljava/lang/Object;)Ljava/lang/Object;" } : Jvm.MethodName)) ∈ tables_1 := List.mem_of_getElem? (i := 277) rfl
theorem t_278 : (Jvm.Cond.initialized "java/util/Objects") ∈ tables_1 := List.mem_of_getElem? (i := 278) rfl
theorem t_279 : (Jvm.Cond.code ({ cls := "java/util/Objects", name := "requireNonNull", desc := "(Ljava/lang/Object;)Ljava/lang/Object;" } : Jvm.MethodName) jdk_31_method_10_code (1 : Nat) (Option.some (Jvm.ClassFile.FieldType.object "java/lang/Object"))) ∈ tables_1 := List.mem_of_getElem? (i := 279) rfl
theorem t_280 : (Jvm.Cond.fieldLink "java/util/ImmutableCollections$List12" (13 : Nat) "java/util/ImmutableCollections$List12" "e0" "Ljava/lang/Object;") ∈ tables_1 := List.mem_of_getElem? (i := 280) rfl
theorem t_281 : (Jvm.Cond.laysFinal "java/util/ImmutableCollections$List12" "java/util/ImmutableCollections$List12" "e0" "Ljava/lang/Object;") ∈ tables_1 := List.mem_of_getElem? (i := 281) rfl
theorem t_282 : (Jvm.Cond.fieldLinkNest "java/util/ImmutableCollections$List12" (19 : Nat) "java/util/ImmutableCollections" "EMPTY" "Ljava/lang/Object;" "java/util/ImmutableCollections") ∈ tables_1 := List.mem_of_getElem? (i := 282) rfl
theorem t_283 : (Jvm.Cond.fieldLink "java/util/ImmutableCollections$List12" (24 : Nat) "java/util/ImmutableCollections$List12" "e1" "Ljava/lang/Object;") ∈ tables_1 := List.mem_of_getElem? (i := 283) rfl
theorem t_284 : (Jvm.Cond.laysFinal "java/util/ImmutableCollections$List12" "java/util/ImmutableCollections$List12" "e1" "Ljava/lang/Object;") ∈ tables_1 := List.mem_of_getElem? (i := 284) rfl
theorem t_285 : (Jvm.Cond.fieldLink "com/example/variaform/variaform/model/feature/GroupIsUpperUnboundedPinLaw" (62 : Nat) "com/example/variaform/variaform/model/feature/Group$Kind" "ALTERNATIVE" "Lcom/example/variaform/variaform/model/feature/Group$Kind;") ∈ tables_1 := List.mem_of_getElem? (i := 285) rfl
theorem t_286 : (Jvm.Cond.laysStatic "com/example/variaform/variaform/model/feature/Group$Kind" "ALTERNATIVE" "Lcom/example/variaform/variaform/model/feature/Group$Kind;") ∈ tables_1 := List.mem_of_getElem? (i := 286) rfl
theorem t_287 : (Jvm.Cond.stringLink "com/example/variaform/variaform/model/feature/GroupIsUpperUnboundedPinLaw" (40 : Nat) "b") ∈ tables_1 := List.mem_of_getElem? (i := 287) rfl
theorem t_288 : (Jvm.Cond.methodLink "com/example/variaform/variaform/model/feature/GroupIsUpperUnboundedPinLaw" (37 : Nat) ({ cls := "com/example/variaform/variaform/model/feature/Group", name := "<init>", desc := "(IILjava/util/List;)V" } : Jvm.MethodName)) ∈ tables_1 := List.mem_of_getElem? (i := 288) rfl
theorem t_289 : (Jvm.Cond.instanceMethod ({ cls := "com/example/variaform/variaform/model/feature/Group", name := "<init>", desc := "(IILjava/util/List;)V" } : Jvm.MethodName)) ∈ tables_1 := List.mem_of_getElem? (i := 289) rfl
theorem t_290 : (Jvm.Cond.code ({ cls := "com/example/variaform/variaform/model/feature/Group", name := "<init>", desc := "(IILjava/util/List;)V" } : Jvm.MethodName) prog_39_method_1_code (4 : Nat) (Option.none : Option Jvm.ClassFile.FieldType)) ∈ tables_1 := List.mem_of_getElem? (i := 290) rfl
theorem t_295 : (Jvm.Cond.lays "com/example/variaform/variaform/model/feature/Feature" "com/example/variaform/variaform/model/feature/Feature" "parent" "Lcom/example/variaform/variaform/model/feature/Feature;") ∈ tables_1 := List.mem_of_getElem? (i := 295) rfl
theorem n3_0 : In jdk_22_method_1_code 0 (.aload_n 0) 1 1 := ⟨by decide +kernel, rfl⟩
theorem n3_1 : In jdk_22_method_1_code 1 (.invokespecial 1) 3 4 := ⟨by decide +kernel, rfl⟩
theorem n3_4 : In jdk_22_method_1_code 4 (.return_) 1 5 := ⟨by decide +kernel, rfl⟩
theorem pn_3 : plainFor (⟨"java/util/AbstractCollection", "<init>", "()V"⟩ : MethodName) = true := plainFor_of_name (by first | (simp [plainName, overriddenIn]; done) | decide +kernel)
theorem n34_0 : In jdk_47_method_1_code 0 (.aload_n 0) 1 1 := ⟨by decide +kernel, rfl⟩
theorem n34_1 : In jdk_47_method_1_code 1 (.invokespecial 1) 3 4 := ⟨by decide +kernel, rfl⟩
theorem pd_1382 : parseMethodDescriptor "()V" = some ⟨[], none⟩ := by decide +kernel
theorem n34_4 : In jdk_47_method_1_code 4 (.return_) 1 5 := ⟨by decide +kernel, rfl⟩
theorem pn_34 : plainFor (⟨"java/util/ImmutableCollections$AbstractImmutableCollection", "<init>", "()V"⟩ : MethodName) = true := plainFor_of_name (by first | (simp [plainName, overriddenIn]; done) | decide +kernel)
theorem n33_0 : In jdk_46_method_1_code 0 (.aload_n 0) 1 1 := ⟨by decide +kernel, rfl⟩
theorem n33_1 : In jdk_46_method_1_code 1 (.invokespecial 1) 3 4 := ⟨by decide +kernel, rfl⟩
theorem n33_4 : In jdk_46_method_1_code 4 (.return_) 1 5 := ⟨by decide +kernel, rfl⟩
theorem pn_33 : plainFor (⟨"java/util/ImmutableCollections$AbstractImmutableList", "<init>", "()V"⟩ : MethodName) = true := plainFor_of_name (by first | (simp [plainName, overriddenIn]; done) | decide +kernel)
theorem n2_0 : In jdk_39_method_1_code 0 (.aload_n 0) 1 1 := ⟨by decide +kernel, rfl⟩
theorem n2_1 : In jdk_39_method_1_code 1 (.invokespecial 1) 3 4 := ⟨by decide +kernel, rfl⟩
theorem n2_4 : In jdk_39_method_1_code 4 (.aload_n 0) 1 5 := ⟨by decide +kernel, rfl⟩
theorem n2_5 : In jdk_39_method_1_code 5 (.iconst 0) 1 6 := ⟨by decide +kernel, rfl⟩
theorem n2_6 : In jdk_39_method_1_code 6 (.putfield 7) 3 9 := ⟨by decide +kernel, rfl⟩
theorem n2_9 : In jdk_39_method_1_code 9 (.return_) 1 10 := ⟨by decide +kernel, rfl⟩
theorem pn_2 : plainFor (⟨"java/util/AbstractList", "<init>", "()V"⟩ : MethodName) = true := plainFor_of_name (by first | (simp [plainName, overriddenIn]; done) | decide +kernel)
theorem n1_0 : In jdk_38_method_2_code 0 (.aload_n 0) 1 1 := ⟨by decide +kernel, rfl⟩
theorem n1_1 : In jdk_38_method_2_code 1 (.invokespecial 1) 3 4 := ⟨by decide +kernel, rfl⟩
theorem n1_4 : In jdk_38_method_2_code 4 (.aload_n 0) 1 5 := ⟨by decide +kernel, rfl⟩
theorem n1_5 : In jdk_38_method_2_code 5 (.getstatic 39) 3 8 := ⟨by decide +kernel, rfl⟩
theorem n1_8 : In jdk_38_method_2_code 8 (.putfield 9) 3 11 := ⟨by decide +kernel, rfl⟩
theorem n1_11 : In jdk_38_method_2_code 11 (.return_) 1 12 := ⟨by decide +kernel, rfl⟩
theorem pn_1 : plainFor (⟨"java/util/ArrayList", "<init>", "()V"⟩ : MethodName) = true := plainFor_of_name (by first | (simp [plainName, overriddenIn]; done) | decide +kernel)
theorem n11_0 : In jdk_40_method_36_code 0 (.getstatic 90) 3 3 := ⟨by decide +kernel, rfl⟩
theorem n11_3 : In jdk_40_method_36_code 3 (.areturn) 1 4 := ⟨by decide +kernel, rfl⟩
theorem pn_11 : plainFor (⟨"java/util/List", "of", "()Ljava/util/List;"⟩ : MethodName) = true := plainFor_of_name (by first | (simp [plainName, overriddenIn]; done) | decide +kernel)
theorem n10_0 : In jdk_38_method_9_code 0 (.aload_n 0) 1 1 := ⟨by decide +kernel, rfl⟩
theorem n10_1 : In jdk_38_method_9_code 1 (.getfield 48) 3 4 := ⟨by decide +kernel, rfl⟩
theorem n10_4 : Jm jdk_38_method_9_code 4 (.ifCond .ne 7) 7 7 11 := ⟨by decide +kernel, rfl, by decide, by decide⟩
theorem n10_11 : In jdk_38_method_9_code 11 (.iconst 0) 1 12 := ⟨by decide +kernel, rfl⟩
theorem n10_12 : In jdk_38_method_9_code 12 (.ireturn) 1 13 := ⟨by decide +kernel, rfl⟩
theorem n10_7 : In jdk_38_method_9_code 7 (.iconst 1) 1 8 := ⟨by decide +kernel, rfl⟩
theorem n10_8 : Jm jdk_38_method_9_code 8 (.goto 4) 4 11 12 := ⟨by decide +kernel, rfl, by decide, by decide⟩
theorem pn_10 : plainFor (⟨"java/util/ArrayList", "isEmpty", "()Z"⟩ : MethodName) = true := plainFor_of_name (by first | (simp [plainName, overriddenIn]; done) | decide +kernel)
theorem n35_0 : In jdk_31_method_10_code 0 (.aload_n 0) 1 1 := ⟨by decide +kernel, rfl⟩
theorem n35_1 : Jm jdk_31_method_10_code 1 (.ifnonnull 11) 11 4 12 := ⟨by decide +kernel, rfl, by decide, by decide⟩
theorem n35_12 : In jdk_31_method_10_code 12 (.aload_n 0) 1 13 := ⟨by decide +kernel, rfl⟩
theorem n35_13 : In jdk_31_method_10_code 13 (.areturn) 1 14 := ⟨by decide +kernel, rfl⟩
theorem pn_35 : plainFor (⟨"java/util/Objects", "requireNonNull", "(Ljava/lang/Object;)Ljava/lang/Object;"⟩ : MethodName) = true := plainFor_of_name (by first | (simp [plainName, overriddenIn]; done) | decide +kernel)
theorem n26_0 : In jdk_29_method_65_code 0 (.iload_n 0) 1 1 := ⟨by decide +kernel, rfl⟩
theorem n26_1 : In jdk_29_method_65_code 1 (.iload_n 1) 1 2 := ⟨by decide +kernel, rfl⟩
theorem n26_2 : Jm jdk_29_method_65_code 2 (.if_icmp .lt 7) 7 5 9 := ⟨by decide +kernel, rfl, by decide, by decide⟩
theorem n26_9 : In jdk_29_method_65_code 9 (.iload_n 1) 1 10 := ⟨by decide +kernel, rfl⟩
theorem n26_10 : In jdk_29_method_65_code 10 (.ireturn) 1 11 := ⟨by decide +kernel, rfl⟩
theorem n26_5 : In jdk_29_method_65_code 5 (.iload_n 0) 1 6 := ⟨by decide +kernel, rfl⟩
theorem n26_6 : Jm jdk_29_method_65_code 6 (.goto 4) 4 9 10 := ⟨by decide +kernel, rfl, by decide, by decide⟩
theorem pn_26 : plainFor (⟨"java/lang/Math", "max", "(II)I"⟩ : MethodName) = true := Jvm.Free.JP.mathPlain rfl (by decide +kernel)
theorem n30_0 : In jdk_29_method_69_code 0 (.iload_n 0) 1 1 := ⟨by decide +kernel, rfl⟩
theorem n30_1 : In jdk_29_method_69_code 1 (.iload_n 1) 1 2 := ⟨by decide +kernel, rfl⟩
theorem n30_2 : Jm jdk_29_method_69_code 2 (.if_icmp .gt 7) 7 5 9 := ⟨by decide +kernel, rfl, by decide, by decide⟩
theorem n30_9 : In jdk_29_method_69_code 9 (.iload_n 1) 1 10 := ⟨by decide +kernel, rfl⟩
theorem n30_10 : In jdk_29_method_69_code 10 (.ireturn) 1 11 := ⟨by decide +kernel, rfl⟩
theorem n30_5 : In jdk_29_method_69_code 5 (.iload_n 0) 1 6 := ⟨by decide +kernel, rfl⟩
theorem n30_6 : Jm jdk_29_method_69_code 6 (.goto 4) 4 9 10 := ⟨by decide +kernel, rfl, by decide, by decide⟩
theorem pn_30 : plainFor (⟨"java/lang/Math", "min", "(II)I"⟩ : MethodName) = true := Jvm.Free.JP.mathPlain rfl (by decide +kernel)
theorem n32_0 : In jdk_44_method_1_code 0 (.aload_n 0) 1 1 := ⟨by decide +kernel, rfl⟩
theorem n32_1 : In jdk_44_method_1_code 1 (.invokespecial 1) 3 4 := ⟨by decide +kernel, rfl⟩
theorem n32_4 : In jdk_44_method_1_code 4 (.aload_n 0) 1 5 := ⟨by decide +kernel, rfl⟩
theorem n32_5 : In jdk_44_method_1_code 5 (.aload_n 1) 1 6 := ⟨by decide +kernel, rfl⟩
theorem n32_6 : In jdk_44_method_1_code 6 (.invokestatic 7) 3 9 := ⟨by decide +kernel, rfl⟩
theorem pd_87710 : parseMethodDescriptor "(Ljava/lang/Object;)Ljava/lang/Object;" = some ⟨[(.object "java/lang/Object")], some (.object "java/lang/Object")⟩ := by decide +kernel
theorem n32_9 : In jdk_44_method_1_code 9 (.putfield 13) 3 12 := ⟨by decide +kernel, rfl⟩
theorem n32_12 : In jdk_44_method_1_code 12 (.aload_n 0) 1 13 := ⟨by decide +kernel, rfl⟩
theorem n32_13 : In jdk_44_method_1_code 13 (.getstatic 19) 3 16 := ⟨by decide +kernel, rfl⟩
theorem n32_16 : In jdk_44_method_1_code 16 (.putfield 24) 3 19 := ⟨by decide +kernel, rfl⟩
theorem n32_19 : In jdk_44_method_1_code 19 (.return_) 1 20 := ⟨by decide +kernel, rfl⟩
theorem pn_32 : plainFor (⟨"java/util/ImmutableCollections$List12", "<init>", "(Ljava/lang/Object;)V"⟩ : MethodName) = true := plainFor_of_name (by first | (simp [plainName, overriddenIn]; done) | decide +kernel)
theorem n29_0 : In jdk_65_method_120_code 0 (.aload_n 2) 1 1 := ⟨by decide +kernel, rfl⟩
theorem n29_1 : In jdk_65_method_120_code 1 (.ldc 110) 2 3 := ⟨by decide +kernel, rfl⟩
theorem n29_3 : Jm jdk_65_method_120_code 3 (.if_acmp .ne 10) 10 6 13 := ⟨by decide +kernel, rfl, by decide, by decide⟩
theorem n29_6 : In jdk_65_method_120_code 6 (.iload_n 1) 1 7 := ⟨by decide +kernel, rfl⟩
theorem n29_7 : In jdk_65_method_120_code 7 (.anewarray 2) 3 10 := ⟨by decide +kernel, rfl⟩
theorem n29_10 : Jm jdk_65_method_120_code 10 (.goto 14) 14 13 24 := ⟨by decide +kernel, rfl, by decide, by decide⟩
theorem n29_24 : In jdk_65_method_120_code 24 (.astore_n 3) 1 25 := ⟨by decide +kernel, rfl⟩
theorem n29_25 : In jdk_65_method_120_code 25 (.aload_n 0) 1 26 := ⟨by decide +kernel, rfl⟩
theorem n29_26 : In jdk_65_method_120_code 26 (.iconst 0) 1 27 := ⟨by decide +kernel, rfl⟩
theorem n29_27 : In jdk_65_method_120_code 27 (.aload_n 3) 1 28 := ⟨by decide +kernel, rfl⟩
theorem n29_28 : In jdk_65_method_120_code 28 (.iconst 0) 1 29 := ⟨by decide +kernel, rfl⟩
theorem n29_29 : In jdk_65_method_120_code 29 (.aload_n 0) 1 30 := ⟨by decide +kernel, rfl⟩
theorem n29_30 : In jdk_65_method_120_code 30 (.arraylength) 1 31 := ⟨by decide +kernel, rfl⟩
theorem n29_31 : In jdk_65_method_120_code 31 (.iload_n 1) 1 32 := ⟨by decide +kernel, rfl⟩
theorem n29_32 : In jdk_65_method_120_code 32 (.invokestatic 304) 3 35 := ⟨by decide +kernel, rfl⟩
theorem pd_2734 : parseMethodDescriptor "(II)I" = some ⟨[.int, .int], some .int⟩ := by decide +kernel
theorem n29_35 : In jdk_65_method_120_code 35 (.invokestatic 150) 3 38 := ⟨by decide +kernel, rfl⟩
theorem n29_38 : In jdk_65_method_120_code 38 (.aload_n 3) 1 39 := ⟨by decide +kernel, rfl⟩
theorem n29_39 : In jdk_65_method_120_code 39 (.areturn) 1 40 := ⟨by decide +kernel, rfl⟩
theorem pn_29 : plainFor (⟨"java/util/Arrays", "copyOf", "([Ljava/lang/Object;ILjava/lang/Class;)[Ljava/lang/Object;"⟩ : MethodName) = true := plainFor_of_name (by first | (simp [plainName, overriddenIn]; done) | decide +kernel)
theorem n28_0 : In jdk_65_method_119_code 0 (.aload_n 0) 1 1 := ⟨by decide +kernel, rfl⟩
theorem n28_1 : In jdk_65_method_119_code 1 (.iload_n 1) 1 2 := ⟨by decide +kernel, rfl⟩
theorem n28_2 : In jdk_65_method_119_code 2 (.aload_n 0) 1 3 := ⟨by decide +kernel, rfl⟩
theorem n28_3 : In jdk_65_method_119_code 3 (.invokevirtual 86) 3 6 := ⟨by decide +kernel, rfl⟩
theorem n28_6 : In jdk_65_method_119_code 6 (.invokestatic 300) 3 9 := ⟨by decide +kernel, rfl⟩
theorem pd_186648 : parseMethodDescriptor "([Ljava/lang/Object;ILjava/lang/Class;)[Ljava/lang/Object;" = some ⟨[(.array (.object "java/lang/Object")), .int, (.object "java/lang/Class")], some (.array (.object "java/lang/Object"))⟩ := by decide +kernel
theorem n28_9 : In jdk_65_method_119_code 9 (.areturn) 1 10 := ⟨by decide +kernel, rfl⟩
theorem pn_28 : plainFor (⟨"java/util/Arrays", "copyOf", "([Ljava/lang/Object;I)[Ljava/lang/Object;"⟩ : MethodName) = true := plainFor_of_name (by first | (simp [plainName, overriddenIn]; done) | decide +kernel)
theorem n27_0 : In jdk_38_method_16_code 0 (.aload_n 0) 1 1 := ⟨by decide +kernel, rfl⟩
theorem n27_1 : In jdk_38_method_16_code 1 (.getfield 9) 3 4 := ⟨by decide +kernel, rfl⟩
theorem n27_4 : In jdk_38_method_16_code 4 (.aload_n 0) 1 5 := ⟨by decide +kernel, rfl⟩
theorem n27_5 : In jdk_38_method_16_code 5 (.getfield 48) 3 8 := ⟨by decide +kernel, rfl⟩
theorem n27_8 : In jdk_38_method_16_code 8 (.invokestatic 66) 3 11 := ⟨by decide +kernel, rfl⟩
theorem pd_99786 : parseMethodDescriptor "([Ljava/lang/Object;I)[Ljava/lang/Object;" = some ⟨[(.array (.object "java/lang/Object")), .int], some (.array (.object "java/lang/Object"))⟩ := by decide +kernel
theorem n27_11 : In jdk_38_method_16_code 11 (.areturn) 1 12 := ⟨by decide +kernel, rfl⟩
theorem pn_27 : plainFor (⟨"java/util/ArrayList", "toArray", "()[Ljava/lang/Object;"⟩ : MethodName) = true := plainFor_of_name (by first | (simp [plainName, overriddenIn]; done) | decide +kernel)
theorem n31_0 : In jdk_40_method_47_code 0 (.aload_n 0) 1 1 := ⟨by decide +kernel, rfl⟩
theorem n31_1 : In jdk_40_method_47_code 1 (.arraylength) 1 2 := ⟨by decide +kernel, rfl⟩
theorem n31_2 : In jdk_40_method_47_code 2 (.tableswitch 57 0 2 #[26, 32, 43]) 26 28 := ⟨by decide +kernel, rfl⟩
theorem n31_34 : In jdk_40_method_47_code 34 (.new 96) 3 37 := ⟨by decide +kernel, rfl⟩
theorem n31_37 : In jdk_40_method_47_code 37 (.dup) 1 38 := ⟨by decide +kernel, rfl⟩
theorem n31_38 : In jdk_40_method_47_code 38 (.aload_n 0) 1 39 := ⟨by decide +kernel, rfl⟩
theorem n31_39 : In jdk_40_method_47_code 39 (.iconst 0) 1 40 := ⟨by decide +kernel, rfl⟩
theorem n31_40 : In jdk_40_method_47_code 40 (.aaload) 1 41 := ⟨by decide +kernel, rfl⟩
theorem n31_41 : In jdk_40_method_47_code 41 (.invokespecial 98) 3 44 := ⟨by decide +kernel, rfl⟩
theorem pd_31042 : parseMethodDescriptor "(Ljava/lang/Object;)V" = some ⟨[(.object "java/lang/Object")], none⟩ := by decide +kernel
theorem n31_44 : In jdk_40_method_47_code 44 (.areturn) 1 45 := ⟨by decide +kernel, rfl⟩
theorem pn_31 : plainFor (⟨"java/util/List", "of", "([Ljava/lang/Object;)Ljava/util/List;"⟩ : MethodName) = true := plainFor_of_name (by first | (simp [plainName, overriddenIn]; done) | decide +kernel)
theorem n9_0 : In jdk_56_method_3_code 0 (.aload_n 0) 1 1 := ⟨by decide +kernel, rfl⟩
theorem n9_1 : In jdk_56_method_3_code 1 (.instanceof 10) 3 4 := ⟨by decide +kernel, rfl⟩
theorem n9_4 : Jm jdk_56_method_3_code 4 (.ifCond .ne 22) 22 7 26 := ⟨by decide +kernel, rfl, by decide, by decide⟩
theorem n9_7 : In jdk_56_method_3_code 7 (.aload_n 0) 1 8 := ⟨by decide +kernel, rfl⟩
theorem n9_8 : In jdk_56_method_3_code 8 (.instanceof 12) 3 11 := ⟨by decide +kernel, rfl⟩
theorem n9_11 : Jm jdk_56_method_3_code 11 (.ifCond .eq 20) 20 14 31 := ⟨by decide +kernel, rfl, by decide, by decide⟩
theorem n9_31 : In jdk_56_method_3_code 31 (.aload_n 0) 1 32 := ⟨by decide +kernel, rfl⟩
theorem n9_32 : In jdk_56_method_3_code 32 (.invokeinterface 20 1) 5 37 := ⟨by decide +kernel, rfl⟩
theorem pd_1418 : parseMethodDescriptor "()Z" = some ⟨[], some .boolean⟩ := by decide +kernel
theorem n9_37 : Jm jdk_56_method_3_code 37 (.ifCond .eq 7) 7 40 44 := ⟨by decide +kernel, rfl, by decide, by decide⟩
theorem n9_44 : In jdk_56_method_3_code 44 (.aload_n 0) 1 45 := ⟨by decide +kernel, rfl⟩
theorem n9_45 : In jdk_56_method_3_code 45 (.invokeinterface 30 1) 5 50 := ⟨by decide +kernel, rfl⟩
theorem pd_32129 : parseMethodDescriptor "()[Ljava/lang/Object;" = some ⟨[], some (.array (.object "java/lang/Object"))⟩ := by decide +kernel
theorem n9_50 : In jdk_56_method_3_code 50 (.invokestatic 34) 3 53 := ⟨by decide +kernel, rfl⟩
theorem pd_84466 : parseMethodDescriptor "([Ljava/lang/Object;)Ljava/util/List;" = some ⟨[(.array (.object "java/lang/Object"))], some (.object "java/util/List")⟩ := by decide +kernel
theorem n9_53 : In jdk_56_method_3_code 53 (.areturn) 1 54 := ⟨by decide +kernel, rfl⟩
theorem pn_9 : plainFor (⟨"java/util/ImmutableCollections", "listCopy", "(Ljava/util/Collection;)Ljava/util/List;"⟩ : MethodName) = true := plainFor_of_name (by first | (simp [plainName, overriddenIn]; done) | decide +kernel)
theorem n9_40 : In jdk_56_method_3_code 40 (.invokestatic 26) 3 43 := ⟨by decide +kernel, rfl⟩
theorem pd_25326 : parseMethodDescriptor "()Ljava/util/List;" = some ⟨[], some (.object "java/util/List")⟩ := by decide +kernel
theorem n9_43 : In jdk_56_method_3_code 43 (.areturn) 1 44 := ⟨by decide +kernel, rfl⟩
theorem n9_14 : In jdk_56_method_3_code 14 (.aload_n 0) 1 15 := ⟨by decide +kernel, rfl⟩
theorem n9_15 : In jdk_56_method_3_code 15 (.checkcast 12) 3 18 := ⟨by decide +kernel, rfl⟩
theorem n9_18 : In jdk_56_method_3_code 18 (.astore_n 1) 1 19 := ⟨by decide +kernel, rfl⟩
theorem n9_19 : In jdk_56_method_3_code 19 (.aload_n 1) 1 20 := ⟨by decide +kernel, rfl⟩
theorem n9_20 : In jdk_56_method_3_code 20 (.getfield 14) 3 23 := ⟨by decide +kernel, rfl⟩
theorem n9_23 : Jm jdk_56_method_3_code 23 (.ifCond .ne 8) 8 26 31 := ⟨by decide +kernel, rfl, by decide, by decide⟩
theorem n9_26 : In jdk_56_method_3_code 26 (.aload_n 0) 1 27 := ⟨by decide +kernel, rfl⟩
theorem n9_27 : In jdk_56_method_3_code 27 (.checkcast 18) 3 30 := ⟨by decide +kernel, rfl⟩
theorem n9_30 : In jdk_56_method_3_code 30 (.areturn) 1 31 := ⟨by decide +kernel, rfl⟩
theorem n8_0 : In jdk_40_method_48_code 0 (.aload_n 0) 1 1 := ⟨by decide +kernel, rfl⟩
theorem n8_1 : In jdk_40_method_48_code 1 (.invokestatic 112) 3 4 := ⟨by decide +kernel, rfl⟩
theorem pd_98937 : parseMethodDescriptor "(Ljava/util/Collection;)Ljava/util/List;" = some ⟨[(.object "java/util/Collection")], some (.object "java/util/List")⟩ := by decide +kernel
theorem n8_4 : In jdk_40_method_48_code 4 (.areturn) 1 5 := ⟨by decide +kernel, rfl⟩
theorem pn_8 : plainFor (⟨"java/util/List", "copyOf", "(Ljava/util/Collection;)Ljava/util/List;"⟩ : MethodName) = true := plainFor_of_name (by first | (simp [plainName, overriddenIn]; done) | decide +kernel)
theorem n7_0 : In prog_39_method_3_code 0 (.aload_n 0) 1 1 := ⟨by decide +kernel, rfl⟩
theorem n7_1 : In prog_39_method_3_code 1 (.invokespecial 34) 3 4 := ⟨by decide +kernel, rfl⟩
theorem n7_4 : In prog_39_method_3_code 4 (.aload_n 0) 1 5 := ⟨by decide +kernel, rfl⟩
theorem n7_5 : In prog_39_method_3_code 5 (.aload_n 1) 1 6 := ⟨by decide +kernel, rfl⟩
theorem n7_6 : In prog_39_method_3_code 6 (.putfield 39) 3 9 := ⟨by decide +kernel, rfl⟩
theorem n7_9 : In prog_39_method_3_code 9 (.aload_n 0) 1 10 := ⟨by decide +kernel, rfl⟩
theorem n7_10 : In prog_39_method_3_code 10 (.iload_n 2) 1 11 := ⟨by decide +kernel, rfl⟩
theorem n7_11 : In prog_39_method_3_code 11 (.putfield 42) 3 14 := ⟨by decide +kernel, rfl⟩
theorem n7_14 : In prog_39_method_3_code 14 (.aload_n 0) 1 15 := ⟨by decide +kernel, rfl⟩
theorem n7_15 : In prog_39_method_3_code 15 (.iload_n 3) 1 16 := ⟨by decide +kernel, rfl⟩
theorem n7_16 : In prog_39_method_3_code 16 (.putfield 46) 3 19 := ⟨by decide +kernel, rfl⟩
theorem n7_19 : In prog_39_method_3_code 19 (.aload_n 0) 1 20 := ⟨by decide +kernel, rfl⟩
theorem n7_20 : In prog_39_method_3_code 20 (.aload 4) 2 22 := ⟨by decide +kernel, rfl⟩
theorem n7_22 : In prog_39_method_3_code 22 (.invokestatic 49) 3 25 := ⟨by decide +kernel, rfl⟩
theorem n7_25 : In prog_39_method_3_code 25 (.putfield 55) 3 28 := ⟨by decide +kernel, rfl⟩
theorem n7_28 : In prog_39_method_3_code 28 (.aload_n 0) 1 29 := ⟨by decide +kernel, rfl⟩
theorem n7_29 : In prog_39_method_3_code 29 (.aload 5) 2 31 := ⟨by decide +kernel, rfl⟩
theorem n7_31 : In prog_39_method_3_code 31 (.putfield 59) 3 34 := ⟨by decide +kernel, rfl⟩
theorem n7_34 : In prog_39_method_3_code 34 (.return_) 1 35 := ⟨by decide +kernel, rfl⟩
theorem pn_7 : plainFor (⟨"com/example/variaform/variaform/model/feature/Group", "<init>", "(Lcom/example/variaform/variaform/model/feature/Group$Kind;IILjava/util/List;Lcom/example/variaform/variaform/model/feature/Comments;)V"⟩ : MethodName) = true := plainFor_of_name (by first | (simp [plainName, overriddenIn]; done) | decide +kernel)
theorem n6_0 : In prog_39_method_2_code 0 (.aload_n 0) 1 1 := ⟨by decide +kernel, rfl⟩
theorem n6_1 : In prog_39_method_2_code 1 (.aload_n 1) 1 2 := ⟨by decide +kernel, rfl⟩
theorem n6_2 : In prog_39_method_2_code 2 (.iconst 0) 1 3 := ⟨by decide +kernel, rfl⟩
theorem n6_3 : In prog_39_method_2_code 3 (.iconst 0) 1 4 := ⟨by decide +kernel, rfl⟩
theorem n6_4 : In prog_39_method_2_code 4 (.aload_n 2) 1 5 := ⟨by decide +kernel, rfl⟩
theorem n6_5 : In prog_39_method_2_code 5 (.getstatic 7) 3 8 := ⟨by decide +kernel, rfl⟩
theorem n6_8 : In prog_39_method_2_code 8 (.invokespecial 13) 3 11 := ⟨by decide +kernel, rfl⟩
theorem pd_962156 : parseMethodDescriptor "(Lcom/example/variaform/variaform/model/feature/Group$Kind;IILjava/util/List;Lcom/example/variaform/variaform/model/feature/Comments;)V" = some ⟨[(.object "com/example/variaform/variaform/model/feature/Group$Kind"), .int, .int, (.object "java/util/List"), (.object "com/example/variaform/variaform/model/feature/Comments")], none⟩ := by decide +kernel
theorem n6_11 : In prog_39_method_2_code 11 (.aload_n 1) 1 12 := ⟨by decide +kernel, rfl⟩
theorem n6_12 : In prog_39_method_2_code 12 (.getstatic 1) 3 15 := ⟨by decide +kernel, rfl⟩
theorem n6_15 : Jm prog_39_method_2_code 15 (.if_acmp .ne 13) 13 18 28 := ⟨by decide +kernel, rfl, by decide, by decide⟩
theorem n6_28 : In prog_39_method_2_code 28 (.return_) 1 29 := ⟨by decide +kernel, rfl⟩
theorem pn_6 : plainFor (⟨"com/example/variaform/variaform/model/feature/Group", "<init>", "(Lcom/example/variaform/variaform/model/feature/Group$Kind;Ljava/util/List;)V"⟩ : MethodName) = true := plainFor_of_name (by first | (simp [plainName, overriddenIn]; done) | decide +kernel)
theorem n36_0 : In prog_39_method_1_code 0 (.aload_n 0) 1 1 := ⟨by decide +kernel, rfl⟩
theorem n36_1 : In prog_39_method_1_code 1 (.getstatic 1) 3 4 := ⟨by decide +kernel, rfl⟩
theorem n36_4 : In prog_39_method_1_code 4 (.iload_n 1) 1 5 := ⟨by decide +kernel, rfl⟩
theorem n36_5 : In prog_39_method_1_code 5 (.iload_n 2) 1 6 := ⟨by decide +kernel, rfl⟩
theorem n36_6 : In prog_39_method_1_code 6 (.aload_n 3) 1 7 := ⟨by decide +kernel, rfl⟩
theorem n36_7 : In prog_39_method_1_code 7 (.getstatic 7) 3 10 := ⟨by decide +kernel, rfl⟩
theorem n36_10 : In prog_39_method_1_code 10 (.invokespecial 13) 3 13 := ⟨by decide +kernel, rfl⟩
theorem n36_13 : In prog_39_method_1_code 13 (.iload_n 1) 1 14 := ⟨by decide +kernel, rfl⟩
theorem n36_14 : Jm prog_39_method_1_code 14 (.ifCond .lt 7) 7 17 21 := ⟨by decide +kernel, rfl, by decide, by decide⟩
theorem n36_17 : In prog_39_method_1_code 17 (.iload_n 2) 1 18 := ⟨by decide +kernel, rfl⟩
theorem n36_18 : Jm prog_39_method_1_code 18 (.ifCond .ge 14) 14 21 32 := ⟨by decide +kernel, rfl, by decide, by decide⟩
theorem n36_32 : In prog_39_method_1_code 32 (.return_) 1 33 := ⟨by decide +kernel, rfl⟩
theorem pn_36 : plainFor (⟨"com/example/variaform/variaform/model/feature/Group", "<init>", "(IILjava/util/List;)V"⟩ : MethodName) = true := plainFor_of_name (by first | (simp [plainName, overriddenIn]; done) | decide +kernel)
theorem n14_0 : In prog_39_method_4_code 0 (.iload_n 0) 1 1 := ⟨by decide +kernel, rfl⟩
theorem n14_1 : Jm prog_39_method_4_code 1 (.ifCond .ge 13) 13 4 14 := ⟨by decide +kernel, rfl, by decide, by decide⟩
theorem n14_14 : In prog_39_method_4_code 14 (.new 14) 3 17 := ⟨by decide +kernel, rfl⟩
theorem n14_17 : In prog_39_method_4_code 17 (.dup) 1 18 := ⟨by decide +kernel, rfl⟩
theorem n14_18 : In prog_39_method_4_code 18 (.getstatic 1) 3 21 := ⟨by decide +kernel, rfl⟩
theorem n14_21 : In prog_39_method_4_code 21 (.iload_n 0) 1 22 := ⟨by decide +kernel, rfl⟩
theorem n14_22 : In prog_39_method_4_code 22 (.iconst (-1)) 1 23 := ⟨by decide +kernel, rfl⟩
theorem n14_23 : In prog_39_method_4_code 23 (.aload_n 1) 1 24 := ⟨by decide +kernel, rfl⟩
theorem n14_24 : In prog_39_method_4_code 24 (.getstatic 7) 3 27 := ⟨by decide +kernel, rfl⟩
theorem n14_27 : In prog_39_method_4_code 27 (.invokespecial 13) 3 30 := ⟨by decide +kernel, rfl⟩
theorem n14_30 : In prog_39_method_4_code 30 (.areturn) 1 31 := ⟨by decide +kernel, rfl⟩
theorem pn_14 : plainFor (⟨"com/example/variaform/variaform/model/feature/Group", "atLeast", "(ILjava/util/List;)Lcom/example/variaform/variaform/model/feature/Group;"⟩ : MethodName) = true := plainFor_of_name (by first | (simp [plainName, overriddenIn]; done) | decide +kernel)
theorem n13_0 : In prog_39_method_6_code 0 (.new 14) 3 3 := ⟨by decide +kernel, rfl⟩
theorem n13_3 : In prog_39_method_6_code 3 (.dup) 1 4 := ⟨by decide +kernel, rfl⟩
theorem n13_4 : In prog_39_method_6_code 4 (.aload_n 0) 1 5 := ⟨by decide +kernel, rfl⟩
theorem n13_5 : In prog_39_method_6_code 5 (.getfield 39) 3 8 := ⟨by decide +kernel, rfl⟩
theorem n13_8 : In prog_39_method_6_code 8 (.aload_n 0) 1 9 := ⟨by decide +kernel, rfl⟩
theorem n13_9 : In prog_39_method_6_code 9 (.getfield 42) 3 12 := ⟨by decide +kernel, rfl⟩
theorem n13_12 : In prog_39_method_6_code 12 (.aload_n 0) 1 13 := ⟨by decide +kernel, rfl⟩
theorem n13_13 : In prog_39_method_6_code 13 (.getfield 46) 3 16 := ⟨by decide +kernel, rfl⟩
theorem n13_16 : In prog_39_method_6_code 16 (.aload_n 1) 1 17 := ⟨by decide +kernel, rfl⟩
theorem n13_17 : In prog_39_method_6_code 17 (.aload_n 0) 1 18 := ⟨by decide +kernel, rfl⟩
theorem n13_18 : In prog_39_method_6_code 18 (.getfield 59) 3 21 := ⟨by decide +kernel, rfl⟩
theorem n13_21 : In prog_39_method_6_code 21 (.invokespecial 13) 3 24 := ⟨by decide +kernel, rfl⟩
theorem n13_24 : In prog_39_method_6_code 24 (.areturn) 1 25 := ⟨by decide +kernel, rfl⟩
theorem pn_13 : plainFor (⟨"com/example/variaform/variaform/model/feature/Group", "withChildren", "(Ljava/util/List;)Lcom/example/variaform/variaform/model/feature/Group;"⟩ : MethodName) = true := plainFor_of_name (by first | (simp [plainName, overriddenIn]; done) | decide +kernel)
theorem n12_0 : In prog_39_method_11_code 0 (.aload_n 0) 1 1 := ⟨by decide +kernel, rfl⟩
theorem n12_1 : In prog_39_method_11_code 1 (.getfield 46) 3 4 := ⟨by decide +kernel, rfl⟩
theorem n12_4 : In prog_39_method_11_code 4 (.iconst (-1)) 1 5 := ⟨by decide +kernel, rfl⟩
theorem n12_5 : Jm prog_39_method_11_code 5 (.if_icmp .ne 7) 7 8 12 := ⟨by decide +kernel, rfl, by decide, by decide⟩
theorem n12_12 : In prog_39_method_11_code 12 (.iconst 0) 1 13 := ⟨by decide +kernel, rfl⟩
theorem n12_13 : In prog_39_method_11_code 13 (.ireturn) 1 14 := ⟨by decide +kernel, rfl⟩
theorem n12_8 : In prog_39_method_11_code 8 (.iconst 1) 1 9 := ⟨by decide +kernel, rfl⟩
theorem n12_9 : Jm prog_39_method_11_code 9 (.goto 4) 4 12 13 := ⟨by decide +kernel, rfl, by decide, by decide⟩
theorem pn_12 : plainFor (⟨"com/example/variaform/variaform/model/feature/Group", "isUpperUnbounded", "()Z"⟩ : MethodName) = true := plainFor_of_name (by first | (simp [plainName, overriddenIn]; done) | decide +kernel)
theorem n5_0 : In method_3_code 0 (.iload_n 0) 1 1 := ⟨by decide +kernel, rfl⟩
theorem n5_1 : Jm method_3_code 1 (.ifCond .ne 7) 7 4 8 := ⟨by decide +kernel, rfl, by decide, by decide⟩
theorem n5_8 : In method_3_code 8 (.iload_n 0) 1 9 := ⟨by decide +kernel, rfl⟩
theorem n5_9 : In method_3_code 9 (.iconst 1) 1 10 := ⟨by decide +kernel, rfl⟩
theorem n5_10 : Jm method_3_code 10 (.if_icmp .ne 7) 7 13 17 := ⟨by decide +kernel, rfl, by decide, by decide⟩
theorem n5_17 : In method_3_code 17 (.iload_n 0) 1 18 := ⟨by decide +kernel, rfl⟩
theorem n5_18 : In method_3_code 18 (.iconst 2) 1 19 := ⟨by decide +kernel, rfl⟩
theorem n5_19 : Jm method_3_code 19 (.if_icmp .ne 7) 7 22 26 := ⟨by decide +kernel, rfl, by decide, by decide⟩
theorem n5_26 : In method_3_code 26 (.getstatic 62) 3 29 := ⟨by decide +kernel, rfl⟩
theorem n5_29 : In method_3_code 29 (.areturn) 1 30 := ⟨by decide +kernel, rfl⟩
theorem n5_22 : In method_3_code 22 (.getstatic 59) 3 25 := ⟨by decide +kernel, rfl⟩
theorem n5_25 : In method_3_code 25 (.areturn) 1 26 := ⟨by decide +kernel, rfl⟩
theorem n5_13 : In method_3_code 13 (.getstatic 56) 3 16 := ⟨by decide +kernel, rfl⟩
theorem n5_16 : In method_3_code 16 (.areturn) 1 17 := ⟨by decide +kernel, rfl⟩
theorem n5_4 : In method_3_code 4 (.getstatic 50) 3 7 := ⟨by decide +kernel, rfl⟩
theorem n5_7 : In method_3_code 7 (.areturn) 1 8 := ⟨by decide +kernel, rfl⟩
theorem pn_5 : plainFor (⟨"com/example/variaform/variaform/model/feature/GroupIsUpperUnboundedPinLaw", "kindOf", "(I)Lcom/example/variaform/variaform/model/feature/Group$Kind;"⟩ : MethodName) = true := plainFor_of_name (by first | (simp [plainName, overriddenIn]; done) | decide +kernel)
theorem n19_0 : In jdk_45_method_3_code 0 (.aload_n 0) 1 1 := ⟨by decide +kernel, rfl⟩
theorem n19_1 : In jdk_45_method_3_code 1 (.getfield 7) 3 4 := ⟨by decide +kernel, rfl⟩
theorem n19_4 : In jdk_45_method_3_code 4 (.arraylength) 1 5 := ⟨by decide +kernel, rfl⟩
theorem n19_5 : In jdk_45_method_3_code 5 (.ireturn) 1 6 := ⟨by decide +kernel, rfl⟩
theorem pn_19 : plainFor (⟨"java/util/ImmutableCollections$ListN", "size", "()I"⟩ : MethodName) = true := plainFor_of_name (by first | (simp [plainName, overriddenIn]; done) | decide +kernel)
theorem n20_0 : In jdk_53_method_1_code 0 (.aload_n 0) 1 1 := ⟨by decide +kernel, rfl⟩
theorem n20_1 : In jdk_53_method_1_code 1 (.invokespecial 1) 3 4 := ⟨by decide +kernel, rfl⟩
theorem n20_4 : In jdk_53_method_1_code 4 (.aload_n 0) 1 5 := ⟨by decide +kernel, rfl⟩
theorem n20_5 : In jdk_53_method_1_code 5 (.aload_n 1) 1 6 := ⟨by decide +kernel, rfl⟩
theorem n20_6 : In jdk_53_method_1_code 6 (.putfield 7) 3 9 := ⟨by decide +kernel, rfl⟩
theorem n20_9 : In jdk_53_method_1_code 9 (.aload_n 0) 1 10 := ⟨by decide +kernel, rfl⟩
theorem n20_10 : In jdk_53_method_1_code 10 (.iload_n 2) 1 11 := ⟨by decide +kernel, rfl⟩
theorem n20_11 : In jdk_53_method_1_code 11 (.putfield 13) 3 14 := ⟨by decide +kernel, rfl⟩
theorem n20_14 : In jdk_53_method_1_code 14 (.aload_n 0) 1 15 := ⟨by decide +kernel, rfl⟩
theorem n20_15 : In jdk_53_method_1_code 15 (.iconst 0) 1 16 := ⟨by decide +kernel, rfl⟩
theorem n20_16 : In jdk_53_method_1_code 16 (.putfield 17) 3 19 := ⟨by decide +kernel, rfl⟩
theorem n20_19 : In jdk_53_method_1_code 19 (.aload_n 0) 1 20 := ⟨by decide +kernel, rfl⟩
theorem n20_20 : In jdk_53_method_1_code 20 (.iconst 0) 1 21 := ⟨by decide +kernel, rfl⟩
theorem n20_21 : In jdk_53_method_1_code 21 (.putfield 20) 3 24 := ⟨by decide +kernel, rfl⟩
theorem n20_24 : In jdk_53_method_1_code 24 (.return_) 1 25 := ⟨by decide +kernel, rfl⟩
theorem pn_20 : plainFor (⟨"java/util/ImmutableCollections$ListItr", "<init>", "(Ljava/util/List;I)V"⟩ : MethodName) = true := plainFor_of_name (by first | (simp [plainName, overriddenIn]; done) | decide +kernel)
theorem n18_0 : In jdk_46_method_10_code 0 (.new 61) 3 3 := ⟨by decide +kernel, rfl⟩
theorem n18_3 : In jdk_46_method_10_code 3 (.dup) 1 4 := ⟨by decide +kernel, rfl⟩
theorem n18_4 : In jdk_46_method_10_code 4 (.aload_n 0) 1 5 := ⟨by decide +kernel, rfl⟩
theorem n18_5 : In jdk_46_method_10_code 5 (.aload_n 0) 1 6 := ⟨by decide +kernel, rfl⟩
theorem n18_6 : In jdk_46_method_10_code 6 (.invokevirtual 13) 3 9 := ⟨by decide +kernel, rfl⟩
theorem pd_1265 : parseMethodDescriptor "()I" = some ⟨[], some .int⟩ := by decide +kernel
theorem n18_9 : In jdk_46_method_10_code 9 (.invokespecial 63) 3 12 := ⟨by decide +kernel, rfl⟩
theorem pd_28506 : parseMethodDescriptor "(Ljava/util/List;I)V" = some ⟨[(.object "java/util/List"), .int], none⟩ := by decide +kernel
theorem n18_12 : In jdk_46_method_10_code 12 (.areturn) 1 13 := ⟨by decide +kernel, rfl⟩
theorem pn_18 : plainFor (⟨"java/util/ImmutableCollections$AbstractImmutableList", "iterator", "()Ljava/util/Iterator;"⟩ : MethodName) = true := plainFor_of_name (by first | (simp [plainName, overriddenIn]; done) | decide +kernel)
theorem n21_0 : In jdk_53_method_3_code 0 (.aload_n 0) 1 1 := ⟨by decide +kernel, rfl⟩
theorem n21_1 : In jdk_53_method_3_code 1 (.getfield 17) 3 4 := ⟨by decide +kernel, rfl⟩
theorem n21_4 : In jdk_53_method_3_code 4 (.aload_n 0) 1 5 := ⟨by decide +kernel, rfl⟩
theorem n21_5 : In jdk_53_method_3_code 5 (.getfield 13) 3 8 := ⟨by decide +kernel, rfl⟩
theorem n21_8 : Jm jdk_53_method_3_code 8 (.if_icmp .eq 7) 7 11 15 := ⟨by decide +kernel, rfl, by decide, by decide⟩
theorem n21_15 : In jdk_53_method_3_code 15 (.iconst 0) 1 16 := ⟨by decide +kernel, rfl⟩
theorem n21_16 : In jdk_53_method_3_code 16 (.ireturn) 1 17 := ⟨by decide +kernel, rfl⟩
theorem pn_21 : plainFor (⟨"java/util/ImmutableCollections$ListItr", "hasNext", "()Z"⟩ : MethodName) = true := plainFor_of_name (by first | (simp [plainName, overriddenIn]; done) | decide +kernel)
theorem n17_0 : In prog_35_method_3_code 0 (.aload_n 0) 1 1 := ⟨by decide +kernel, rfl⟩
theorem n17_1 : In prog_35_method_3_code 1 (.invokespecial 28) 3 4 := ⟨by decide +kernel, rfl⟩
theorem n17_4 : In prog_35_method_3_code 4 (.aload_n 0) 1 5 := ⟨by decide +kernel, rfl⟩
theorem n17_5 : In prog_35_method_3_code 5 (.aload_n 1) 1 6 := ⟨by decide +kernel, rfl⟩
theorem n17_6 : In prog_35_method_3_code 6 (.putfield 33) 3 9 := ⟨by decide +kernel, rfl⟩
theorem n17_9 : In prog_35_method_3_code 9 (.aload_n 0) 1 10 := ⟨by decide +kernel, rfl⟩
theorem n17_10 : In prog_35_method_3_code 10 (.aload_n 2) 1 11 := ⟨by decide +kernel, rfl⟩
theorem n17_11 : In prog_35_method_3_code 11 (.putfield 37) 3 14 := ⟨by decide +kernel, rfl⟩
theorem n17_14 : In prog_35_method_3_code 14 (.aload_n 0) 1 15 := ⟨by decide +kernel, rfl⟩
theorem n17_15 : In prog_35_method_3_code 15 (.aload_n 3) 1 16 := ⟨by decide +kernel, rfl⟩
theorem n17_16 : In prog_35_method_3_code 16 (.invokestatic 40) 3 19 := ⟨by decide +kernel, rfl⟩
theorem n17_19 : In prog_35_method_3_code 19 (.putfield 44) 3 22 := ⟨by decide +kernel, rfl⟩
theorem n17_22 : In prog_35_method_3_code 22 (.aload_n 0) 1 23 := ⟨by decide +kernel, rfl⟩
theorem n17_23 : In prog_35_method_3_code 23 (.aload 4) 2 25 := ⟨by decide +kernel, rfl⟩
theorem n17_25 : In prog_35_method_3_code 25 (.invokestatic 40) 3 28 := ⟨by decide +kernel, rfl⟩
theorem n17_28 : In prog_35_method_3_code 28 (.putfield 48) 3 31 := ⟨by decide +kernel, rfl⟩
theorem n17_31 : In prog_35_method_3_code 31 (.aload_n 0) 1 32 := ⟨by decide +kernel, rfl⟩
theorem n17_32 : In prog_35_method_3_code 32 (.aload 5) 2 34 := ⟨by decide +kernel, rfl⟩
theorem n17_34 : In prog_35_method_3_code 34 (.putfield 51) 3 37 := ⟨by decide +kernel, rfl⟩
theorem n17_37 : In prog_35_method_3_code 37 (.aload_n 0) 1 38 := ⟨by decide +kernel, rfl⟩
theorem n17_38 : In prog_35_method_3_code 38 (.getfield 44) 3 41 := ⟨by decide +kernel, rfl⟩
theorem n17_41 : In prog_35_method_3_code 41 (.invokeinterface 54 1) 5 46 := ⟨by decide +kernel, rfl⟩
theorem pd_36571 : parseMethodDescriptor "()Ljava/util/Iterator;" = some ⟨[], some (.object "java/util/Iterator")⟩ := by decide +kernel
theorem n17_46 : In prog_35_method_3_code 46 (.astore 6) 2 48 := ⟨by decide +kernel, rfl⟩
theorem n17_48 : In prog_35_method_3_code 48 (.aload 6) 2 50 := ⟨by decide +kernel, rfl⟩
theorem n17_50 : In prog_35_method_3_code 50 (.invokeinterface 58 1) 5 55 := ⟨by decide +kernel, rfl⟩
theorem n17_55 : Jm prog_35_method_3_code 55 (.ifCond .eq 95) 95 58 150 := ⟨by decide +kernel, rfl, by decide, by decide⟩
theorem n17_150 : In prog_35_method_3_code 150 (.return_) 1 151 := ⟨by decide +kernel, rfl⟩
theorem pn_17 : plainFor (⟨"com/example/variaform/variaform/model/feature/Feature", "<init>", "(Ljava/lang/String;Lcom/example/variaform/variaform/model/feature/Feature$Type;Ljava/util/List;Ljava/util/List;Lcom/example/variaform/variaform/model/feature/Comments;)V"⟩ : MethodName) = true := plainFor_of_name (by first | (simp [plainName, overriddenIn]; done) | decide +kernel)
theorem n16_0 : In prog_35_method_2_code 0 (.aload_n 0) 1 1 := ⟨by decide +kernel, rfl⟩
theorem n16_1 : In prog_35_method_2_code 1 (.aload_n 1) 1 2 := ⟨by decide +kernel, rfl⟩
theorem n16_2 : In prog_35_method_2_code 2 (.aload_n 2) 1 3 := ⟨by decide +kernel, rfl⟩
theorem n16_3 : In prog_35_method_2_code 3 (.aload_n 3) 1 4 := ⟨by decide +kernel, rfl⟩
theorem n16_4 : In prog_35_method_2_code 4 (.aload 4) 2 6 := ⟨by decide +kernel, rfl⟩
theorem n16_6 : In prog_35_method_2_code 6 (.getstatic 19) 3 9 := ⟨by decide +kernel, rfl⟩
theorem n16_9 : In prog_35_method_2_code 9 (.invokespecial 25) 3 12 := ⟨by decide +kernel, rfl⟩
theorem pd_1484651 : parseMethodDescriptor "(Ljava/lang/String;Lcom/example/variaform/variaform/model/feature/Feature$Type;Ljava/util/List;Ljava/util/List;Lcom/example/variaform/variaform/model/feature/Comments;)V" = some ⟨[(.object "java/lang/String"), (.object "com/example/variaform/variaform/model/feature/Feature$Type"), (.object "java/util/List"), (.object "java/util/List"), (.object "com/example/variaform/variaform/model/feature/Comments")], none⟩ := by decide +kernel
theorem n16_12 : In prog_35_method_2_code 12 (.return_) 1 13 := ⟨by decide +kernel, rfl⟩
theorem pn_16 : plainFor (⟨"com/example/variaform/variaform/model/feature/Feature", "<init>", "(Ljava/lang/String;Lcom/example/variaform/variaform/model/feature/Feature$Type;Ljava/util/List;Ljava/util/List;)V"⟩ : MethodName) = true := plainFor_of_name (by first | (simp [plainName, overriddenIn]; done) | decide +kernel)
theorem n15_0 : In prog_35_method_1_code 0 (.aload_n 0) 1 1 := ⟨by decide +kernel, rfl⟩
theorem n15_1 : In prog_35_method_1_code 1 (.aload_n 1) 1 2 := ⟨by decide +kernel, rfl⟩
theorem n15_2 : In prog_35_method_1_code 2 (.getstatic 1) 3 5 := ⟨by decide +kernel, rfl⟩
theorem n15_5 : In prog_35_method_1_code 5 (.aload_n 2) 1 6 := ⟨by decide +kernel, rfl⟩
theorem n15_6 : In prog_35_method_1_code 6 (.invokestatic 7) 3 9 := ⟨by decide +kernel, rfl⟩
theorem n15_9 : In prog_35_method_1_code 9 (.invokespecial 13) 3 12 := ⟨by decide +kernel, rfl⟩
theorem pd_672520 : parseMethodDescriptor "(Ljava/lang/String;Lcom/example/variaform/variaform/model/feature/Feature$Type;Ljava/util/List;Ljava/util/List;)V" = some ⟨[(.object "java/lang/String"), (.object "com/example/variaform/variaform/model/feature/Feature$Type"), (.object "java/util/List"), (.object "java/util/List")], none⟩ := by decide +kernel
theorem n15_12 : In prog_35_method_1_code 12 (.return_) 1 13 := ⟨by decide +kernel, rfl⟩
theorem pn_15 : plainFor (⟨"com/example/variaform/variaform/model/feature/Feature", "<init>", "(Ljava/lang/String;Ljava/util/List;)V"⟩ : MethodName) = true := plainFor_of_name (by first | (simp [plainName, overriddenIn]; done) | decide +kernel)
theorem n25_0 : In jdk_38_method_6_code 0 (.aload_n 0) 1 1 := ⟨by decide +kernel, rfl⟩
theorem n25_1 : In jdk_38_method_6_code 1 (.getfield 9) 3 4 := ⟨by decide +kernel, rfl⟩
theorem n25_4 : In jdk_38_method_6_code 4 (.arraylength) 1 5 := ⟨by decide +kernel, rfl⟩
theorem n25_5 : In jdk_38_method_6_code 5 (.istore_n 2) 1 6 := ⟨by decide +kernel, rfl⟩
theorem n25_6 : In jdk_38_method_6_code 6 (.iload_n 2) 1 7 := ⟨by decide +kernel, rfl⟩
theorem n25_7 : Jm jdk_38_method_6_code 7 (.ifCond .gt 13) 13 10 20 := ⟨by decide +kernel, rfl, by decide, by decide⟩
theorem n25_10 : In jdk_38_method_6_code 10 (.aload_n 0) 1 11 := ⟨by decide +kernel, rfl⟩
theorem n25_11 : In jdk_38_method_6_code 11 (.getfield 9) 3 14 := ⟨by decide +kernel, rfl⟩
theorem n25_14 : In jdk_38_method_6_code 14 (.getstatic 39) 3 17 := ⟨by decide +kernel, rfl⟩
theorem n25_17 : Jm jdk_38_method_6_code 17 (.if_acmp .eq 28) 28 20 45 := ⟨by decide +kernel, rfl, by decide, by decide⟩
theorem n25_45 : In jdk_38_method_6_code 45 (.aload_n 0) 1 46 := ⟨by decide +kernel, rfl⟩
theorem n25_46 : In jdk_38_method_6_code 46 (.bipush 10) 2 48 := ⟨by decide +kernel, rfl⟩
theorem n25_48 : In jdk_38_method_6_code 48 (.iload_n 1) 1 49 := ⟨by decide +kernel, rfl⟩
theorem n25_49 : In jdk_38_method_6_code 49 (.invokestatic 79) 3 52 := ⟨by decide +kernel, rfl⟩
theorem n25_52 : In jdk_38_method_6_code 52 (.anewarray 7) 3 55 := ⟨by decide +kernel, rfl⟩
theorem n25_55 : In jdk_38_method_6_code 55 (.dup_x1) 1 56 := ⟨by decide +kernel, rfl⟩
theorem n25_56 : In jdk_38_method_6_code 56 (.putfield 9) 3 59 := ⟨by decide +kernel, rfl⟩
theorem n25_59 : In jdk_38_method_6_code 59 (.areturn) 1 60 := ⟨by decide +kernel, rfl⟩
theorem pn_25 : plainFor (⟨"java/util/ArrayList", "grow", "(I)[Ljava/lang/Object;"⟩ : MethodName) = true := plainFor_of_name (by first | (simp [plainName, overriddenIn]; done) | decide +kernel)
theorem n24_0 : In jdk_38_method_7_code 0 (.aload_n 0) 1 1 := ⟨by decide +kernel, rfl⟩
theorem n24_1 : In jdk_38_method_7_code 1 (.aload_n 0) 1 2 := ⟨by decide +kernel, rfl⟩
theorem n24_2 : In jdk_38_method_7_code 2 (.getfield 48) 3 5 := ⟨by decide +kernel, rfl⟩
theorem n24_5 : In jdk_38_method_7_code 5 (.iconst 1) 1 6 := ⟨by decide +kernel, rfl⟩
theorem n24_6 : In jdk_38_method_7_code 6 (.iadd) 1 7 := ⟨by decide +kernel, rfl⟩
theorem n24_7 : In jdk_38_method_7_code 7 (.invokevirtual 69) 3 10 := ⟨by decide +kernel, rfl⟩
theorem pd_34509 : parseMethodDescriptor "(I)[Ljava/lang/Object;" = some ⟨[.int], some (.array (.object "java/lang/Object"))⟩ := by decide +kernel
theorem n24_10 : In jdk_38_method_7_code 10 (.areturn) 1 11 := ⟨by decide +kernel, rfl⟩
theorem pn_24 : plainFor (⟨"java/util/ArrayList", "grow", "()[Ljava/lang/Object;"⟩ : MethodName) = true := plainFor_of_name (by first | (simp [plainName, overriddenIn]; done) | decide +kernel)
theorem n23_0 : In jdk_38_method_24_code 0 (.iload_n 3) 1 1 := ⟨by decide +kernel, rfl⟩
theorem n23_1 : In jdk_38_method_24_code 1 (.aload_n 2) 1 2 := ⟨by decide +kernel, rfl⟩
theorem n23_2 : In jdk_38_method_24_code 2 (.arraylength) 1 3 := ⟨by decide +kernel, rfl⟩
theorem n23_3 : Jm jdk_38_method_24_code 3 (.if_icmp .ne 8) 8 6 11 := ⟨by decide +kernel, rfl, by decide, by decide⟩
theorem n23_6 : In jdk_38_method_24_code 6 (.aload_n 0) 1 7 := ⟨by decide +kernel, rfl⟩
theorem n23_7 : In jdk_38_method_24_code 7 (.invokevirtual 129) 3 10 := ⟨by decide +kernel, rfl⟩
theorem n23_10 : In jdk_38_method_24_code 10 (.astore_n 2) 1 11 := ⟨by decide +kernel, rfl⟩
theorem n23_11 : In jdk_38_method_24_code 11 (.aload_n 2) 1 12 := ⟨by decide +kernel, rfl⟩
theorem n23_12 : In jdk_38_method_24_code 12 (.iload_n 3) 1 13 := ⟨by decide +kernel, rfl⟩
theorem n23_13 : In jdk_38_method_24_code 13 (.aload_n 1) 1 14 := ⟨by decide +kernel, rfl⟩
theorem n23_14 : In jdk_38_method_24_code 14 (.aastore) 1 15 := ⟨by decide +kernel, rfl⟩
theorem n23_15 : In jdk_38_method_24_code 15 (.aload_n 0) 1 16 := ⟨by decide +kernel, rfl⟩
theorem n23_16 : In jdk_38_method_24_code 16 (.iload_n 3) 1 17 := ⟨by decide +kernel, rfl⟩
theorem n23_17 : In jdk_38_method_24_code 17 (.iconst 1) 1 18 := ⟨by decide +kernel, rfl⟩
theorem n23_18 : In jdk_38_method_24_code 18 (.iadd) 1 19 := ⟨by decide +kernel, rfl⟩
theorem n23_19 : In jdk_38_method_24_code 19 (.putfield 48) 3 22 := ⟨by decide +kernel, rfl⟩
theorem n23_22 : In jdk_38_method_24_code 22 (.return_) 1 23 := ⟨by decide +kernel, rfl⟩
theorem pn_23 : plainFor (⟨"java/util/ArrayList", "add", "(Ljava/lang/Object;[Ljava/lang/Object;I)V"⟩ : MethodName) = true := plainFor_of_name (by first | (simp [plainName, overriddenIn]; done) | decide +kernel)
theorem n22_0 : In jdk_38_method_25_code 0 (.aload_n 0) 1 1 := ⟨by decide +kernel, rfl⟩
theorem n22_1 : In jdk_38_method_25_code 1 (.dup) 1 2 := ⟨by decide +kernel, rfl⟩
theorem n22_2 : In jdk_38_method_25_code 2 (.getfield 63) 3 5 := ⟨by decide +kernel, rfl⟩
theorem n22_5 : In jdk_38_method_25_code 5 (.iconst 1) 1 6 := ⟨by decide +kernel, rfl⟩
theorem n22_6 : In jdk_38_method_25_code 6 (.iadd) 1 7 := ⟨by decide +kernel, rfl⟩
theorem n22_7 : In jdk_38_method_25_code 7 (.putfield 63) 3 10 := ⟨by decide +kernel, rfl⟩
theorem n22_10 : In jdk_38_method_25_code 10 (.aload_n 0) 1 11 := ⟨by decide +kernel, rfl⟩
theorem n22_11 : In jdk_38_method_25_code 11 (.aload_n 1) 1 12 := ⟨by decide +kernel, rfl⟩
theorem n22_12 : In jdk_38_method_25_code 12 (.aload_n 0) 1 13 := ⟨by decide +kernel, rfl⟩
theorem n22_13 : In jdk_38_method_25_code 13 (.getfield 9) 3 16 := ⟨by decide +kernel, rfl⟩
theorem n22_16 : In jdk_38_method_25_code 16 (.aload_n 0) 1 17 := ⟨by decide +kernel, rfl⟩
theorem n22_17 : In jdk_38_method_25_code 17 (.getfield 48) 3 20 := ⟨by decide +kernel, rfl⟩
theorem n22_20 : In jdk_38_method_25_code 20 (.invokevirtual 131) 3 23 := ⟨by decide +kernel, rfl⟩
theorem pd_98223 : parseMethodDescriptor "(Ljava/lang/Object;[Ljava/lang/Object;I)V" = some ⟨[(.object "java/lang/Object"), (.array (.object "java/lang/Object")), .int], none⟩ := by decide +kernel
theorem n22_23 : In jdk_38_method_25_code 23 (.iconst 1) 1 24 := ⟨by decide +kernel, rfl⟩
theorem n22_24 : In jdk_38_method_25_code 24 (.ireturn) 1 25 := ⟨by decide +kernel, rfl⟩
theorem pn_22 : plainFor (⟨"java/util/ArrayList", "add", "(Ljava/lang/Object;)Z"⟩ : MethodName) = true := plainFor_of_name (by first | (simp [plainName, overriddenIn]; done) | decide +kernel)
theorem n0_169 : In code 169 (.aload 8) 2 171 := ⟨at_169, rfl⟩
theorem n0_171 : In code 171 (.aload 10) 2 173 := ⟨at_171, rfl⟩
theorem n0_173 : In code 173 (.invokevirtual 42) 3 176 := ⟨at_173, rfl⟩
theorem pd_290238 : parseMethodDescriptor "(Ljava/util/List;)Lcom/example/variaform/variaform/model/feature/Group;" = some ⟨[(.object "java/util/List")], some (.object "com/example/variaform/variaform/model/feature/Group")⟩ := by decide +kernel
theorem n0_176 : In code 176 (.astore 8) 2 178 := ⟨at_176, rfl⟩
theorem n0_178 : In code 178 (.aload 8) 2 180 := ⟨at_178, rfl⟩
theorem n0_180 : In code 180 (.invokevirtual 46) 3 183 := ⟨at_180, rfl⟩
theorem n0_183 : In code 183 (.iload 9) 2 185 := ⟨at_183, rfl⟩
theorem n0_185 : Jm code 185 (.if_icmp .ne 7) 7 188 192 := ⟨at_185, rfl, by decide, by decide⟩
theorem n0_188 : In code 188 (.iconst 1) 1 189 := ⟨at_188, rfl⟩
theorem n0_189 : Jm code 189 (.goto 4) 4 192 193 := ⟨at_189, rfl, by decide, by decide⟩
theorem n0_193 : In code 193 (.ireturn) 1 194 := ⟨at_193, rfl⟩
theorem n0_155 : In code 155 (.new 7) 3 158 := ⟨at_155, rfl⟩
theorem n0_158 : In code 158 (.dup) 1 159 := ⟨at_158, rfl⟩
theorem n0_159 : In code 159 (.invokespecial 9) 3 162 := ⟨at_159, rfl⟩
theorem n0_162 : In code 162 (.invokespecial 14) 3 165 := ⟨at_162, rfl⟩
theorem pd_84010 : parseMethodDescriptor "(Ljava/lang/String;Ljava/util/List;)V" = some ⟨[(.object "java/lang/String"), (.object "java/util/List")], none⟩ := by decide +kernel
theorem n0_165 : In code 165 (.invokevirtual 17) 3 168 := ⟨at_165, rfl⟩
theorem pd_31150 : parseMethodDescriptor "(Ljava/lang/Object;)Z" = some ⟨[(.object "java/lang/Object")], some .boolean⟩ := by decide +kernel
theorem n0_168 : In code 168 (.pop) 1 169 := ⟨at_168, rfl⟩
theorem n0_124 : In code 124 (.iload_n 3) 1 125 := ⟨at_124, rfl⟩
theorem n0_125 : In code 125 (.bipush 8) 2 127 := ⟨at_125, rfl⟩
theorem n0_127 : In code 127 (.iand) 1 128 := ⟨at_127, rfl⟩
theorem n0_128 : Jm code 128 (.ifCond .eq 50) 50 131 178 := ⟨at_128, rfl, by decide, by decide⟩
theorem n0_131 : In code 131 (.new 7) 3 134 := ⟨at_131, rfl⟩
theorem n0_134 : In code 134 (.dup) 1 135 := ⟨at_134, rfl⟩
theorem n0_135 : In code 135 (.invokespecial 9) 3 138 := ⟨at_135, rfl⟩
theorem n0_138 : In code 138 (.astore 10) 2 140 := ⟨at_138, rfl⟩
theorem n0_140 : In code 140 (.iload_n 3) 1 141 := ⟨at_140, rfl⟩
theorem n0_141 : In code 141 (.bipush 16) 2 143 := ⟨at_141, rfl⟩
theorem n0_143 : In code 143 (.iand) 1 144 := ⟨at_143, rfl⟩
theorem n0_144 : Jm code 144 (.ifCond .eq 25) 25 147 169 := ⟨at_144, rfl, by decide, by decide⟩
theorem n0_147 : In code 147 (.aload 10) 2 149 := ⟨at_147, rfl⟩
theorem n0_149 : In code 149 (.new 10) 3 152 := ⟨at_149, rfl⟩
theorem n0_152 : In code 152 (.dup) 1 153 := ⟨at_152, rfl⟩
theorem n0_153 : In code 153 (.ldc 40) 2 155 := ⟨at_153, rfl⟩
theorem n0_37 : In code 37 (.iload_n 1) 1 38 := ⟨at_37, rfl⟩
theorem n0_38 : In code 38 (.ldc 21) 2 40 := ⟨at_38, rfl⟩
theorem n0_40 : In code 40 (.iand) 1 41 := ⟨at_40, rfl⟩
theorem n0_41 : In code 41 (.istore 5) 2 43 := ⟨at_41, rfl⟩
theorem n0_43 : In code 43 (.iload_n 2) 1 44 := ⟨at_43, rfl⟩
theorem n0_44 : In code 44 (.ldc 21) 2 46 := ⟨at_44, rfl⟩
theorem n0_46 : In code 46 (.iand) 1 47 := ⟨at_46, rfl⟩
theorem n0_47 : In code 47 (.istore 6) 2 49 := ⟨at_47, rfl⟩
theorem n0_49 : In code 49 (.iload_n 0) 1 50 := ⟨at_49, rfl⟩
theorem n0_50 : In code 50 (.ldc 21) 2 52 := ⟨at_50, rfl⟩
theorem n0_52 : In code 52 (.iand) 1 53 := ⟨at_52, rfl⟩
theorem n0_53 : In code 53 (.iconst 3) 1 54 := ⟨at_53, rfl⟩
theorem n0_54 : In code 54 (.irem) 1 55 := ⟨at_54, rfl⟩
theorem n0_55 : In code 55 (.istore 7) 2 57 := ⟨at_55, rfl⟩
theorem n0_57 : In code 57 (.iload 7) 2 59 := ⟨at_57, rfl⟩
theorem n0_59 : Jm code 59 (.ifCond .ne 26) 26 62 85 := ⟨at_59, rfl, by decide, by decide⟩
theorem n0_85 : In code 85 (.iload 7) 2 87 := ⟨at_85, rfl⟩
theorem n0_87 : In code 87 (.iconst 1) 1 88 := ⟨at_87, rfl⟩
theorem n0_88 : Jm code 88 (.if_icmp .ne 18) 18 91 106 := ⟨at_88, rfl, by decide, by decide⟩
theorem n0_106 : In code 106 (.new 22) 3 109 := ⟨at_106, rfl⟩
theorem n0_109 : In code 109 (.dup) 1 110 := ⟨at_109, rfl⟩
theorem n0_110 : In code 110 (.iload 5) 2 112 := ⟨at_110, rfl⟩
theorem n0_112 : In code 112 (.iload 6) 2 114 := ⟨at_112, rfl⟩
theorem n0_114 : In code 114 (.aload 4) 2 116 := ⟨at_114, rfl⟩
theorem n0_116 : In code 116 (.invokespecial 37) 3 119 := ⟨at_116, rfl⟩
theorem pd_31132 : parseMethodDescriptor "(IILjava/util/List;)V" = some ⟨[.int, .int, (.object "java/util/List")], none⟩ := by decide +kernel
theorem n0_119 : In code 119 (.astore 8) 2 121 := ⟨at_119, rfl⟩
theorem n0_121 : In code 121 (.iconst 0) 1 122 := ⟨at_121, rfl⟩
theorem n0_122 : In code 122 (.istore 9) 2 124 := ⟨at_122, rfl⟩
theorem n0_91 : In code 91 (.iload 5) 2 93 := ⟨at_91, rfl⟩
theorem n0_93 : In code 93 (.aload 4) 2 95 := ⟨at_93, rfl⟩
theorem n0_95 : In code 95 (.invokestatic 33) 3 98 := ⟨at_95, rfl⟩
theorem pd_297588 : parseMethodDescriptor "(ILjava/util/List;)Lcom/example/variaform/variaform/model/feature/Group;" = some ⟨[.int, (.object "java/util/List")], some (.object "com/example/variaform/variaform/model/feature/Group")⟩ := by decide +kernel
theorem n0_98 : In code 98 (.astore 8) 2 100 := ⟨at_98, rfl⟩
theorem n0_100 : In code 100 (.iconst 1) 1 101 := ⟨at_100, rfl⟩
theorem n0_101 : In code 101 (.istore 9) 2 103 := ⟨at_101, rfl⟩
theorem n0_103 : Jm code 103 (.goto 21) 21 106 124 := ⟨at_103, rfl, by decide, by decide⟩
theorem n0_62 : In code 62 (.new 22) 3 65 := ⟨at_62, rfl⟩
theorem n0_65 : In code 65 (.dup) 1 66 := ⟨at_65, rfl⟩
theorem n0_66 : In code 66 (.iload_n 3) 1 67 := ⟨at_66, rfl⟩
theorem n0_67 : In code 67 (.iconst 3) 1 68 := ⟨at_67, rfl⟩
theorem n0_68 : In code 68 (.iand) 1 69 := ⟨at_68, rfl⟩
theorem n0_69 : In code 69 (.invokestatic 24) 3 72 := ⟨at_69, rfl⟩
theorem pd_216416 : parseMethodDescriptor "(I)Lcom/example/variaform/variaform/model/feature/Group$Kind;" = some ⟨[.int], some (.object "com/example/variaform/variaform/model/feature/Group$Kind")⟩ := by decide +kernel
theorem n0_72 : In code 72 (.aload 4) 2 74 := ⟨at_72, rfl⟩
theorem n0_74 : In code 74 (.invokespecial 30) 3 77 := ⟨at_74, rfl⟩
theorem pd_325174 : parseMethodDescriptor "(Lcom/example/variaform/variaform/model/feature/Group$Kind;Ljava/util/List;)V" = some ⟨[(.object "com/example/variaform/variaform/model/feature/Group$Kind"), (.object "java/util/List")], none⟩ := by decide +kernel
theorem n0_77 : In code 77 (.astore 8) 2 79 := ⟨at_77, rfl⟩
theorem n0_79 : In code 79 (.iconst 0) 1 80 := ⟨at_79, rfl⟩
theorem n0_80 : In code 80 (.istore 9) 2 82 := ⟨at_80, rfl⟩
theorem n0_82 : Jm code 82 (.goto 42) 42 85 124 := ⟨at_82, rfl, by decide, by decide⟩
theorem n0_23 : In code 23 (.new 7) 3 26 := ⟨at_23, rfl⟩
theorem n0_26 : In code 26 (.dup) 1 27 := ⟨at_26, rfl⟩
theorem n0_27 : In code 27 (.invokespecial 9) 3 30 := ⟨at_27, rfl⟩
theorem n0_30 : In code 30 (.invokespecial 14) 3 33 := ⟨at_30, rfl⟩
theorem n0_33 : In code 33 (.invokevirtual 17) 3 36 := ⟨at_33, rfl⟩
theorem n0_36 : In code 36 (.pop) 1 37 := ⟨at_36, rfl⟩
theorem n0_0 : In code 0 (.new 7) 3 3 := ⟨at_0, rfl⟩
theorem n0_3 : In code 3 (.dup) 1 4 := ⟨at_3, rfl⟩
theorem n0_4 : In code 4 (.invokespecial 9) 3 7 := ⟨at_4, rfl⟩
theorem n0_7 : In code 7 (.astore 4) 2 9 := ⟨at_7, rfl⟩
theorem n0_9 : In code 9 (.iload_n 3) 1 10 := ⟨at_9, rfl⟩
theorem n0_10 : In code 10 (.iconst 4) 1 11 := ⟨at_10, rfl⟩
theorem n0_11 : In code 11 (.iand) 1 12 := ⟨at_11, rfl⟩
theorem n0_12 : Jm code 12 (.ifCond .eq 25) 25 15 37 := ⟨at_12, rfl, by decide, by decide⟩
theorem n0_15 : In code 15 (.aload 4) 2 17 := ⟨at_15, rfl⟩
theorem n0_17 : In code 17 (.new 10) 3 20 := ⟨at_17, rfl⟩
theorem n0_20 : In code 20 (.dup) 1 21 := ⟨at_20, rfl⟩
theorem n0_21 : In code 21 (.ldc 12) 2 23 := ⟨at_21, rfl⟩
theorem pn_0 : plainFor (⟨"com/example/variaform/variaform/model/feature/GroupIsUpperUnboundedPinLaw", "law", "(IIII)Z"⟩ : MethodName) = true := plainFor_of_name (by first | (simp [plainName, overriddenIn]; done) | decide +kernel)
theorem own_eqI {t : Term} {k : Int32} {args : Array Value} {s : State} (h : (Cond.eq t (.int k)).value args s none s [] = some true) : t.eval args s none [] s = some (.int k) := by
  obtain ⟨x, y, h1, h2, h3, -⟩ := cmp_v (Or.inl h)
  cases (Option.some.inj h2 : (Value.int k) = y)
  cases x <;> first | (have := gotT (Cond.eq_ints h1 h2) h; rw [h1, this]; done) | (simp [Kin, Value.isRef] at h3; done)
theorem own_eqL {t : Term} {k : Int64} {args : Array Value} {s : State} (h : (Cond.eq t (.long k)).value args s none s [] = some true) : t.eval args s none [] s = some (.long k) := by
  obtain ⟨x, y, h1, h2, h3, -⟩ := cmp_v (Or.inl h)
  cases (Option.some.inj h2 : (Value.long k) = y)
  cases x <;> first | (have := gotT (eq_L h1 h2) h; rw [h1, this]; done) | (simp [Kin, Value.isRef] at h3; done)
theorem own_eqR {a b : Term} {y : Addr} {args : Array Value} {s : State} (h : (Cond.eq a b).value args s none s [] = some true) (hb : b.eval args s none [] s = some (.ref y)) : a.eval args s none [] s = some (.ref y) := by
  obtain ⟨x, y', h1, h2, h3, h4⟩ := cmp_v (Or.inl h)
  cases h2.symm.trans hb
  have hx : x.isRef = true := h4.2
  have := gotT (eq_R h1 h2 hx rfl) h
  rw [h1, this]
theorem own_nar1 : nar .boolean 1 = 1 := rfl
theorem own_nar0 : nar .boolean 0 = 0 := rfl
def own_W (Z : State) (d0 el ea em cn km kp kr ka ki bt mr : Addr) : Prop := (Sta Z Z.heap "java/util/ArrayList" "DEFAULTCAPACITY_EMPTY_ELEMENTDATA" "[Ljava/lang/Object;" (.ref d0)) ∧ (Sta Z Z.heap "java/util/ImmutableCollections" "EMPTY_LIST" "Ljava/util/ImmutableCollections$ListN;" (.ref el)) ∧ (Sta Z Z.heap "java/util/ImmutableCollections" "EMPTY" "Ljava/lang/Object;" (.ref em)) ∧ (Sta Z Z.heap "com/example/variaform/variaform/model/feature/Comments" "NONE" "Lcom/example/variaform/variaform/model/feature/Comments;" (.ref cn)) ∧ (Sta Z Z.heap "com/example/variaform/variaform/model/feature/Group$Kind" "MANDATORY" "Lcom/example/variaform/variaform/model/feature/Group$Kind;" (.ref km)) ∧ (Sta Z Z.heap "com/example/variaform/variaform/model/feature/Group$Kind" "OPTIONAL" "Lcom/example/variaform/variaform/model/feature/Group$Kind;" (.ref kp)) ∧ (Sta Z Z.heap "com/example/variaform/variaform/model/feature/Group$Kind" "OR" "Lcom/example/variaform/variaform/model/feature/Group$Kind;" (.ref kr)) ∧ (Sta Z Z.heap "com/example/variaform/variaform/model/feature/Group$Kind" "ALTERNATIVE" "Lcom/example/variaform/variaform/model/feature/Group$Kind;" (.ref ka)) ∧ (Sta Z Z.heap "com/example/variaform/variaform/model/feature/Group$Kind" "INTERVAL" "Lcom/example/variaform/variaform/model/feature/Group$Kind;" (.ref ki)) ∧ (Sta Z Z.heap "com/example/variaform/variaform/model/feature/Feature$Type" "BOOLEAN" "Lcom/example/variaform/variaform/model/feature/Feature$Type;" (.ref bt)) ∧ (∃ c, Arr Z Z.heap d0 c (.object "java/lang/Object") ∧ c.slots.size.toInt32 = (0 : Int32)) ∧ (Exa Z Z.heap el "java/util/ImmutableCollections$ListN") ∧ (Fld Z Z.heap el "java/util/ImmutableCollections$ListN" "allowNulls" "Z" (.int (0 : Int32))) ∧ (Fld Z Z.heap el "java/util/ImmutableCollections$ListN" "elements" "[Ljava/lang/Object;" (.ref ea)) ∧ (∃ c, Arr Z Z.heap ea c (.object "java/lang/Object") ∧ c.slots.size.toInt32 = (0 : Int32)) ∧ (Mir Z "[Ljava/lang/Object;" mr) ∧ (km ≠ ki ∧ kp ≠ ki ∧ kr ≠ ki ∧ ka ≠ ki)
theorem own_W.sD {Z : State} {d0 el ea em cn km kp kr ka ki bt mr : Addr} (W : own_W Z d0 el ea em cn km kp kr ka ki bt mr) : Sta Z Z.heap "java/util/ArrayList" "DEFAULTCAPACITY_EMPTY_ELEMENTDATA" "[Ljava/lang/Object;" (.ref d0) := W.1
theorem own_W.sL {Z : State} {d0 el ea em cn km kp kr ka ki bt mr : Addr} (W : own_W Z d0 el ea em cn km kp kr ka ki bt mr) : Sta Z Z.heap "java/util/ImmutableCollections" "EMPTY_LIST" "Ljava/util/ImmutableCollections$ListN;" (.ref el) := W.2.1
theorem own_W.sE {Z : State} {d0 el ea em cn km kp kr ka ki bt mr : Addr} (W : own_W Z d0 el ea em cn km kp kr ka ki bt mr) : Sta Z Z.heap "java/util/ImmutableCollections" "EMPTY" "Ljava/lang/Object;" (.ref em) := W.2.2.1
theorem own_W.sC {Z : State} {d0 el ea em cn km kp kr ka ki bt mr : Addr} (W : own_W Z d0 el ea em cn km kp kr ka ki bt mr) : Sta Z Z.heap "com/example/variaform/variaform/model/feature/Comments" "NONE" "Lcom/example/variaform/variaform/model/feature/Comments;" (.ref cn) := W.2.2.2.1
theorem own_W.sM {Z : State} {d0 el ea em cn km kp kr ka ki bt mr : Addr} (W : own_W Z d0 el ea em cn km kp kr ka ki bt mr) : Sta Z Z.heap "com/example/variaform/variaform/model/feature/Group$Kind" "MANDATORY" "Lcom/example/variaform/variaform/model/feature/Group$Kind;" (.ref km) := W.2.2.2.2.1
theorem own_W.sP {Z : State} {d0 el ea em cn km kp kr ka ki bt mr : Addr} (W : own_W Z d0 el ea em cn km kp kr ka ki bt mr) : Sta Z Z.heap "com/example/variaform/variaform/model/feature/Group$Kind" "OPTIONAL" "Lcom/example/variaform/variaform/model/feature/Group$Kind;" (.ref kp) := W.2.2.2.2.2.1
theorem own_W.sR {Z : State} {d0 el ea em cn km kp kr ka ki bt mr : Addr} (W : own_W Z d0 el ea em cn km kp kr ka ki bt mr) : Sta Z Z.heap "com/example/variaform/variaform/model/feature/Group$Kind" "OR" "Lcom/example/variaform/variaform/model/feature/Group$Kind;" (.ref kr) := W.2.2.2.2.2.2.1
theorem own_W.sA {Z : State} {d0 el ea em cn km kp kr ka ki bt mr : Addr} (W : own_W Z d0 el ea em cn km kp kr ka ki bt mr) : Sta Z Z.heap "com/example/variaform/variaform/model/feature/Group$Kind" "ALTERNATIVE" "Lcom/example/variaform/variaform/model/feature/Group$Kind;" (.ref ka) := W.2.2.2.2.2.2.2.1
theorem own_W.sI {Z : State} {d0 el ea em cn km kp kr ka ki bt mr : Addr} (W : own_W Z d0 el ea em cn km kp kr ka ki bt mr) : Sta Z Z.heap "com/example/variaform/variaform/model/feature/Group$Kind" "INTERVAL" "Lcom/example/variaform/variaform/model/feature/Group$Kind;" (.ref ki) := W.2.2.2.2.2.2.2.2.1
theorem own_W.sB {Z : State} {d0 el ea em cn km kp kr ka ki bt mr : Addr} (W : own_W Z d0 el ea em cn km kp kr ka ki bt mr) : Sta Z Z.heap "com/example/variaform/variaform/model/feature/Feature$Type" "BOOLEAN" "Lcom/example/variaform/variaform/model/feature/Feature$Type;" (.ref bt) := W.2.2.2.2.2.2.2.2.2.1
theorem own_W.aD {Z : State} {d0 el ea em cn km kp kr ka ki bt mr : Addr} (W : own_W Z d0 el ea em cn km kp kr ka ki bt mr) : ∃ c, Arr Z Z.heap d0 c (.object "java/lang/Object") ∧ c.slots.size.toInt32 = (0 : Int32) := W.2.2.2.2.2.2.2.2.2.2.1
theorem own_W.eL {Z : State} {d0 el ea em cn km kp kr ka ki bt mr : Addr} (W : own_W Z d0 el ea em cn km kp kr ka ki bt mr) : Exa Z Z.heap el "java/util/ImmutableCollections$ListN" := W.2.2.2.2.2.2.2.2.2.2.2.1
theorem own_W.fN {Z : State} {d0 el ea em cn km kp kr ka ki bt mr : Addr} (W : own_W Z d0 el ea em cn km kp kr ka ki bt mr) : Fld Z Z.heap el "java/util/ImmutableCollections$ListN" "allowNulls" "Z" (.int (0 : Int32)) := W.2.2.2.2.2.2.2.2.2.2.2.2.1
theorem own_W.fE {Z : State} {d0 el ea em cn km kp kr ka ki bt mr : Addr} (W : own_W Z d0 el ea em cn km kp kr ka ki bt mr) : Fld Z Z.heap el "java/util/ImmutableCollections$ListN" "elements" "[Ljava/lang/Object;" (.ref ea) := W.2.2.2.2.2.2.2.2.2.2.2.2.2.1
theorem own_W.aE {Z : State} {d0 el ea em cn km kp kr ka ki bt mr : Addr} (W : own_W Z d0 el ea em cn km kp kr ka ki bt mr) : ∃ c, Arr Z Z.heap ea c (.object "java/lang/Object") ∧ c.slots.size.toInt32 = (0 : Int32) := W.2.2.2.2.2.2.2.2.2.2.2.2.2.2.1
theorem own_W.mi {Z : State} {d0 el ea em cn km kp kr ka ki bt mr : Addr} (W : own_W Z d0 el ea em cn km kp kr ka ki bt mr) : Mir Z "[Ljava/lang/Object;" mr := W.2.2.2.2.2.2.2.2.2.2.2.2.2.2.2.1
theorem own_W.kd {Z : State} {d0 el ea em cn km kp kr ka ki bt mr : Addr} (W : own_W Z d0 el ea em cn km kp kr ka ki bt mr) : km ≠ ki ∧ kp ≠ ki ∧ kr ≠ ki ∧ ka ≠ ki := W.2.2.2.2.2.2.2.2.2.2.2.2.2.2.2.2

/-- an ArrayList that is empty, or holds one Feature -/
def own_lst (Z : State) (h : Heap) (a : Addr) : Prop := Exa Z h a "java/util/ArrayList" ∧ (Fld Z h a "java/util/ArrayList" "size" "I" (.int (0 : Int32)) ∨ ∃ (b f : Addr) (k : ClassId), Fld Z h a "java/util/ArrayList" "size" "I" (.int (1 : Int32)) ∧ Fld Z h a "java/util/ArrayList" "elementData" "[Ljava/lang/Object;" (.ref b) ∧ Arv Z h b k (.object "java/lang/Object") (10 : Int32) [.ref f, .null, .null, .null, .null, .null, .null, .null, .null, .null] .null ∧ Exa Z h b "[Ljava/lang/Object;" ∧ Exa Z h f "com/example/variaform/variaform/model/feature/Feature")
theorem own_lst_keep {Z : State} {h h' : Heap} {a : Addr} (K : Keep h h' []) (S : own_lst Z h a) : own_lst Z h' a := by
  obtain ⟨E, S⟩ := S
  refine ⟨E.keep K, ?_⟩
  rcases S with S | ⟨b, f, k, s1, s2, s3, s4, s5⟩
  · exact Or.inl (S.keep K nin0)
  · exact Or.inr ⟨b, f, k, s1.keep K nin0, s2.keep K nin0, s3.keep K nin0, s4.keep K, s5.keep K⟩
def own_ise (z : Int32) : Int32 := if z = 0 then nar .boolean 1 else nar .boolean 0
def own_max (x y : Int32) : Int32 := if x < y then y else x
def own_min (x y : Int32) : Int32 := if y < x then y else x
def own_kind (km kp kr ka : Addr) (k : Int32) : Addr := if k = 0 then km else if k = 1 then kp else if k = 2 then kr else ka
def own_un (u : Int32) : Int32 := if u = -1 then nar .boolean 1 else nar .boolean 0
/-- a class without a superclass lies below no other class -/
theorem own_top {Z : State} {a0 : Array Value} {B K : String} {n : Nat} (w : (Cond.noSuperclass B).before a0 Z = true) (wk : (Cond.instantiable K n).before a0 Z = true) (hn : B ≠ K) : NS Z B K :=
  let ⟨_, _, hB, hk, hs, _⟩ := Cond.noSuperclass_spec w
  let ⟨_, _, hK, _⟩ := Cond.instantiable_spec wk
  ⟨_, _, hB, hK, fun
    | 0 => rfl
    | _ + 1 => by simp only [Vm.isSubclassAux, beq_eq_false_iff_ne.mpr (ids_ne hB hK hn), hk, hs, Bool.or_self]⟩
/-- an ordinary class's objects are none of an ordinary class that lies nowhere above it -/
theorem own_apart {Z : State} {a0 : Array Value} {B S K : String} {n : Nat} (w : (Cond.superclass B S).before a0 Z = true) (wk : (Cond.instantiable K n).before a0 Z = true) (q : NS Z B K) (hn : B ≠ K) : ∃ c t, Z.vm.findClass B = some c ∧ Z.vm.findClass K = some t ∧ Z.vm.assignable c t = false :=
  let ⟨c, t, hB, hK, far⟩ := q
  ⟨c, t, hB, hK, by
    have ordB : ∃ k, Z.vm.classes[c]? = some k ∧ k.kind = .ordinary := by
      obtain ⟨_, k, _, _, a, _, _, b, _⟩ := Cond.superclass_spec hB w; exact ⟨k, a, b⟩
    have ordK : ∃ k, Z.vm.classes[t]? = some k ∧ k.kind = .ordinary ∧ k.isInterface = false := by
      obtain ⟨_, k, a, b, o, i, _⟩ := Cond.instantiable_spec wk
      cases hK.symm.trans a
      exact ⟨k, b, o, (Bool.or_eq_false_iff.mp i).1⟩
    obtain ⟨_, b1, b2⟩ := ordB
    obtain ⟨_, t1, t2, t3⟩ := ordK
    simp [Vm.assignable, Vm.assignableAux, ids_ne hB hK hn, b1, b2, t1, t2, t3, Vm.isSubclass, far]⟩

theorem own_mask (x : Int32) : ¬ (x &&& (2147483647 : Int32)) < 0 := by
  have h1 := c_mask x 2147483647 31 (by decide) (by decide)
  have k0 : (0 : Int32).toInt = 0 := by decide
  rw [Int32.lt_iff_toInt_lt, k0, h1]
  omega
theorem own_un_mask (x : Int32) : own_un (x &&& (2147483647 : Int32)) = (0 : Int32) := by
  unfold own_un
  rw [if_neg (fun q => own_mask x (by rw [q]; decide))]
  rfl
theorem own_kind_ne {km kp kr ka ki : Addr} (H : km ≠ ki ∧ kp ≠ ki ∧ kr ≠ ki ∧ ka ≠ ki) (k : Int32) : own_kind km kp kr ka k ≠ ki := by
  unfold own_kind
  split
  · exact H.1
  · split
    · exact H.2.1
    · split
      · exact H.2.2.1
      · exact H.2.2.2
theorem own_sa : ∀ d ∈ Bundle.stringAtoms, d ∈ tables_1 := by decide +kernel

set_option maxRecDepth 65536 in
set_option maxHeartbeats 4000000 in
theorem ef_rACI (m : MethodId) (x0 : Addr) : entryFrame m #[(.ref x0)] 1 = mkF m 0 #[.val (.ref x0)] [] := by first | (simp [entryFrame, mkF, argsToLocals, Value.category]; done) | rfl
set_option maxRecDepth 65536 in
set_option maxHeartbeats 40000000 in
theorem rACI (l : Launch) (Z : State) (a0 : Array Value) (hw : ∀ d ∈ tables_1, d.before a0 Z = true) (a1 : Addr) (h0 : Heap) : Con l Z (⟨"java/util/AbstractCollection", "<init>", "()V"⟩ : MethodName) jdk_22_method_1_code 1 none ({ frames := 1, cells := 0, slots := 0, locals := 12 } : Room) #[(.ref a1)] h0 (fun v h L => v = none ∧ h = h0 ∧ L = []) := by
  refine w_body (Ls := #[.val (.ref a1)]) pn_3 (fun m => ef_rACI m a1) ?_
  intro p e s m below meth c T0 X0 hx hby hml hown hnm hret hlk hZ e0
  refine w_aloadN X0 hx hby n3_0 rfl rfl ?_
  refine w_initO X0 hx hby hZ hown (by rw [hml]; rfl) (Wd := 0) (hw _ t_18) (hw _ t_19) (hw _ t_20) e0 n3_1 (by decide) rfl (by decide) fun T1 X1 e1 => ?_
  refine w_retV X1 hx hby e1 hlk hret n3_4 (by decide) (by decide) ?_
  exact ⟨rfl, rfl, rfl⟩
set_option maxRecDepth 65536 in
set_option maxHeartbeats 4000000 in
theorem ef_rAIC (m : MethodId) (x0 : Addr) : entryFrame m #[(.ref x0)] 1 = mkF m 0 #[.val (.ref x0)] [] := by first | (simp [entryFrame, mkF, argsToLocals, Value.category]; done) | rfl
set_option maxRecDepth 65536 in
set_option maxHeartbeats 40000000 in
theorem rAIC (l : Launch) (Z : State) (a0 : Array Value) (hw : ∀ d ∈ tables_1, d.before a0 Z = true) (a1 : Addr) (h0 : Heap) : Con l Z (⟨"java/util/ImmutableCollections$AbstractImmutableCollection", "<init>", "()V"⟩ : MethodName) jdk_47_method_1_code 1 none ({ frames := 2, cells := 0, slots := 0, locals := 24 } : Room) #[(.ref a1)] h0 (fun v h L => v = none ∧ h = h0 ∧ L = []) := by
  refine w_body (Ls := #[.val (.ref a1)]) pn_34 (fun m => ef_rAIC m a1) ?_
  intro p e s m below meth c T0 X0 hx hby hml hown hnm hret hlk hZ e0
  refine w_aloadN X0 hx hby n34_0 rfl rfl ?_
  refine w_called (call_N X0 hx hby hZ hown (argsL := []) (rest := []) (Wd := 0) (a := a1) rfl (hw _ t_274) (hw _ t_13) (hw _ t_16) (hw _ t_17) (by decide) (rACI l Z a0 hw a1 h0) rfl n34_1 (by rw [hml]; rfl) (lenOf pd_1382 rfl) rfl (by decide) (by decide) (by decide) (by decide) e0) fun v1 T1 L1 X1 Q1 => ?_
  obtain ⟨rfl, hh1, rfl⟩ := Q1
  rw [List.append_nil] at X1
  show Wg p e below _ T1 (mkF m 4 #[.val (.ref a1)] [])
  refine w_retV X1 hx hby hh1 hlk hret n34_4 (by decide) (by decide) ?_
  exact ⟨rfl, rfl, rfl⟩
set_option maxRecDepth 65536 in
set_option maxHeartbeats 4000000 in
theorem ef_rAIL (m : MethodId) (x0 : Addr) : entryFrame m #[(.ref x0)] 1 = mkF m 0 #[.val (.ref x0)] [] := by first | (simp [entryFrame, mkF, argsToLocals, Value.category]; done) | rfl
set_option maxRecDepth 65536 in
set_option maxHeartbeats 40000000 in
theorem rAIL (l : Launch) (Z : State) (a0 : Array Value) (hw : ∀ d ∈ tables_1, d.before a0 Z = true) (a1 : Addr) (h0 : Heap) : Con l Z (⟨"java/util/ImmutableCollections$AbstractImmutableList", "<init>", "()V"⟩ : MethodName) jdk_46_method_1_code 1 none ({ frames := 3, cells := 0, slots := 0, locals := 36 } : Room) #[(.ref a1)] h0 (fun v h L => v = none ∧ h = h0 ∧ L = []) := by
  refine w_body (Ls := #[.val (.ref a1)]) pn_33 (fun m => ef_rAIL m a1) ?_
  intro p e s m below meth c T0 X0 hx hby hml hown hnm hret hlk hZ e0
  refine w_aloadN X0 hx hby n33_0 rfl rfl ?_
  refine w_called (call_N X0 hx hby hZ hown (argsL := []) (rest := []) (Wd := 0) (a := a1) rfl (hw _ t_268) (hw _ t_269) (hw _ t_272) (hw _ t_273) (by decide) (rAIC l Z a0 hw a1 h0) rfl n33_1 (by rw [hml]; rfl) (lenOf pd_1382 rfl) rfl (by decide) (by decide) (by decide) (by decide) e0) fun v1 T1 L1 X1 Q1 => ?_
  obtain ⟨rfl, hh1, rfl⟩ := Q1
  rw [List.append_nil] at X1
  show Wg p e below _ T1 (mkF m 4 #[.val (.ref a1)] [])
  refine w_retV X1 hx hby hh1 hlk hret n33_4 (by decide) (by decide) ?_
  exact ⟨rfl, rfl, rfl⟩
set_option maxRecDepth 65536 in
set_option maxHeartbeats 4000000 in
theorem ef_rABL (m : MethodId) (x0 : Addr) : entryFrame m #[(.ref x0)] 1 = mkF m 0 #[.val (.ref x0)] [] := by first | (simp [entryFrame, mkF, argsToLocals, Value.category]; done) | rfl
set_option maxRecDepth 65536 in
set_option maxHeartbeats 40000000 in
theorem rABL (l : Launch) (Z : State) (a0 : Array Value) (hw : ∀ d ∈ tables_1, d.before a0 Z = true) (d0 el ea em cn km kp kr ka ki bt mr : Addr) (a1 : Addr) (h0 : Heap) (W0 : own_W Z d0 el ea em cn km kp kr ka ki bt mr) (n0 : Nat) (O0 : Old Z n0 h0) (g1 : n0 ≤ a1) (E1 : Exa Z h0 a1 "java/util/ArrayList") (F_modCount : Fld Z h0 a1 "java/util/AbstractList" "modCount" "I" (.int (0 : Int32))) (F_elementData : Fld Z h0 a1 "java/util/ArrayList" "elementData" "[Ljava/lang/Object;" .null) (F_size : Fld Z h0 a1 "java/util/ArrayList" "size" "I" (.int (0 : Int32))) : Con l Z (⟨"java/util/AbstractList", "<init>", "()V"⟩ : MethodName) jdk_39_method_1_code 1 none ({ frames := 2, cells := 0, slots := 0, locals := 24 } : Room) #[(.ref a1)] h0 (fun v h L => v = none ∧ Fr n0 L ∧ Keep h0 h [a1] ∧ Exa Z h a1 "java/util/ArrayList" ∧ Fld Z h a1 "java/util/AbstractList" "modCount" "I" (.int (0 : Int32)) ∧ Fld Z h a1 "java/util/ArrayList" "elementData" "[Ljava/lang/Object;" .null ∧ Fld Z h a1 "java/util/ArrayList" "size" "I" (.int (0 : Int32))) := by
  refine w_body (Ls := #[.val (.ref a1)]) pn_2 (fun m => ef_rABL m a1) ?_
  intro p e s m below meth c T0 X0 hx hby hml hown hnm hret hlk hZ e0
  have Z0 : n0 ≤ h0.size := O0.1 ▸ O0.2.1
  refine w_aloadN X0 hx hby n2_0 rfl rfl ?_
  refine w_called (call_N X0 hx hby hZ hown (argsL := []) (rest := []) (Wd := 0) (a := a1) rfl (hw _ t_12) (hw _ t_13) (hw _ t_16) (hw _ t_17) (by decide) (rACI l Z a0 hw a1 h0) rfl n2_1 (by rw [hml]; rfl) (lenOf pd_1382 rfl) rfl (by decide) (by decide) (by decide) (by decide) e0) fun v1 T1 L1 X1 Q1 => ?_
  obtain ⟨rfl, hh1, rfl⟩ := Q1
  rw [List.append_nil] at X1
  show Wg p e below _ T1 (mkF m 4 #[.val (.ref a1)] [])
  refine w_aloadN X1 hx hby n2_4 rfl rfl ?_
  refine w_iconst X1 hx hby (0 : Int32) n2_5 rfl ?_
  refine w_putFN X1 hx hby hZ hown (hw _ t_21) Via.refl hh1 F_modCount E1 (Or.inl (hw _ t_22)) (hw _ t_1) (ty := .int) (by decide) rfl rfl n2_6 fun T2 h2 X2 e2 W2 => ?_
  have P2 := F_modCount.same W2
  have N2 := Fr.snoc X2 (Fr.nil n0) g1
  have z3 : h0.size ≤ h2.size := Nat.le_trans (Nat.le_refl h0.size) (Keep.of_wr W2).1
  have k3 : Keep h0 h2 [a1] := (Keep.refl h0 [a1]).wr W2 (Or.inl (List.mem_of_getElem? (i := 0) rfl))
  refine w_retV X2 hx hby e2 hlk hret n2_9 (by decide) (by decide) ?_
  have f4 := (E1.wr W2)
  have f5 := (F_elementData.other W2 (Or.inr (slot_ne (Or.inl (hw _ t_25)) (Or.inl (hw _ t_22)) (by decide) (t := (.array (.object "java/lang/Object"))) (t' := .int) (by decide) (by decide))))
  have f6 := (F_size.other W2 (Or.inr (slot_ne (Or.inl (hw _ t_77)) (Or.inl (hw _ t_22)) (by decide) (t := .int) (t' := .int) (by decide) (by decide))))
  exact ⟨rfl, N2, k3, f4, P2, f5, f6⟩
set_option maxRecDepth 65536 in
set_option maxHeartbeats 4000000 in
theorem ef_rALI (m : MethodId) (x0 : Addr) : entryFrame m #[(.ref x0)] 1 = mkF m 0 #[.val (.ref x0)] [] := by first | (simp [entryFrame, mkF, argsToLocals, Value.category]; done) | rfl
set_option maxRecDepth 65536 in
set_option maxHeartbeats 40000000 in
theorem rALI (l : Launch) (Z : State) (a0 : Array Value) (hw : ∀ d ∈ tables_1, d.before a0 Z = true) (d0 el ea em cn km kp kr ka ki bt mr : Addr) (a1 : Addr) (h0 : Heap) (W0 : own_W Z d0 el ea em cn km kp kr ka ki bt mr) (n0 : Nat) (O0 : Old Z n0 h0) (g1 : n0 ≤ a1) (E1 : Exa Z h0 a1 "java/util/ArrayList") (F_modCount : Fld Z h0 a1 "java/util/AbstractList" "modCount" "I" (.int (0 : Int32))) (F_elementData : Fld Z h0 a1 "java/util/ArrayList" "elementData" "[Ljava/lang/Object;" .null) (F_size : Fld Z h0 a1 "java/util/ArrayList" "size" "I" (.int (0 : Int32))) : Con l Z (⟨"java/util/ArrayList", "<init>", "()V"⟩ : MethodName) jdk_38_method_2_code 1 none ({ frames := 3, cells := 0, slots := 0, locals := 36 } : Room) #[(.ref a1)] h0 (fun v h L => v = none ∧ Fr n0 L ∧ Keep h0 h [a1] ∧ Exa Z h a1 "java/util/ArrayList" ∧ Fld Z h a1 "java/util/AbstractList" "modCount" "I" (.int (0 : Int32)) ∧ Fld Z h a1 "java/util/ArrayList" "elementData" "[Ljava/lang/Object;" (.ref d0) ∧ Fld Z h a1 "java/util/ArrayList" "size" "I" (.int (0 : Int32))) := by
  refine w_body (Ls := #[.val (.ref a1)]) pn_1 (fun m => ef_rALI m a1) ?_
  intro p e s m below meth c T0 X0 hx hby hml hown hnm hret hlk hZ e0
  have Z0 : n0 ≤ h0.size := O0.1 ▸ O0.2.1
  refine w_aloadN X0 hx hby n1_0 rfl rfl ?_
  refine w_called (call_N X0 hx hby hZ hown (argsL := []) (rest := []) (Wd := 0) (a := a1) rfl (hw _ t_6) (hw _ t_7) (hw _ t_10) (hw _ t_11) (by decide) (rABL l Z a0 hw d0 el ea em cn km kp kr ka ki bt mr a1   h0 W0 n0 O0 g1 E1 F_modCount F_elementData F_size ) rfl n1_1 (by rw [hml]; rfl) (lenOf pd_1382 rfl) rfl (by decide) (by decide) (by decide) (by decide) e0) fun v1 T1 L1 X1 Q1 => ?_
  obtain ⟨rfl, n1, k1, ea1, c1_modCount, c1_elementData, c1_size⟩ := Q1
  have N1 := Fr.app (Fr.nil n0) n1
  have z2 : h0.size ≤ T1.heap.size := Nat.le_trans (Nat.le_refl h0.size) k1.1
  have k2 : Keep h0 T1.heap [a1] := (Keep.refl h0 [a1]).trans k1 (allS (Or.inl (List.mem_of_getElem? (i := 0) rfl)) all0)
  show Wg p e below _ T1 (mkF m 4 #[.val (.ref a1)] [])
  refine w_aloadN X1 hx hby n1_4 rfl rfl ?_
  have f3 := (O0.keep k1 (allS g1 all0))
  refine w_getS X1 hx hby hZ hown (host := "") (Or.inl (hw _ t_23)) Via.refl rfl (W0.sD.ext f3.2) n1_5 fun T4 X4 e4 => ?_
  refine w_putFN X4 hx hby hZ hown (hw _ t_24) Via.refl e4 c1_elementData ea1 (Or.inl (hw _ t_25)) (hw _ t_1) (ty := (.array (.object "java/lang/Object"))) (by decide) rfl rfl n1_8 fun T5 h5 X5 e5 W5 => ?_
  have P5 := c1_elementData.same W5
  have N5 := Fr.snoc X5 N1 g1
  have z6 : h0.size ≤ h5.size := Nat.le_trans z2 (Keep.of_wr W5).1
  have k6 : Keep h0 h5 [a1] := k2.wr W5 (Or.inl (List.mem_of_getElem? (i := 0) rfl))
  refine w_retV X5 hx hby e5 hlk hret n1_11 (by decide) (by decide) ?_
  have f7 := (ea1.wr W5)
  have f8 := (c1_modCount.other W5 (Or.inr (slot_ne (Or.inl (hw _ t_22)) (Or.inl (hw _ t_25)) (by decide) (t := .int) (t' := (.array (.object "java/lang/Object"))) (by decide) (by decide))))
  have f9 := (c1_size.other W5 (Or.inr (slot_ne (Or.inl (hw _ t_77)) (Or.inl (hw _ t_25)) (by decide) (t := .int) (t' := (.array (.object "java/lang/Object"))) (by decide) (by decide))))
  exact ⟨rfl, N5, k6, f7, f8, P5, f9⟩
set_option maxRecDepth 65536 in
set_option maxHeartbeats 4000000 in
theorem ef_rOF0 (m : MethodId)  : entryFrame m #[] 0 = mkF m 0 #[] [] := by first | (simp [entryFrame, mkF, argsToLocals, Value.category]; done) | rfl
set_option maxRecDepth 65536 in
set_option maxHeartbeats 40000000 in
theorem rOF0 (l : Launch) (Z : State) (a0 : Array Value) (hw : ∀ d ∈ tables_1, d.before a0 Z = true) (d0 el ea em cn km kp kr ka ki bt mr : Addr) (h0 : Heap) (W0 : own_W Z d0 el ea em cn km kp kr ka ki bt mr) (n0 : Nat) (O0 : Old Z n0 h0) : Con l Z (⟨"java/util/List", "of", "()Ljava/util/List;"⟩ : MethodName) jdk_40_method_36_code 0 (some (.object "java/util/List")) ({ frames := 0, cells := 0, slots := 0, locals := 0 } : Room) #[] h0 (fun v h L => v = some (.ref el) ∧ h = h0 ∧ L = []) := by
  refine w_body (Ls := #[]) pn_11 (fun m => ef_rOF0 m ) ?_
  intro p e s m below meth c T0 X0 hx hby hml hown hnm hret hlk hZ e0
  have Z0 : n0 ≤ h0.size := O0.1 ▸ O0.2.1
  refine w_getS X0 hx hby hZ hown (host := "") (Or.inl (hw _ t_81)) Via.refl e0 (W0.sL.ext O0.2) n11_0 fun T1 X1 e1 => ?_
  refine w_retA X1 hx hby e1 hlk hret rfl rfl rfl n11_3 (by decide) (by decide) ?_
  exact ⟨rfl, rfl, rfl⟩
set_option maxRecDepth 65536 in
set_option maxHeartbeats 4000000 in
theorem ef_rISE (m : MethodId) (x0 : Addr) : entryFrame m #[(.ref x0)] 1 = mkF m 0 #[.val (.ref x0)] [] := by first | (simp [entryFrame, mkF, argsToLocals, Value.category]; done) | rfl
set_option maxRecDepth 65536 in
set_option maxHeartbeats 40000000 in
theorem rISE (l : Launch) (Z : State) (a0 : Array Value) (hw : ∀ d ∈ tables_1, d.before a0 Z = true) (a1 : Addr) (z1 : Int32) (h0 : Heap) (F1 : Fld Z h0 a1 "java/util/ArrayList" "size" "I" (.int z1)) : Con l Z (⟨"java/util/ArrayList", "isEmpty", "()Z"⟩ : MethodName) jdk_38_method_9_code 1 (some .boolean) ({ frames := 0, cells := 0, slots := 0, locals := 0 } : Room) #[(.ref a1)] h0 (fun v h L => v = some (.int (own_ise z1)) ∧ h = h0 ∧ L = []) := by
  refine w_body (Ls := #[.val (.ref a1)]) pn_10 (fun m => ef_rISE m a1) ?_
  intro p e s m below meth c T0 X0 hx hby hml hown hnm hret hlk hZ e0
  refine w_aloadN X0 hx hby n10_0 rfl rfl ?_
  refine w_getF X0 hx hby hZ hown (host := "") (Or.inl (hw _ t_76)) Via.refl e0 F1 n10_1 fun T1 X1 e1 => ?_
  refine f_if_ne X1 hx hby n10_4 (fun q4 => ?_) (fun q4 => ?_)
  · refine w_iconst X1 hx hby (0 : Int32) n10_11 rfl ?_
    refine w_retN X1 hx hby e1 hlk hret (by simp) n10_12 (by decide) (by decide) ?_
    exact ⟨congrArg (fun q => some (Value.int q)) (by first | (unfold own_ise; rw [if_neg q4] <;> rfl) | simp [own_ise, own_nar1, own_nar0, q4]), rfl, rfl⟩
  · refine w_iconst X1 hx hby (1 : Int32) n10_7 rfl ?_
    refine w_goto X1 hx hby n10_8 ?_
    refine w_retN X1 hx hby e1 hlk hret (by simp) n10_12 (by decide) (by decide) ?_
    exact ⟨congrArg (fun q => some (Value.int q)) (by first | (unfold own_ise; rw [if_pos q4] <;> rfl) | simp [own_ise, own_nar1, own_nar0, q4]), rfl, rfl⟩
set_option maxRecDepth 65536 in
set_option maxHeartbeats 4000000 in
theorem ef_rRNN (m : MethodId) (x0 : Addr) : entryFrame m #[(.ref x0)] 1 = mkF m 0 #[.val (.ref x0)] [] := by first | (simp [entryFrame, mkF, argsToLocals, Value.category]; done) | rfl
set_option maxRecDepth 65536 in
set_option maxHeartbeats 40000000 in
theorem rRNN (l : Launch) (Z : State) (a0 : Array Value) (hw : ∀ d ∈ tables_1, d.before a0 Z = true) (y1 : Addr) (h0 : Heap) : Con l Z (⟨"java/util/Objects", "requireNonNull", "(Ljava/lang/Object;)Ljava/lang/Object;"⟩ : MethodName) jdk_31_method_10_code 1 (some (.object "java/lang/Object")) ({ frames := 0, cells := 0, slots := 0, locals := 0 } : Room) #[(.ref y1)] h0 (fun v h L => v = some (.ref y1) ∧ h = h0 ∧ L = []) := by
  refine w_body (Ls := #[.val (.ref y1)]) pn_35 (fun m => ef_rRNN m y1) ?_
  intro p e s m below meth c T0 X0 hx hby hml hown hnm hret hlk hZ e0
  refine w_aloadN X0 hx hby n35_0 rfl rfl ?_
  refine w_ifnonnullRef X0 hx hby n35_1 ?_
  refine w_aloadN X0 hx hby n35_12 rfl rfl ?_
  refine w_retA X0 hx hby e0 hlk hret rfl rfl rfl n35_13 (by decide) (by decide) ?_
  exact ⟨rfl, rfl, rfl⟩
set_option maxRecDepth 65536 in
set_option maxHeartbeats 4000000 in
theorem ef_rMAX (m : MethodId) (x0 : Int32) (x1 : Int32) : entryFrame m #[(.int x0), (.int x1)] 2 = mkF m 0 #[.val (.int x0), .val (.int x1)] [] := by first | (simp [entryFrame, mkF, argsToLocals, Value.category]; done) | rfl
set_option maxRecDepth 65536 in
set_option maxHeartbeats 40000000 in
theorem rMAX (l : Launch) (Z : State) (a0 : Array Value) (hw : ∀ d ∈ tables_1, d.before a0 Z = true) (x1 y1 : Int32) (h0 : Heap) : Con l Z (⟨"java/lang/Math", "max", "(II)I"⟩ : MethodName) jdk_29_method_65_code 2 (some .int) ({ frames := 0, cells := 0, slots := 0, locals := 0 } : Room) #[(.int x1), (.int y1)] h0 (fun v h L => v = some (.int (own_max x1 y1)) ∧ h = h0 ∧ L = []) := by
  refine w_body (Ls := #[.val (.int x1), .val (.int y1)]) pn_26 (fun m => ef_rMAX m x1 y1) ?_
  intro p e s m below meth c T0 X0 hx hby hml hown hnm hret hlk hZ e0
  refine w_iloadN X0 hx hby n26_0 rfl ?_
  refine w_iloadN X0 hx hby n26_1 rfl ?_
  refine f_icmp_lt X0 hx hby n26_2 (fun q2 => ?_) (fun q2 => ?_)
  · refine w_iloadN X0 hx hby n26_9 rfl ?_
    refine w_retI X0 hx hby e0 hlk hret n26_10 (by decide) (by decide) ?_
    exact ⟨congrArg (fun q => some (Value.int q)) (by first | (unfold own_max; rw [if_pos q2] <;> rfl) | simp [own_max, own_nar1, own_nar0, q2]), rfl, rfl⟩
  · refine w_iloadN X0 hx hby n26_5 rfl ?_
    refine w_goto X0 hx hby n26_6 ?_
    refine w_retI X0 hx hby e0 hlk hret n26_10 (by decide) (by decide) ?_
    exact ⟨congrArg (fun q => some (Value.int q)) (by first | (unfold own_max; rw [if_neg q2] <;> rfl) | simp [own_max, own_nar1, own_nar0, q2]), rfl, rfl⟩
set_option maxRecDepth 65536 in
set_option maxHeartbeats 4000000 in
theorem ef_rMIN (m : MethodId) (x0 : Int32) (x1 : Int32) : entryFrame m #[(.int x0), (.int x1)] 2 = mkF m 0 #[.val (.int x0), .val (.int x1)] [] := by first | (simp [entryFrame, mkF, argsToLocals, Value.category]; done) | rfl
set_option maxRecDepth 65536 in
set_option maxHeartbeats 40000000 in
theorem rMIN (l : Launch) (Z : State) (a0 : Array Value) (hw : ∀ d ∈ tables_1, d.before a0 Z = true) (x1 y1 : Int32) (h0 : Heap) : Con l Z (⟨"java/lang/Math", "min", "(II)I"⟩ : MethodName) jdk_29_method_69_code 2 (some .int) ({ frames := 0, cells := 0, slots := 0, locals := 0 } : Room) #[(.int x1), (.int y1)] h0 (fun v h L => v = some (.int (own_min x1 y1)) ∧ h = h0 ∧ L = []) := by
  refine w_body (Ls := #[.val (.int x1), .val (.int y1)]) pn_30 (fun m => ef_rMIN m x1 y1) ?_
  intro p e s m below meth c T0 X0 hx hby hml hown hnm hret hlk hZ e0
  refine w_iloadN X0 hx hby n30_0 rfl ?_
  refine w_iloadN X0 hx hby n30_1 rfl ?_
  refine f_icmp_gt X0 hx hby n30_2 (fun q2 => ?_) (fun q2 => ?_)
  · refine w_iloadN X0 hx hby n30_9 rfl ?_
    refine w_retI X0 hx hby e0 hlk hret n30_10 (by decide) (by decide) ?_
    exact ⟨congrArg (fun q => some (Value.int q)) (by first | (unfold own_min; rw [if_pos q2] <;> rfl) | simp [own_min, own_nar1, own_nar0, q2]), rfl, rfl⟩
  · refine w_iloadN X0 hx hby n30_5 rfl ?_
    refine w_goto X0 hx hby n30_6 ?_
    refine w_retI X0 hx hby e0 hlk hret n30_10 (by decide) (by decide) ?_
    exact ⟨congrArg (fun q => some (Value.int q)) (by first | (unfold own_min; rw [if_neg q2] <;> rfl) | simp [own_min, own_nar1, own_nar0, q2]), rfl, rfl⟩
set_option maxRecDepth 65536 in
set_option maxHeartbeats 4000000 in
theorem ef_rL12 (m : MethodId) (x0 : Addr) (x1 : Addr) : entryFrame m #[(.ref x0), (.ref x1)] 2 = mkF m 0 #[.val (.ref x0), .val (.ref x1)] [] := by first | (simp [entryFrame, mkF, argsToLocals, Value.category]; done) | rfl
set_option maxRecDepth 65536 in
set_option maxHeartbeats 40000000 in
theorem rL12 (l : Launch) (Z : State) (a0 : Array Value) (hw : ∀ d ∈ tables_1, d.before a0 Z = true) (d0 el ea em cn km kp kr ka ki bt mr : Addr) (a1 : Addr) (y1 : Addr) (h0 : Heap) (W0 : own_W Z d0 el ea em cn km kp kr ka ki bt mr) (n0 : Nat) (O0 : Old Z n0 h0) (g1 : n0 ≤ a1) (E1 : Exa Z h0 a1 "java/util/ImmutableCollections$List12") (F_e0 : Fld Z h0 a1 "java/util/ImmutableCollections$List12" "e0" "Ljava/lang/Object;" .null) (F_e1 : Fld Z h0 a1 "java/util/ImmutableCollections$List12" "e1" "Ljava/lang/Object;" .null) : Con l Z (⟨"java/util/ImmutableCollections$List12", "<init>", "(Ljava/lang/Object;)V"⟩ : MethodName) jdk_44_method_1_code 2 none ({ frames := 4, cells := 0, slots := 0, locals := 48 } : Room) #[(.ref a1), (.ref y1)] h0 (fun v h L => v = none ∧ Fr n0 L ∧ Keep h0 h [a1] ∧ Exa Z h a1 "java/util/ImmutableCollections$List12" ∧ Fld Z h a1 "java/util/ImmutableCollections$List12" "e0" "Ljava/lang/Object;" (.ref y1) ∧ Fld Z h a1 "java/util/ImmutableCollections$List12" "e1" "Ljava/lang/Object;" (.ref em)) := by
  refine w_body (Ls := #[.val (.ref a1), .val (.ref y1)]) pn_32 (fun m => ef_rL12 m a1 y1) ?_
  intro p e s m below meth c T0 X0 hx hby hml hown hnm hret hlk hZ e0
  have Z0 : n0 ≤ h0.size := O0.1 ▸ O0.2.1
  refine w_aloadN X0 hx hby n32_0 rfl rfl ?_
  refine w_called (call_N X0 hx hby hZ hown (argsL := []) (rest := []) (Wd := 0) (a := a1) rfl (hw _ t_263) (hw _ t_264) (hw _ t_156) (hw _ t_267) (by decide) (rAIL l Z a0 hw a1 h0) rfl n32_1 (by rw [hml]; rfl) (lenOf pd_1382 rfl) rfl (by decide) (by decide) (by decide) (by decide) e0) fun v1 T1 L1 X1 Q1 => ?_
  obtain ⟨rfl, hh1, rfl⟩ := Q1
  rw [List.append_nil] at X1
  show Wg p e below _ T1 (mkF m 4 #[.val (.ref a1), .val (.ref y1)] [])
  refine w_aloadN X1 hx hby n32_4 rfl rfl ?_
  refine w_aloadN X1 hx hby n32_5 rfl rfl ?_
  refine w_calledp (call_S X1 hx hby hZ hown (argsL := [(.ref y1)]) (rest := [(.ref a1)]) (Wd := 1) (hw _ t_276) (hw _ t_277) (hw _ t_278) (hw _ t_279) (by decide) (rRNN l Z a0 hw y1 h0) rfl n32_6 (by rw [hml]; rfl) (lenOf pd_87710 rfl) rfl (by decide) (by decide) (by decide) (by decide) hh1) rfl rfl fun T2 X2 e2 => ?_
  refine w_putFN X2 hx hby hZ hown (hw _ t_280) Via.refl e2 F_e0 E1 (Or.inr ⟨(hw _ t_281), rfl, hnm⟩) (hw _ t_257) (ty := (.object "java/lang/Object")) (by decide) rfl rfl n32_9 fun T3 h3 X3 e3 W3 => ?_
  have P3 := F_e0.same W3
  have N3 := Fr.snoc X3 (Fr.nil n0) g1
  have z4 : h0.size ≤ h3.size := Nat.le_trans (Nat.le_refl h0.size) (Keep.of_wr W3).1
  have k4 : Keep h0 h3 [a1] := (Keep.refl h0 [a1]).wr W3 (Or.inl (List.mem_of_getElem? (i := 0) rfl))
  refine w_aloadN X3 hx hby n32_12 rfl rfl ?_
  have f5 := (O0.wr W3 g1)
  refine w_getS X3 hx hby hZ hown (Or.inr (hw _ t_282)) Via.refl e3 (W0.sE.ext f5.2) n32_13 fun T6 X6 e6 => ?_
  have f7 := (F_e1.other W3 (Or.inr (slot_ne (Or.inr (hw _ t_284)) (Or.inr (hw _ t_281)) (by decide) (t := (.object "java/lang/Object")) (t' := (.object "java/lang/Object")) (by decide) (by decide))))
  have f8 := (E1.wr W3)
  refine w_putFN X6 hx hby hZ hown (hw _ t_283) Via.refl e6 f7 f8 (Or.inr ⟨(hw _ t_284), rfl, hnm⟩) (hw _ t_257) (ty := (.object "java/lang/Object")) (by decide) rfl rfl n32_16 fun T9 h9 X9 e9 W9 => ?_
  have P9 := f7.same W9
  have N9 := Fr.snoc X9 N3 g1
  have z10 : h0.size ≤ h9.size := Nat.le_trans z4 (Keep.of_wr W9).1
  have k10 : Keep h0 h9 [a1] := k4.wr W9 (Or.inl (List.mem_of_getElem? (i := 0) rfl))
  refine w_retV X9 hx hby e9 hlk hret n32_19 (by decide) (by decide) ?_
  have f11 := (f8.wr W9)
  have f12 := (P3.other W9 (Or.inr (slot_ne (Or.inr (hw _ t_281)) (Or.inr (hw _ t_284)) (by decide) (t := (.object "java/lang/Object")) (t' := (.object "java/lang/Object")) (by decide) (by decide))))
  exact ⟨rfl, N9, k10, f11, f12, P9⟩
set_option maxRecDepth 65536 in
set_option maxHeartbeats 4000000 in
theorem ef_rAC2 (m : MethodId) (x0 : Addr) (x1 : Int32) (x2 : Addr) : entryFrame m #[(.ref x0), (.int x1), (.ref x2)] 4 = mkF m 0 #[.val (.ref x0), .val (.int x1), .val (.ref x2), .unset] [] := by first | (simp [entryFrame, mkF, argsToLocals, Value.category]; done) | rfl
set_option maxRecDepth 65536 in
set_option maxHeartbeats 40000000 in
theorem rAC2 (l : Launch) (Z : State) (a0 : Array Value) (hw : ∀ d ∈ tables_1, d.before a0 Z = true) (d0 el ea em cn km kp kr ka ki bt mr : Addr) (r1 f1 : Addr) (kc : ClassId) (h0 : Heap) (W0 : own_W Z d0 el ea em cn km kp kr ka ki bt mr) (n0 : Nat) (O0 : Old Z n0 h0) (V1 : Arv Z h0 r1 kc (.object "java/lang/Object") (10 : Int32) [(.ref f1), .null, .null, .null, .null, .null, .null, .null, .null, .null] .null) (Ef : Exa Z h0 f1 "com/example/variaform/variaform/model/feature/Feature") : Con l Z (⟨"java/util/Arrays", "copyOf", "([Ljava/lang/Object;ILjava/lang/Class;)[Ljava/lang/Object;"⟩ : MethodName) jdk_65_method_120_code 4 (some (.array (.object "java/lang/Object"))) ({ frames := 1, cells := 1, slots := 1, locals := 18 } : Room) #[(.ref r1), (.int (1 : Int32)), (.ref mr)] h0 (fun v h L => ∃ (y : Addr) (kv : ClassId), v = some (.ref y) ∧ Fr n0 L ∧ Keep h0 h [] ∧ Arv Z h y kv (.object "java/lang/Object") (1 : Int32) [(.ref f1)] .null) := by
  refine w_body (Ls := #[.val (.ref r1), .val (.int (1 : Int32)), .val (.ref mr), .unset]) pn_29 (fun m => ef_rAC2 m r1 (1 : Int32) mr) ?_
  intro p e s m below meth c T0 X0 hx hby hml hown hnm hret hlk hZ e0
  have Z0 : n0 ≤ h0.size := O0.1 ▸ O0.2.1
  refine w_aloadN X0 hx hby n29_0 rfl rfl ?_
  refine w_ldcM X0 hx hby hZ hown (hw _ t_244) e0 W0.mi n29_1 fun T1 X1 e1 => ?_
  refine f_acmp_ne X1 hx hby n29_3 (fun q3 => by exact absurd rfl q3) (fun q3 => ?_)
  refine w_iloadN X1 hx hby n29_6 rfl ?_
  refine w_newRE X1 hx hby hZ hown (hw _ t_245) (hw _ t_219) e1 n29_7 (by decide) 1 (by decide) (by decide) (by decide) (by decide) (ad := "[Ljava/lang/Object;") rfl fun T2 h2 b2 k2 g2 X2 e2 E2 A2 I2 O2 => ?_
  have ne_r1_b2 : r1 ≠ b2 := Nat.ne_of_lt (Nat.lt_of_lt_of_eq V1.lt g2.symm)
  have ne_f1_b2 : f1 ≠ b2 := Nat.ne_of_lt (Nat.lt_of_lt_of_eq Ef.lt g2.symm)
  have old_b2 : h0.size ≤ b2 := Nat.le_trans (Nat.le_refl h0.size) (Nat.le_of_eq g2.symm)
  have z3 : h0.size ≤ h2.size := Nat.le_trans (Nat.le_refl h0.size) E2.1
  have k3 : Keep h0 h2 [] := (Keep.refl h0 []).ext E2
  have V2 : Arv Z h2 b2 k2 (.object "java/lang/Object") (1 : Int32) [.null] .null := (Arv.new A2 (by decide)).pad (pad_rep [] .null 1)
  refine w_goto X2 hx hby n29_10 ?_
  refine w_astoreN X2 hx hby #[.val (.ref r1), .val (.int (1 : Int32)), .val (.ref mr), .val (.ref b2)] n29_24 rfl rfl ?_
  refine w_aloadN X2 hx hby n29_25 rfl rfl ?_
  refine w_iconst X2 hx hby (0 : Int32) n29_26 rfl ?_
  refine w_aloadN X2 hx hby n29_27 rfl rfl ?_
  refine w_iconst X2 hx hby (0 : Int32) n29_28 rfl ?_
  refine w_aloadN X2 hx hby n29_29 rfl rfl ?_
  have f4 := (V1.ext E2)
  obtain ⟨cl5, Ar5, qk5, Sz5, Nn5, Ha5, Gf5⟩ := id f4
  refine w_arraylength X2 hx hby hZ e2 Ar5 (len_of Sz5 Nn5) n29_30 ?_
  refine w_iloadN X2 hx hby n29_31 rfl ?_
  refine w_calledp (call_S X2 hx hby hZ hown (argsL := [(.int (10 : Int32)), (.int (1 : Int32))]) (rest := [(.int (0 : Int32)), (.ref b2), (.int (0 : Int32)), (.ref r1)]) (Wd := 4) (hw _ t_246) (hw _ t_247) (hw _ t_216) (hw _ t_248) (by decide) (rMIN l Z a0 hw (10 : Int32) (1 : Int32) h2) rfl n29_32 (by rw [hml]; rfl) (lenOf pd_2734 rfl) rfl (by decide) (by decide) (by decide) (by decide) e2) rfl rfl fun T6 X6 e6 => ?_
  rw [show own_min (10 : Int32) (1 : Int32) = (1 : Int32) from by decide]
  have f7 := (Ef.ext E2)
  obtain ⟨cl8, Ar8, qk8, -⟩ := id V2
  have sto8 : StoL Z h2 b2 [.ref f1] := ⟨Sto.ofV Ar8 qk8 O2 (Ins.of_exa f7 (hw _ t_220)), trivial⟩
  have q0 : (0 : Int32).toNatClampNeg = 0 := by decide
  have q1 : (1 : Int32).toNatClampNeg = 1 := by decide
  refine w_cpA X6 hx hby hZ hown (hw _ t_249) (hw _ t_252) (hw _ t_250) (hw _ t_251) e6 f4 V2 rfl rfl sto8 (by decide) (by decide) (by decide) (by decide) (by decide) (by rw [q0, q1]; rfl) (by rw [q0, q1]; decide) (Fr.nil n0) (Nat.le_trans Z0 old_b2) (by rw [hml]; rfl) n29_35 (by decide) (Wd := 0) rfl (by decide) fun T8 h8 L8 X8 e8 N8 K8 V8 => ?_
  have U8 : Arv Z h8 b2 k2 (.object "java/lang/Object") (1 : Int32) [(.ref f1)] .null := by rw [q0, q1] at V8; exact V8
  have z9 : h0.size ≤ h8.size := Nat.le_trans z3 K8.1
  have k9 : Keep h0 h8 [] := k3.trans K8 (allS (Or.inr old_b2) all0)
  refine w_aloadN X8 hx hby n29_38 rfl rfl ?_
  refine w_retA X8 hx hby e8 hlk hret rfl rfl rfl n29_39 (by decide) (by decide) ?_
  exact ⟨b2, k2, rfl, N8, k9, U8⟩
set_option maxRecDepth 65536 in
set_option maxHeartbeats 4000000 in
theorem ef_rAC1 (m : MethodId) (x0 : Addr) (x1 : Int32) : entryFrame m #[(.ref x0), (.int x1)] 2 = mkF m 0 #[.val (.ref x0), .val (.int x1)] [] := by first | (simp [entryFrame, mkF, argsToLocals, Value.category]; done) | rfl
set_option maxRecDepth 65536 in
set_option maxHeartbeats 40000000 in
theorem rAC1 (l : Launch) (Z : State) (a0 : Array Value) (hw : ∀ d ∈ tables_1, d.before a0 Z = true) (d0 el ea em cn km kp kr ka ki bt mr : Addr) (r1 f1 : Addr) (kc : ClassId) (h0 : Heap) (W0 : own_W Z d0 el ea em cn km kp kr ka ki bt mr) (n0 : Nat) (O0 : Old Z n0 h0) (V1 : Arv Z h0 r1 kc (.object "java/lang/Object") (10 : Int32) [(.ref f1), .null, .null, .null, .null, .null, .null, .null, .null, .null] .null) (Ef : Exa Z h0 f1 "com/example/variaform/variaform/model/feature/Feature") (Er : Exa Z h0 r1 "[Ljava/lang/Object;") : Con l Z (⟨"java/util/Arrays", "copyOf", "([Ljava/lang/Object;I)[Ljava/lang/Object;"⟩ : MethodName) jdk_65_method_119_code 2 (some (.array (.object "java/lang/Object"))) ({ frames := 2, cells := 1, slots := 1, locals := 33 } : Room) #[(.ref r1), (.int (1 : Int32))] h0 (fun v h L => ∃ (y : Addr) (kv : ClassId), v = some (.ref y) ∧ Fr n0 L ∧ Keep h0 h [] ∧ Arv Z h y kv (.object "java/lang/Object") (1 : Int32) [(.ref f1)] .null) := by
  refine w_body (Ls := #[.val (.ref r1), .val (.int (1 : Int32))]) pn_28 (fun m => ef_rAC1 m r1 (1 : Int32)) ?_
  intro p e s m below meth c T0 X0 hx hby hml hown hnm hret hlk hZ e0
  have Z0 : n0 ≤ h0.size := O0.1 ▸ O0.2.1
  refine w_aloadN X0 hx hby n28_0 rfl rfl ?_
  refine w_iloadN X0 hx hby n28_1 rfl ?_
  refine w_aloadN X0 hx hby n28_2 rfl rfl ?_
  refine w_gcls X0 hx hby hZ hown (hw _ t_235) (hw _ t_236) (hw _ t_65) (hw _ t_238) (hw _ t_237) (hw _ t_239) e0 Er W0.mi (by rw [hml]; rfl) n28_3 (by decide) (Wd := 2) rfl (by decide) fun T1 X1 e1 => ?_
  refine w_called (call_S X1 hx hby hZ hown (argsL := [(.ref r1), (.int (1 : Int32)), (.ref mr)]) (rest := []) (Wd := 0) (hw _ t_241) (hw _ t_242) (hw _ t_233) (hw _ t_243) (by decide) (rAC2 l Z a0 hw d0 el ea em cn km kp kr ka ki bt mr r1 f1 kc h0 W0 n0 O0 V1 Ef) rfl n28_6 (by rw [hml]; rfl) (lenOf pd_186648 rfl) rfl (by decide) (by decide) (by decide) (by decide) e1) fun v2 T2 L2 X2 Q2 => ?_
  obtain ⟨y2, kv2, rfl, n2, k2, r2_0⟩ := Q2
  have N2 := Fr.app (Fr.nil n0) n2
  have z3 : h0.size ≤ T2.heap.size := Nat.le_trans (Nat.le_refl h0.size) k2.1
  have k3 : Keep h0 T2.heap [] := (Keep.refl h0 []).trans k2 all0
  show Wg p e below _ T2 (mkF m 9 #[.val (.ref r1), .val (.int (1 : Int32))] [(.ref y2)])
  refine w_retA X2 hx hby rfl hlk hret rfl rfl rfl n28_9 (by decide) (by decide) ?_
  exact ⟨y2, kv2, rfl, N2, k3, r2_0⟩
set_option maxRecDepth 65536 in
set_option maxHeartbeats 4000000 in
theorem ef_rTOA (m : MethodId) (x0 : Addr) : entryFrame m #[(.ref x0)] 1 = mkF m 0 #[.val (.ref x0)] [] := by first | (simp [entryFrame, mkF, argsToLocals, Value.category]; done) | rfl
set_option maxRecDepth 65536 in
set_option maxHeartbeats 40000000 in
theorem rTOA (l : Launch) (Z : State) (a0 : Array Value) (hw : ∀ d ∈ tables_1, d.before a0 Z = true) (d0 el ea em cn km kp kr ka ki bt mr : Addr) (a1 : Addr) (r1 f1 : Addr) (kc : ClassId) (h0 : Heap) (W0 : own_W Z d0 el ea em cn km kp kr ka ki bt mr) (n0 : Nat) (O0 : Old Z n0 h0) (V1 : Arv Z h0 r1 kc (.object "java/lang/Object") (10 : Int32) [(.ref f1), .null, .null, .null, .null, .null, .null, .null, .null, .null] .null) (Ef : Exa Z h0 f1 "com/example/variaform/variaform/model/feature/Feature") (Er : Exa Z h0 r1 "[Ljava/lang/Object;") (E1 : Exa Z h0 a1 "java/util/ArrayList") (Fs : Fld Z h0 a1 "java/util/ArrayList" "size" "I" (.int (1 : Int32))) (Fe : Fld Z h0 a1 "java/util/ArrayList" "elementData" "[Ljava/lang/Object;" (.ref r1)) : Con l Z (⟨"java/util/ArrayList", "toArray", "()[Ljava/lang/Object;"⟩ : MethodName) jdk_38_method_16_code 1 (some (.array (.object "java/lang/Object"))) ({ frames := 3, cells := 1, slots := 1, locals := 46 } : Room) #[(.ref a1)] h0 (fun v h L => ∃ (y : Addr) (kv : ClassId), v = some (.ref y) ∧ Fr n0 L ∧ Keep h0 h [] ∧ Arv Z h y kv (.object "java/lang/Object") (1 : Int32) [(.ref f1)] .null) := by
  refine w_body (Ls := #[.val (.ref a1)]) pn_27 (fun m => ef_rTOA m a1) ?_
  intro p e s m below meth c T0 X0 hx hby hml hown hnm hret hlk hZ e0
  have Z0 : n0 ≤ h0.size := O0.1 ▸ O0.2.1
  refine w_aloadN X0 hx hby n27_0 rfl rfl ?_
  refine w_getF X0 hx hby hZ hown (host := "") (Or.inl (hw _ t_24)) Via.refl e0 Fe n27_1 fun T1 X1 e1 => ?_
  refine w_aloadN X1 hx hby n27_4 rfl rfl ?_
  refine w_getF X1 hx hby hZ hown (host := "") (Or.inl (hw _ t_76)) Via.refl e1 Fs n27_5 fun T2 X2 e2 => ?_
  refine w_called (call_S X2 hx hby hZ hown (argsL := [(.ref r1), (.int (1 : Int32))]) (rest := []) (Wd := 0) (hw _ t_231) (hw _ t_232) (hw _ t_233) (hw _ t_234) (by decide) (rAC1 l Z a0 hw d0 el ea em cn km kp kr ka ki bt mr r1 f1 kc h0 W0 n0 O0 V1 Ef Er) rfl n27_8 (by rw [hml]; rfl) (lenOf pd_99786 rfl) rfl (by decide) (by decide) (by decide) (by decide) e2) fun v3 T3 L3 X3 Q3 => ?_
  obtain ⟨y3, kv3, rfl, n3, k3, r3_0⟩ := Q3
  have N3 := Fr.app (Fr.nil n0) n3
  have z4 : h0.size ≤ T3.heap.size := Nat.le_trans (Nat.le_refl h0.size) k3.1
  have k4 : Keep h0 T3.heap [] := (Keep.refl h0 []).trans k3 all0
  show Wg p e below _ T3 (mkF m 11 #[.val (.ref a1)] [(.ref y3)])
  refine w_retA X3 hx hby rfl hlk hret rfl rfl rfl n27_11 (by decide) (by decide) ?_
  exact ⟨y3, kv3, rfl, N3, k4, r3_0⟩
set_option maxRecDepth 65536 in
set_option maxHeartbeats 4000000 in
theorem ef_rOFA (m : MethodId) (x0 : Addr) : entryFrame m #[(.ref x0)] 2 = mkF m 0 #[.val (.ref x0), .unset] [] := by first | (simp [entryFrame, mkF, argsToLocals, Value.category]; done) | rfl
set_option maxRecDepth 65536 in
set_option maxHeartbeats 40000000 in
theorem rOFA (l : Launch) (Z : State) (a0 : Array Value) (hw : ∀ d ∈ tables_1, d.before a0 Z = true) (d0 el ea em cn km kp kr ka ki bt mr : Addr) (r1 f1 : Addr) (kc : ClassId) (h0 : Heap) (W0 : own_W Z d0 el ea em cn km kp kr ka ki bt mr) (n0 : Nat) (O0 : Old Z n0 h0) (V1 : Arv Z h0 r1 kc (.object "java/lang/Object") (1 : Int32) [(.ref f1)] .null) (Ef : Exa Z h0 f1 "com/example/variaform/variaform/model/feature/Feature") : Con l Z (⟨"java/util/List", "of", "([Ljava/lang/Object;)Ljava/util/List;"⟩ : MethodName) jdk_40_method_47_code 2 (some (.object "java/util/List")) ({ frames := 5, cells := 1, slots := 2, locals := 62 } : Room) #[(.ref r1)] h0 (fun v h L => ∃ (y : Addr), v = some (.ref y) ∧ Fr n0 L ∧ Keep h0 h []) := by
  refine w_body (Ls := #[.val (.ref r1), .unset]) pn_31 (fun m => ef_rOFA m r1) ?_
  intro p e s m below meth c T0 X0 hx hby hml hown hnm hret hlk hZ e0
  have Z0 : n0 ≤ h0.size := O0.1 ▸ O0.2.1
  refine w_aloadN X0 hx hby n31_0 rfl rfl ?_
  obtain ⟨cl1, Ar1, qk1, Sz1, Nn1, Ha1, Gf1⟩ := id V1
  refine w_arraylength X0 hx hby hZ e0 Ar1 (len_of Sz1 Nn1) n31_1 ?_
  refine w_tswIn X0 hx hby n31_2 (by decide) (off := 32) (by decide) (by decide) (tg := 34) (by decide) ?_
  refine w_newO X0 hx hby hZ hown (hw _ t_256) (hw _ t_257) (hw _ t_258) e0 n31_34 (by decide) (by decide) fun T2 h2 b2 g2 X2 e2 E2 A2 D2 => ?_
  have ne_r1_b2 : r1 ≠ b2 := Nat.ne_of_lt (Nat.lt_of_lt_of_eq V1.lt g2.symm)
  have ne_f1_b2 : f1 ≠ b2 := Nat.ne_of_lt (Nat.lt_of_lt_of_eq Ef.lt g2.symm)
  have old_b2 : h0.size ≤ b2 := Nat.le_trans (Nat.le_refl h0.size) (Nat.le_of_eq g2.symm)
  have z3 : h0.size ≤ h2.size := Nat.le_trans (Nat.le_refl h0.size) E2.1
  have k3 : Keep h0 h2 [] := (Keep.refl h0 []).ext E2
  have F2_e0 : Fld Z h2 b2 "java/util/ImmutableCollections$List12" "e0" "Ljava/lang/Object;" .null := D2 (Or.inr (hw _ t_281)) (ty := (.object "java/lang/Object")) (by decide)
  have F2_e1 : Fld Z h2 b2 "java/util/ImmutableCollections$List12" "e1" "Ljava/lang/Object;" .null := D2 (Or.inr (hw _ t_284)) (ty := (.object "java/lang/Object")) (by decide)
  refine w_dup X2 hx hby n31_37 rfl ?_
  refine w_aloadN X2 hx hby n31_38 rfl rfl ?_
  refine w_iconst X2 hx hby (0 : Int32) n31_39 rfl ?_
  have f4 := (V1.ext E2)
  obtain ⟨cl5, Ar5, qk5, Sz5, Nn5, Ha5, Gf5⟩ := id f4
  refine w_aaload X2 hx hby hZ e2 Ar5 rfl (j := (0 : Int32)) (v := (.ref f1)) (inb_of Sz5 ⟨by decide, by decide⟩) (Ha5.at (inb_of Sz5 ⟨by decide, by decide⟩) rfl) n31_40 ?_
  have f6 := (O0.ext E2)
  refine w_called (call_N X2 hx hby hZ hown (argsL := [(.ref f1)]) (rest := [(.ref b2)]) (Wd := 1) (a := b2) rfl (hw _ t_259) (hw _ t_260) (hw _ t_258) (hw _ t_262) (by decide) (rL12 l Z a0 hw d0 el ea em cn km kp kr ka ki bt mr b2 f1  h2 W0 n0 f6 (Nat.le_trans Z0 old_b2) A2 F2_e0 F2_e1 ) rfl n31_41 (by rw [hml]; rfl) (lenOf pd_31042 rfl) rfl (by decide) (by decide) (by decide) (by decide) e2) fun v7 T7 L7 X7 Q7 => ?_
  obtain ⟨rfl, n7, k7, ea7, c7_e0, c7_e1⟩ := Q7
  have N7 := Fr.app (Fr.nil n0) n7
  have z8 : h0.size ≤ T7.heap.size := Nat.le_trans z3 k7.1
  have k8 : Keep h0 T7.heap [] := k3.trans k7 (allS (Or.inr old_b2) all0)
  show Wg p e below _ T7 (mkF m 44 #[.val (.ref r1), .unset] [(.ref b2)])
  refine w_retA X7 hx hby rfl hlk hret rfl rfl rfl n31_44 (by decide) (by decide) ?_
  exact ⟨b2, rfl, N7, k8⟩
set_option maxRecDepth 65536 in
set_option maxHeartbeats 4000000 in
theorem ef_rLC1 (m : MethodId) (x0 : Addr) : entryFrame m #[(.ref x0)] 2 = mkF m 0 #[.val (.ref x0), .unset] [] := by first | (simp [entryFrame, mkF, argsToLocals, Value.category]; done) | rfl
set_option maxRecDepth 65536 in
set_option maxHeartbeats 40000000 in
theorem rLC1 (l : Launch) (Z : State) (a0 : Array Value) (hw : ∀ d ∈ tables_1, d.before a0 Z = true) (d0 el ea em cn km kp kr ka ki bt mr : Addr) (a1 : Addr) (r1 f1 : Addr) (kc : ClassId) (h0 : Heap) (W0 : own_W Z d0 el ea em cn km kp kr ka ki bt mr) (n0 : Nat) (O0 : Old Z n0 h0) (V1 : Arv Z h0 r1 kc (.object "java/lang/Object") (10 : Int32) [(.ref f1), .null, .null, .null, .null, .null, .null, .null, .null, .null] .null) (Ef : Exa Z h0 f1 "com/example/variaform/variaform/model/feature/Feature") (Er : Exa Z h0 r1 "[Ljava/lang/Object;") (E1 : Exa Z h0 a1 "java/util/ArrayList") (Fs : Fld Z h0 a1 "java/util/ArrayList" "size" "I" (.int (1 : Int32))) (Fe : Fld Z h0 a1 "java/util/ArrayList" "elementData" "[Ljava/lang/Object;" (.ref r1)) : Con l Z (⟨"java/util/ImmutableCollections", "listCopy", "(Ljava/util/Collection;)Ljava/util/List;"⟩ : MethodName) jdk_56_method_3_code 2 (some (.object "java/util/List")) ({ frames := 6, cells := 2, slots := 3, locals := 75 } : Room) #[(.ref a1)] h0 (fun v h L => ∃ (y : Addr), v = some (.ref y) ∧ Fr n0 L ∧ Keep h0 h []) := by
  refine w_body (Ls := #[.val (.ref a1), .unset]) pn_9 (fun m => ef_rLC1 m a1) ?_
  intro p e s m below meth c T0 X0 hx hby hml hown hnm hret hlk hZ e0
  have Z0 : n0 ≤ h0.size := O0.1 ▸ O0.2.1
  refine w_aloadN X0 hx hby n9_0 rfl rfl ?_
  refine w_instNo X0 hx hby hZ hown (hw _ t_61) e0 E1 (own_apart (hw _ t_62) (hw _ t_257) (NS.step (hw _ t_62) (NS.step (hw _ t_63) (NS.step (hw _ t_64) (own_top (hw _ t_65) (hw _ t_257) (by decide)) (by decide)) (by decide)) (by decide)) (by decide)) n9_1 fun T1 X1 e1 => ?_
  refine f_if_ne X1 hx hby n9_4 (fun q4 => by exact absurd q4 (by decide)) (fun q4 => ?_)
  refine w_aloadN X1 hx hby n9_7 rfl rfl ?_
  refine w_instNo X1 hx hby hZ hown (hw _ t_66) e1 E1 (NS.no (hw _ t_62) (hw _ t_137) (NS.step (hw _ t_62) (NS.step (hw _ t_63) (NS.step (hw _ t_64) (NS.root (hw _ t_65) (hw _ t_137) (by decide)) (by decide)) (by decide)) (by decide)) (by decide)) n9_8 fun T2 X2 e2 => ?_
  refine f_if_eq X2 hx hby n9_11 (fun q11 => ?_) (fun q11 => by exact absurd q11 (by decide))
  refine w_aloadN X2 hx hby n9_31 rfl rfl ?_
  refine w_calledp (call_I X2 hx hby hZ hown (argsL := []) (rest := []) (Wd := 0) (x := (⟨"java/util/Collection", "isEmpty", "()Z"⟩ : MethodName)) (a := a1) (D := "java/util/ArrayList") (hw _ t_67) (hw _ t_68) (hw _ t_69) (hw _ t_70) (hw _ t_71) (hw _ t_72) (hw _ t_73) (hw _ t_74) rfl (by decide) (hw _ t_2) (hw _ t_75) E1 (rISE l Z a0 hw a1 (1 : Int32) h0 Fs) rfl n9_32 (by rw [hml]; rfl) (lenOf pd_1418 rfl) rfl (by decide) (by decide) (by decide) (by decide) e2) rfl rfl fun T3 X3 e3 => ?_
  rw [show own_ise (1 : Int32) = (0 : Int32) from by decide]
  refine f_if_eq X3 hx hby n9_37 (fun q37 => ?_) (fun q37 => by exact absurd q37 (by decide))
  refine w_aloadN X3 hx hby n9_44 rfl rfl ?_
  refine w_called (call_I X3 hx hby hZ hown (argsL := []) (rest := []) (Wd := 0) (x := (⟨"java/util/Collection", "toArray", "()[Ljava/lang/Object;"⟩ : MethodName)) (a := a1) (D := "java/util/ArrayList") (hw _ t_223) (hw _ t_224) (hw _ t_225) (hw _ t_226) (hw _ t_227) (hw _ t_228) (hw _ t_229) (hw _ t_74) rfl (by decide) (hw _ t_2) (hw _ t_230) E1 (rTOA l Z a0 hw d0 el ea em cn km kp kr ka ki bt mr a1 r1 f1 kc h0 W0 n0 O0 V1 Ef Er E1 Fs Fe) rfl n9_45 (by rw [hml]; rfl) (lenOf pd_32129 rfl) rfl (by decide) (by decide) (by decide) (by decide) e3) fun v4 T4 L4 X4 Q4 => ?_
  obtain ⟨y4, kv4, rfl, n4, k4, r4_0⟩ := Q4
  have N4 := Fr.app (Fr.nil n0) n4
  have z5 : h0.size ≤ T4.heap.size := Nat.le_trans (Nat.le_refl h0.size) k4.1
  have k5 : Keep h0 T4.heap [] := (Keep.refl h0 []).trans k4 all0
  show Wg p e below _ T4 (mkF m 50 #[.val (.ref a1), .unset] [(.ref y4)])
  have f6 := (Ef.keep k4)
  have f7 := (O0.keep k4 all0)
  refine w_called (call_S X4 hx hby hZ hown (argsL := [(.ref y4)]) (rest := []) (Wd := 0) (hw _ t_253) (hw _ t_254) (hw _ t_55) (hw _ t_255) (by decide) (rOFA l Z a0 hw d0 el ea em cn km kp kr ka ki bt mr y4 f1 kv4 T4.heap W0 n0 f7 r4_0 f6) rfl n9_50 (by rw [hml]; rfl) (lenOf pd_84466 rfl) rfl (by decide) (by decide) (by decide) (by decide) rfl) fun v8 T8 L8 X8 Q8 => ?_
  obtain ⟨y8, rfl, n8, k8⟩ := Q8
  have N8 := Fr.app N4 n8
  have z9 : h0.size ≤ T8.heap.size := Nat.le_trans z5 k8.1
  have k9 : Keep h0 T8.heap [] := k5.trans k8 all0
  show Wg p e below _ T8 (mkF m 53 #[.val (.ref a1), .unset] [(.ref y8)])
  refine w_retA X8 hx hby rfl hlk hret rfl rfl rfl n9_53 (by decide) (by decide) ?_
  exact ⟨y8, rfl, N8, k9⟩
set_option maxRecDepth 65536 in
set_option maxHeartbeats 4000000 in
theorem ef_rLCe (m : MethodId) (x0 : Addr) : entryFrame m #[(.ref x0)] 2 = mkF m 0 #[.val (.ref x0), .unset] [] := by first | (simp [entryFrame, mkF, argsToLocals, Value.category]; done) | rfl
set_option maxRecDepth 65536 in
set_option maxHeartbeats 40000000 in
theorem rLCe (l : Launch) (Z : State) (a0 : Array Value) (hw : ∀ d ∈ tables_1, d.before a0 Z = true) (d0 el ea em cn km kp kr ka ki bt mr : Addr) (a1 : Addr) (h0 : Heap) (W0 : own_W Z d0 el ea em cn km kp kr ka ki bt mr) (n0 : Nat) (O0 : Old Z n0 h0) (E1 : Exa Z h0 a1 "java/util/ArrayList") (Fs : Fld Z h0 a1 "java/util/ArrayList" "size" "I" (.int (0 : Int32))) : Con l Z (⟨"java/util/ImmutableCollections", "listCopy", "(Ljava/util/Collection;)Ljava/util/List;"⟩ : MethodName) jdk_56_method_3_code 2 (some (.object "java/util/List")) ({ frames := 1, cells := 0, slots := 0, locals := 12 } : Room) #[(.ref a1)] h0 (fun v h L => v = some (.ref el) ∧ h = h0 ∧ L = []) := by
  refine w_body (Ls := #[.val (.ref a1), .unset]) pn_9 (fun m => ef_rLCe m a1) ?_
  intro p e s m below meth c T0 X0 hx hby hml hown hnm hret hlk hZ e0
  have Z0 : n0 ≤ h0.size := O0.1 ▸ O0.2.1
  refine w_aloadN X0 hx hby n9_0 rfl rfl ?_
  refine w_instNo X0 hx hby hZ hown (hw _ t_61) e0 E1 (own_apart (hw _ t_62) (hw _ t_257) (NS.step (hw _ t_62) (NS.step (hw _ t_63) (NS.step (hw _ t_64) (own_top (hw _ t_65) (hw _ t_257) (by decide)) (by decide)) (by decide)) (by decide)) (by decide)) n9_1 fun T1 X1 e1 => ?_
  refine f_if_ne X1 hx hby n9_4 (fun q4 => by exact absurd q4 (by decide)) (fun q4 => ?_)
  refine w_aloadN X1 hx hby n9_7 rfl rfl ?_
  refine w_instNo X1 hx hby hZ hown (hw _ t_66) e1 E1 (NS.no (hw _ t_62) (hw _ t_137) (NS.step (hw _ t_62) (NS.step (hw _ t_63) (NS.step (hw _ t_64) (NS.root (hw _ t_65) (hw _ t_137) (by decide)) (by decide)) (by decide)) (by decide)) (by decide)) n9_8 fun T2 X2 e2 => ?_
  refine f_if_eq X2 hx hby n9_11 (fun q11 => ?_) (fun q11 => by exact absurd q11 (by decide))
  refine w_aloadN X2 hx hby n9_31 rfl rfl ?_
  refine w_calledp (call_I X2 hx hby hZ hown (argsL := []) (rest := []) (Wd := 0) (x := (⟨"java/util/Collection", "isEmpty", "()Z"⟩ : MethodName)) (a := a1) (D := "java/util/ArrayList") (hw _ t_67) (hw _ t_68) (hw _ t_69) (hw _ t_70) (hw _ t_71) (hw _ t_72) (hw _ t_73) (hw _ t_74) rfl (by decide) (hw _ t_2) (hw _ t_75) E1 (rISE l Z a0 hw a1 (0 : Int32) h0 Fs) rfl n9_32 (by rw [hml]; rfl) (lenOf pd_1418 rfl) rfl (by decide) (by decide) (by decide) (by decide) e2) rfl rfl fun T3 X3 e3 => ?_
  rw [show own_ise (0 : Int32) = (1 : Int32) from by decide]
  refine f_if_eq X3 hx hby n9_37 (fun q37 => by exact absurd q37 (by decide)) (fun q37 => ?_)
  refine w_calledp (call_S X3 hx hby hZ hown (argsL := []) (rest := []) (Wd := 0) (hw _ t_78) (hw _ t_79) (hw _ t_55) (hw _ t_80) (by decide) (rOF0 l Z a0 hw d0 el ea em cn km kp kr ka ki bt mr h0 W0 n0 O0) rfl n9_40 (by rw [hml]; rfl) (lenOf pd_25326 rfl) rfl (by decide) (by decide) (by decide) (by decide) e3) rfl rfl fun T4 X4 e4 => ?_
  refine w_retA X4 hx hby e4 hlk hret rfl rfl rfl n9_43 (by decide) (by decide) ?_
  exact ⟨rfl, rfl, rfl⟩
set_option maxRecDepth 65536 in
set_option maxHeartbeats 4000000 in
theorem ef_rLCn (m : MethodId) (x0 : Addr) : entryFrame m #[(.ref x0)] 2 = mkF m 0 #[.val (.ref x0), .unset] [] := by first | (simp [entryFrame, mkF, argsToLocals, Value.category]; done) | rfl
set_option maxRecDepth 65536 in
set_option maxHeartbeats 40000000 in
theorem rLCn (l : Launch) (Z : State) (a0 : Array Value) (hw : ∀ d ∈ tables_1, d.before a0 Z = true) (d0 el ea em cn km kp kr ka ki bt mr : Addr) (h0 : Heap) (W0 : own_W Z d0 el ea em cn km kp kr ka ki bt mr) (n0 : Nat) (O0 : Old Z n0 h0) : Con l Z (⟨"java/util/ImmutableCollections", "listCopy", "(Ljava/util/Collection;)Ljava/util/List;"⟩ : MethodName) jdk_56_method_3_code 2 (some (.object "java/util/List")) ({ frames := 0, cells := 0, slots := 0, locals := 0 } : Room) #[(.ref el)] h0 (fun v h L => v = some (.ref el) ∧ h = h0 ∧ L = []) := by
  refine w_body (Ls := #[.val (.ref el), .unset]) pn_9 (fun m => ef_rLCn m el) ?_
  intro p e s m below meth c T0 X0 hx hby hml hown hnm hret hlk hZ e0
  have Z0 : n0 ≤ h0.size := O0.1 ▸ O0.2.1
  refine w_aloadN X0 hx hby n9_0 rfl rfl ?_
  refine w_instNo X0 hx hby hZ hown (hw _ t_61) e0 (W0.eL.ext O0.2) (own_apart (hw _ t_137) (hw _ t_257) (NS.step (hw _ t_137) (NS.step (hw _ t_138) (NS.step (hw _ t_139) (NS.step (hw _ t_64) (own_top (hw _ t_65) (hw _ t_257) (by decide)) (by decide)) (by decide)) (by decide)) (by decide)) (by decide)) n9_1 fun T1 X1 e1 => ?_
  refine f_if_ne X1 hx hby n9_4 (fun q4 => by exact absurd q4 (by decide)) (fun q4 => ?_)
  refine w_aloadN X1 hx hby n9_7 rfl rfl ?_
  refine w_instY X1 hx hby hZ hown (hw _ t_66) e1 (Ins.self (W0.eL.ext O0.2)) n9_8 fun T2 X2 e2 => ?_
  refine f_if_eq X2 hx hby n9_11 (fun q11 => by exact absurd q11 (by decide)) (fun q11 => ?_)
  refine w_aloadN X2 hx hby n9_14 rfl rfl ?_
  refine w_castY X2 hx hby hZ hown (hw _ t_66) e2 (Ins.self (W0.eL.ext O0.2)) n9_15 fun T3 X3 e3 => ?_
  refine w_astoreN X3 hx hby #[.val (.ref el), .val (.ref el)] n9_18 rfl rfl ?_
  refine w_aloadN X3 hx hby n9_19 rfl rfl ?_
  refine w_getF X3 hx hby hZ hown (Or.inr (hw _ t_141)) Via.refl e3 (W0.fN.ext O0.2) n9_20 fun T4 X4 e4 => ?_
  refine f_if_ne X4 hx hby n9_23 (fun q23 => by exact absurd q23 (by decide)) (fun q23 => ?_)
  refine w_aloadN X4 hx hby n9_26 rfl rfl ?_
  refine w_castY X4 hx hby hZ hown (hw _ t_143) e4 (Ins.of_exa (W0.eL.ext O0.2) (hw _ t_144)) n9_27 fun T5 X5 e5 => ?_
  refine w_retA X5 hx hby e5 hlk hret rfl rfl rfl n9_30 (by decide) (by decide) ?_
  exact ⟨rfl, rfl, rfl⟩
set_option maxRecDepth 65536 in
set_option maxHeartbeats 4000000 in
theorem ef_rCPe (m : MethodId) (x0 : Addr) : entryFrame m #[(.ref x0)] 1 = mkF m 0 #[.val (.ref x0)] [] := by first | (simp [entryFrame, mkF, argsToLocals, Value.category]; done) | rfl
set_option maxRecDepth 65536 in
set_option maxHeartbeats 40000000 in
theorem rCPe (l : Launch) (Z : State) (a0 : Array Value) (hw : ∀ d ∈ tables_1, d.before a0 Z = true) (d0 el ea em cn km kp kr ka ki bt mr : Addr) (a1 : Addr) (h0 : Heap) (W0 : own_W Z d0 el ea em cn km kp kr ka ki bt mr) (n0 : Nat) (O0 : Old Z n0 h0) (E1 : Exa Z h0 a1 "java/util/ArrayList") (Fs : Fld Z h0 a1 "java/util/ArrayList" "size" "I" (.int (0 : Int32))) : Con l Z (⟨"java/util/List", "copyOf", "(Ljava/util/Collection;)Ljava/util/List;"⟩ : MethodName) jdk_40_method_48_code 1 (some (.object "java/util/List")) ({ frames := 2, cells := 0, slots := 0, locals := 25 } : Room) #[(.ref a1)] h0 (fun v h L => v = some (.ref el) ∧ h = h0 ∧ L = []) := by
  refine w_body (Ls := #[.val (.ref a1)]) pn_8 (fun m => ef_rCPe m a1) ?_
  intro p e s m below meth c T0 X0 hx hby hml hown hnm hret hlk hZ e0
  have Z0 : n0 ≤ h0.size := O0.1 ▸ O0.2.1
  refine w_aloadN X0 hx hby n8_0 rfl rfl ?_
  refine w_calledp (call_S X0 hx hby hZ hown (argsL := [(.ref a1)]) (rest := []) (Wd := 0) (hw _ t_57) (hw _ t_58) (hw _ t_59) (hw _ t_60) (by decide) (rLCe l Z a0 hw d0 el ea em cn km kp kr ka ki bt mr a1 h0 W0 n0 O0 E1 Fs) rfl n8_1 (by rw [hml]; rfl) (lenOf pd_98937 rfl) rfl (by decide) (by decide) (by decide) (by decide) e0) rfl rfl fun T1 X1 e1 => ?_
  refine w_retA X1 hx hby e1 hlk hret rfl rfl rfl n8_4 (by decide) (by decide) ?_
  exact ⟨rfl, rfl, rfl⟩
set_option maxRecDepth 65536 in
set_option maxHeartbeats 4000000 in
theorem ef_rCPn (m : MethodId) (x0 : Addr) : entryFrame m #[(.ref x0)] 1 = mkF m 0 #[.val (.ref x0)] [] := by first | (simp [entryFrame, mkF, argsToLocals, Value.category]; done) | rfl
set_option maxRecDepth 65536 in
set_option maxHeartbeats 40000000 in
theorem rCPn (l : Launch) (Z : State) (a0 : Array Value) (hw : ∀ d ∈ tables_1, d.before a0 Z = true) (d0 el ea em cn km kp kr ka ki bt mr : Addr) (h0 : Heap) (W0 : own_W Z d0 el ea em cn km kp kr ka ki bt mr) (n0 : Nat) (O0 : Old Z n0 h0) : Con l Z (⟨"java/util/List", "copyOf", "(Ljava/util/Collection;)Ljava/util/List;"⟩ : MethodName) jdk_40_method_48_code 1 (some (.object "java/util/List")) ({ frames := 1, cells := 0, slots := 0, locals := 13 } : Room) #[(.ref el)] h0 (fun v h L => v = some (.ref el) ∧ h = h0 ∧ L = []) := by
  refine w_body (Ls := #[.val (.ref el)]) pn_8 (fun m => ef_rCPn m el) ?_
  intro p e s m below meth c T0 X0 hx hby hml hown hnm hret hlk hZ e0
  have Z0 : n0 ≤ h0.size := O0.1 ▸ O0.2.1
  refine w_aloadN X0 hx hby n8_0 rfl rfl ?_
  refine w_calledp (call_S X0 hx hby hZ hown (argsL := [(.ref el)]) (rest := []) (Wd := 0) (hw _ t_57) (hw _ t_58) (hw _ t_59) (hw _ t_60) (by decide) (rLCn l Z a0 hw d0 el ea em cn km kp kr ka ki bt mr h0 W0 n0 O0) rfl n8_1 (by rw [hml]; rfl) (lenOf pd_98937 rfl) rfl (by decide) (by decide) (by decide) (by decide) e0) rfl rfl fun T1 X1 e1 => ?_
  refine w_retA X1 hx hby e1 hlk hret rfl rfl rfl n8_4 (by decide) (by decide) ?_
  exact ⟨rfl, rfl, rfl⟩
set_option maxRecDepth 65536 in
set_option maxHeartbeats 4000000 in
theorem ef_rCPL (m : MethodId) (x0 : Addr) : entryFrame m #[(.ref x0)] 1 = mkF m 0 #[.val (.ref x0)] [] := by first | (simp [entryFrame, mkF, argsToLocals, Value.category]; done) | rfl
set_option maxRecDepth 65536 in
set_option maxHeartbeats 40000000 in
theorem rCPL (l : Launch) (Z : State) (a0 : Array Value) (hw : ∀ d ∈ tables_1, d.before a0 Z = true) (d0 el ea em cn km kp kr ka ki bt mr : Addr) (a1 : Addr) (h0 : Heap) (W0 : own_W Z d0 el ea em cn km kp kr ka ki bt mr) (n0 : Nat) (O0 : Old Z n0 h0) (S1 : own_lst Z h0 a1) : Con l Z (⟨"java/util/List", "copyOf", "(Ljava/util/Collection;)Ljava/util/List;"⟩ : MethodName) jdk_40_method_48_code 1 (some (.object "java/util/List")) ({ frames := 7, cells := 2, slots := 3, locals := 88 } : Room) #[(.ref a1)] h0 (fun v h L => ∃ (y : Addr), v = some (.ref y) ∧ Fr n0 L ∧ Keep h0 h []) := by
  refine w_body (Ls := #[.val (.ref a1)]) pn_8 (fun m => ef_rCPL m a1) ?_
  intro p e s m below meth c T0 X0 hx hby hml hown hnm hret hlk hZ e0
  have Z0 : n0 ≤ h0.size := O0.1 ▸ O0.2.1
  obtain ⟨E1, S1⟩ := S1
  rcases S1 with Fs | ⟨r1, f1, kc, Fs, Fe, V1, Er, Ef⟩
  · refine w_aloadN X0 hx hby n8_0 rfl rfl ?_
    refine w_calledp (call_S X0 hx hby hZ hown (argsL := [(.ref a1)]) (rest := []) (Wd := 0) (hw _ t_57) (hw _ t_58) (hw _ t_59) (hw _ t_60) (by decide) (rLCe l Z a0 hw d0 el ea em cn km kp kr ka ki bt mr a1 h0 W0 n0 O0 E1 Fs) rfl n8_1 (by rw [hml]; rfl) (lenOf pd_98937 rfl) rfl (by decide) (by decide) (by decide) (by decide) e0) rfl rfl fun T1 X1 e1 => ?_
    refine w_retA X1 hx hby e1 hlk hret rfl rfl rfl n8_4 (by decide) (by decide) ?_
    exact ⟨el, rfl, (Fr.nil n0), (Keep.refl h0 [])⟩
  · refine w_aloadN X0 hx hby n8_0 rfl rfl ?_
    refine w_called (call_S X0 hx hby hZ hown (argsL := [(.ref a1)]) (rest := []) (Wd := 0) (hw _ t_57) (hw _ t_58) (hw _ t_59) (hw _ t_60) (by decide) (rLC1 l Z a0 hw d0 el ea em cn km kp kr ka ki bt mr a1 r1 f1 kc h0 W0 n0 O0 V1 Ef Er E1 Fs Fe) rfl n8_1 (by rw [hml]; rfl) (lenOf pd_98937 rfl) rfl (by decide) (by decide) (by decide) (by decide) e0) fun v2 T2 L2 X2 Q2 => ?_
    obtain ⟨y2, rfl, n2, k2⟩ := Q2
    have N2 := Fr.app (Fr.nil n0) n2
    have z3 : h0.size ≤ T2.heap.size := Nat.le_trans (Nat.le_refl h0.size) k2.1
    have k3 : Keep h0 T2.heap [] := (Keep.refl h0 []).trans k2 all0
    show Wg p e below _ T2 (mkF m 4 #[.val (.ref a1)] [(.ref y2)])
    refine w_retA X2 hx hby rfl hlk hret rfl rfl rfl n8_4 (by decide) (by decide) ?_
    exact ⟨y2, rfl, N2, k3⟩
set_option maxRecDepth 65536 in
set_option maxHeartbeats 4000000 in
theorem ef_rGI5 (m : MethodId) (x0 : Addr) (x1 : Addr) (x2 : Int32) (x3 : Int32) (x4 : Addr) (x5 : Addr) : entryFrame m #[(.ref x0), (.ref x1), (.int x2), (.int x3), (.ref x4), (.ref x5)] 6 = mkF m 0 #[.val (.ref x0), .val (.ref x1), .val (.int x2), .val (.int x3), .val (.ref x4), .val (.ref x5)] [] := by first | (simp [entryFrame, mkF, argsToLocals, Value.category]; done) | rfl
set_option maxRecDepth 65536 in
set_option maxHeartbeats 40000000 in
theorem rGI5 (l : Launch) (Z : State) (a0 : Array Value) (hw : ∀ d ∈ tables_1, d.before a0 Z = true) (d0 el ea em cn km kp kr ka ki bt mr : Addr) (a1 : Addr) (kk : Addr) (lo : Int32) (up : Int32) (l1 : Addr) (cc : Addr) (hb : Heap) (h0 : Heap) (W0 : own_W Z d0 el ea em cn km kp kr ka ki bt mr) (n0 : Nat) (O0 : Old Z n0 h0) (g1 : n0 ≤ a1) (E1 : Exa Z h0 a1 "com/example/variaform/variaform/model/feature/Group") (F_kind : Fld Z h0 a1 "com/example/variaform/variaform/model/feature/Group" "kind" "Lcom/example/variaform/variaform/model/feature/Group$Kind;" .null) (F_lower : Fld Z h0 a1 "com/example/variaform/variaform/model/feature/Group" "lower" "I" (.int (0 : Int32))) (F_upper : Fld Z h0 a1 "com/example/variaform/variaform/model/feature/Group" "upper" "I" (.int (0 : Int32))) (F_children : Fld Z h0 a1 "com/example/variaform/variaform/model/feature/Group" "children" "Ljava/util/List;" .null) (F_comments : Fld Z h0 a1 "com/example/variaform/variaform/model/feature/Group" "comments" "Lcom/example/variaform/variaform/model/feature/Comments;" .null) (S1 : own_lst Z hb l1) (KB : Keep hb h0 []) (hba : hb.size ≤ a1) : Con l Z (⟨"com/example/variaform/variaform/model/feature/Group", "<init>", "(Lcom/example/variaform/variaform/model/feature/Group$Kind;IILjava/util/List;Lcom/example/variaform/variaform/model/feature/Comments;)V"⟩ : MethodName) prog_39_method_3_code 6 none ({ frames := 8, cells := 2, slots := 3, locals := 101 } : Room) #[(.ref a1), (.ref kk), (.int lo), (.int up), (.ref l1), (.ref cc)] h0 (fun v h L => v = none ∧ Fr n0 L ∧ Keep h0 h [a1] ∧ Exa Z h a1 "com/example/variaform/variaform/model/feature/Group" ∧ Fld Z h a1 "com/example/variaform/variaform/model/feature/Group" "kind" "Lcom/example/variaform/variaform/model/feature/Group$Kind;" (.ref kk) ∧ Fld Z h a1 "com/example/variaform/variaform/model/feature/Group" "lower" "I" (.int lo) ∧ Fld Z h a1 "com/example/variaform/variaform/model/feature/Group" "upper" "I" (.int up) ∧ Fld Z h a1 "com/example/variaform/variaform/model/feature/Group" "comments" "Lcom/example/variaform/variaform/model/feature/Comments;" (.ref cc)) := by
  refine w_body (Ls := #[.val (.ref a1), .val (.ref kk), .val (.int lo), .val (.int up), .val (.ref l1), .val (.ref cc)]) pn_7 (fun m => ef_rGI5 m a1 kk lo up l1 cc) ?_
  intro p e s m below meth c T0 X0 hx hby hml hown hnm hret hlk hZ e0
  have Z0 : n0 ≤ h0.size := O0.1 ▸ O0.2.1
  refine w_aloadN X0 hx hby n7_0 rfl rfl ?_
  refine w_initO X0 hx hby hZ hown (by rw [hml]; rfl) (Wd := 0) (hw _ t_46) (hw _ t_19) (hw _ t_20) e0 n7_1 (by decide) rfl (by decide) fun T1 X1 e1 => ?_
  refine w_aloadN X1 hx hby n7_4 rfl rfl ?_
  refine w_aloadN X1 hx hby n7_5 rfl rfl ?_
  refine w_putFN X1 hx hby hZ hown (hw _ t_47) Via.refl e1 F_kind E1 (Or.inr ⟨(hw _ t_48), rfl, hnm⟩) (hw _ t_28) (ty := (.object "com/example/variaform/variaform/model/feature/Group$Kind")) (by decide) rfl rfl n7_6 fun T2 h2 X2 e2 W2 => ?_
  have P2 := F_kind.same W2
  have N2 := Fr.snoc X2 (Fr.nil n0) g1
  have z3 : h0.size ≤ h2.size := Nat.le_trans (Nat.le_refl h0.size) (Keep.of_wr W2).1
  have k3 : Keep h0 h2 [a1] := (Keep.refl h0 [a1]).wr W2 (Or.inl (List.mem_of_getElem? (i := 0) rfl))
  refine w_aloadN X2 hx hby n7_9 rfl rfl ?_
  refine w_iloadN X2 hx hby n7_10 rfl ?_
  have f4 := (F_lower.other W2 (Or.inr (slot_ne (Or.inr (hw _ t_50)) (Or.inr (hw _ t_48)) (by decide) (t := .int) (t' := (.object "com/example/variaform/variaform/model/feature/Group$Kind")) (by decide) (by decide))))
  have f5 := (E1.wr W2)
  refine w_putFN X2 hx hby hZ hown (hw _ t_49) Via.refl e2 f4 f5 (Or.inr ⟨(hw _ t_50), rfl, hnm⟩) (hw _ t_28) (ty := .int) (by decide) rfl rfl n7_11 fun T6 h6 X6 e6 W6 => ?_
  have P6 := f4.same W6
  have N6 := Fr.snoc X6 N2 g1
  have z7 : h0.size ≤ h6.size := Nat.le_trans z3 (Keep.of_wr W6).1
  have k7 : Keep h0 h6 [a1] := k3.wr W6 (Or.inl (List.mem_of_getElem? (i := 0) rfl))
  refine w_aloadN X6 hx hby n7_14 rfl rfl ?_
  refine w_iloadN X6 hx hby n7_15 rfl ?_
  have f8 := ((F_upper.other W2 (Or.inr (slot_ne (Or.inr (hw _ t_52)) (Or.inr (hw _ t_48)) (by decide) (t := .int) (t' := (.object "com/example/variaform/variaform/model/feature/Group$Kind")) (by decide) (by decide)))).other W6 (Or.inr (slot_ne (Or.inr (hw _ t_52)) (Or.inr (hw _ t_50)) (by decide) (t := .int) (t' := .int) (by decide) (by decide))))
  have f9 := (f5.wr W6)
  refine w_putFN X6 hx hby hZ hown (hw _ t_51) Via.refl e6 f8 f9 (Or.inr ⟨(hw _ t_52), rfl, hnm⟩) (hw _ t_28) (ty := .int) (by decide) rfl rfl n7_16 fun T10 h10 X10 e10 W10 => ?_
  have P10 := f8.same W10
  have N10 := Fr.snoc X10 N6 g1
  have z11 : h0.size ≤ h10.size := Nat.le_trans z7 (Keep.of_wr W10).1
  have k11 : Keep h0 h10 [a1] := k7.wr W10 (Or.inl (List.mem_of_getElem? (i := 0) rfl))
  refine w_aloadN X10 hx hby n7_19 rfl rfl ?_
  refine w_aload X10 hx hby n7_20 rfl rfl ?_
  have f12 := (((O0.wr W2 g1).wr W6 g1).wr W10 g1)
  refine w_called (call_S X10 hx hby hZ hown (argsL := [(.ref l1)]) (rest := [(.ref a1)]) (Wd := 1) (hw _ t_53) (hw _ t_54) (hw _ t_55) (hw _ t_56) (by decide) (rCPL l Z a0 hw d0 el ea em cn km kp kr ka ki bt mr l1 h10 W0 n0 f12 (own_lst_keep (KB.trans k11 (allS (Or.inr hba) all0)) S1)) rfl n7_22 (by rw [hml]; rfl) (lenOf pd_98937 rfl) rfl (by decide) (by decide) (by decide) (by decide) e10) fun v13 T13 L13 X13 Q13 => ?_
  obtain ⟨y13, rfl, n13, k13⟩ := Q13
  have N13 := Fr.app N10 n13
  have z14 : h0.size ≤ T13.heap.size := Nat.le_trans z11 k13.1
  have k14 : Keep h0 T13.heap [a1] := k11.trans k13 all0
  show Wg p e below _ T13 (mkF m 25 #[.val (.ref a1), .val (.ref kk), .val (.int lo), .val (.int up), .val (.ref l1), .val (.ref cc)] [(.ref y13), (.ref a1)])
  have f15 := ((((F_children.other W2 (Or.inr (slot_ne (Or.inr (hw _ t_83)) (Or.inr (hw _ t_48)) (by decide) (t := (.object "java/util/List")) (t' := (.object "com/example/variaform/variaform/model/feature/Group$Kind")) (by decide) (by decide)))).other W6 (Or.inr (slot_ne (Or.inr (hw _ t_83)) (Or.inr (hw _ t_50)) (by decide) (t := (.object "java/util/List")) (t' := .int) (by decide) (by decide)))).other W10 (Or.inr (slot_ne (Or.inr (hw _ t_83)) (Or.inr (hw _ t_52)) (by decide) (t := (.object "java/util/List")) (t' := .int) (by decide) (by decide)))).keep k13 nin0)
  have f16 := ((f9.wr W10).keep k13)
  refine w_putFN X13 hx hby hZ hown (hw _ t_82) Via.refl rfl f15 f16 (Or.inr ⟨(hw _ t_83), rfl, hnm⟩) (hw _ t_28) (ty := (.object "java/util/List")) (by decide) rfl rfl n7_25 fun T17 h17 X17 e17 W17 => ?_
  have P17 := f15.same W17
  have N17 := Fr.snoc X17 N13 g1
  have z18 : h0.size ≤ h17.size := Nat.le_trans z14 (Keep.of_wr W17).1
  have k18 : Keep h0 h17 [a1] := k14.wr W17 (Or.inl (List.mem_of_getElem? (i := 0) rfl))
  refine w_aloadN X17 hx hby n7_28 rfl rfl ?_
  refine w_aload X17 hx hby n7_29 rfl rfl ?_
  have f19 := (((((F_comments.other W2 (Or.inr (slot_ne (Or.inr (hw _ t_85)) (Or.inr (hw _ t_48)) (by decide) (t := (.object "com/example/variaform/variaform/model/feature/Comments")) (t' := (.object "com/example/variaform/variaform/model/feature/Group$Kind")) (by decide) (by decide)))).other W6 (Or.inr (slot_ne (Or.inr (hw _ t_85)) (Or.inr (hw _ t_50)) (by decide) (t := (.object "com/example/variaform/variaform/model/feature/Comments")) (t' := .int) (by decide) (by decide)))).other W10 (Or.inr (slot_ne (Or.inr (hw _ t_85)) (Or.inr (hw _ t_52)) (by decide) (t := (.object "com/example/variaform/variaform/model/feature/Comments")) (t' := .int) (by decide) (by decide)))).keep k13 nin0).other W17 (Or.inr (slot_ne (Or.inr (hw _ t_85)) (Or.inr (hw _ t_83)) (by decide) (t := (.object "com/example/variaform/variaform/model/feature/Comments")) (t' := (.object "java/util/List")) (by decide) (by decide))))
  have f20 := (f16.wr W17)
  refine w_putFN X17 hx hby hZ hown (hw _ t_84) Via.refl e17 f19 f20 (Or.inr ⟨(hw _ t_85), rfl, hnm⟩) (hw _ t_28) (ty := (.object "com/example/variaform/variaform/model/feature/Comments")) (by decide) rfl rfl n7_31 fun T21 h21 X21 e21 W21 => ?_
  have P21 := f19.same W21
  have N21 := Fr.snoc X21 N17 g1
  have z22 : h0.size ≤ h21.size := Nat.le_trans z18 (Keep.of_wr W21).1
  have k22 : Keep h0 h21 [a1] := k18.wr W21 (Or.inl (List.mem_of_getElem? (i := 0) rfl))
  refine w_retV X21 hx hby e21 hlk hret n7_34 (by decide) (by decide) ?_
  have f23 := (f20.wr W21)
  have f24 := (((((P2.other W6 (Or.inr (slot_ne (Or.inr (hw _ t_48)) (Or.inr (hw _ t_50)) (by decide) (t := (.object "com/example/variaform/variaform/model/feature/Group$Kind")) (t' := .int) (by decide) (by decide)))).other W10 (Or.inr (slot_ne (Or.inr (hw _ t_48)) (Or.inr (hw _ t_52)) (by decide) (t := (.object "com/example/variaform/variaform/model/feature/Group$Kind")) (t' := .int) (by decide) (by decide)))).keep k13 nin0).other W17 (Or.inr (slot_ne (Or.inr (hw _ t_48)) (Or.inr (hw _ t_83)) (by decide) (t := (.object "com/example/variaform/variaform/model/feature/Group$Kind")) (t' := (.object "java/util/List")) (by decide) (by decide)))).other W21 (Or.inr (slot_ne (Or.inr (hw _ t_48)) (Or.inr (hw _ t_85)) (by decide) (t := (.object "com/example/variaform/variaform/model/feature/Group$Kind")) (t' := (.object "com/example/variaform/variaform/model/feature/Comments")) (by decide) (by decide))))
  have f25 := ((((P6.other W10 (Or.inr (slot_ne (Or.inr (hw _ t_50)) (Or.inr (hw _ t_52)) (by decide) (t := .int) (t' := .int) (by decide) (by decide)))).keep k13 nin0).other W17 (Or.inr (slot_ne (Or.inr (hw _ t_50)) (Or.inr (hw _ t_83)) (by decide) (t := .int) (t' := (.object "java/util/List")) (by decide) (by decide)))).other W21 (Or.inr (slot_ne (Or.inr (hw _ t_50)) (Or.inr (hw _ t_85)) (by decide) (t := .int) (t' := (.object "com/example/variaform/variaform/model/feature/Comments")) (by decide) (by decide))))
  have f26 := (((P10.keep k13 nin0).other W17 (Or.inr (slot_ne (Or.inr (hw _ t_52)) (Or.inr (hw _ t_83)) (by decide) (t := .int) (t' := (.object "java/util/List")) (by decide) (by decide)))).other W21 (Or.inr (slot_ne (Or.inr (hw _ t_52)) (Or.inr (hw _ t_85)) (by decide) (t := .int) (t' := (.object "com/example/variaform/variaform/model/feature/Comments")) (by decide) (by decide))))
  exact ⟨rfl, N21, k22, f23, f24, f25, f26, P21⟩
set_option maxRecDepth 65536 in
set_option maxHeartbeats 4000000 in
theorem ef_rGI2 (m : MethodId) (x0 : Addr) (x1 : Addr) (x2 : Addr) : entryFrame m #[(.ref x0), (.ref x1), (.ref x2)] 3 = mkF m 0 #[.val (.ref x0), .val (.ref x1), .val (.ref x2)] [] := by first | (simp [entryFrame, mkF, argsToLocals, Value.category]; done) | rfl
set_option maxRecDepth 65536 in
set_option maxHeartbeats 40000000 in
theorem rGI2 (l : Launch) (Z : State) (a0 : Array Value) (hw : ∀ d ∈ tables_1, d.before a0 Z = true) (d0 el ea em cn km kp kr ka ki bt mr : Addr) (a1 : Addr) (kk : Addr) (l1 : Addr) (hb : Heap) (h0 : Heap) (W0 : own_W Z d0 el ea em cn km kp kr ka ki bt mr) (n0 : Nat) (O0 : Old Z n0 h0) (g1 : n0 ≤ a1) (E1 : Exa Z h0 a1 "com/example/variaform/variaform/model/feature/Group") (F_kind : Fld Z h0 a1 "com/example/variaform/variaform/model/feature/Group" "kind" "Lcom/example/variaform/variaform/model/feature/Group$Kind;" .null) (F_lower : Fld Z h0 a1 "com/example/variaform/variaform/model/feature/Group" "lower" "I" (.int (0 : Int32))) (F_upper : Fld Z h0 a1 "com/example/variaform/variaform/model/feature/Group" "upper" "I" (.int (0 : Int32))) (F_children : Fld Z h0 a1 "com/example/variaform/variaform/model/feature/Group" "children" "Ljava/util/List;" .null) (F_comments : Fld Z h0 a1 "com/example/variaform/variaform/model/feature/Group" "comments" "Lcom/example/variaform/variaform/model/feature/Comments;" .null) (S1 : own_lst Z hb l1) (KB : Keep hb h0 []) (hba : hb.size ≤ a1) (hk : kk ≠ ki) : Con l Z (⟨"com/example/variaform/variaform/model/feature/Group", "<init>", "(Lcom/example/variaform/variaform/model/feature/Group$Kind;Ljava/util/List;)V"⟩ : MethodName) prog_39_method_2_code 3 none ({ frames := 9, cells := 2, slots := 3, locals := 118 } : Room) #[(.ref a1), (.ref kk), (.ref l1)] h0 (fun v h L => v = none ∧ Fr n0 L ∧ Keep h0 h [a1] ∧ Exa Z h a1 "com/example/variaform/variaform/model/feature/Group" ∧ Fld Z h a1 "com/example/variaform/variaform/model/feature/Group" "kind" "Lcom/example/variaform/variaform/model/feature/Group$Kind;" (.ref kk) ∧ Fld Z h a1 "com/example/variaform/variaform/model/feature/Group" "lower" "I" (.int (0 : Int32)) ∧ Fld Z h a1 "com/example/variaform/variaform/model/feature/Group" "upper" "I" (.int (0 : Int32)) ∧ Fld Z h a1 "com/example/variaform/variaform/model/feature/Group" "comments" "Lcom/example/variaform/variaform/model/feature/Comments;" (.ref cn)) := by
  refine w_body (Ls := #[.val (.ref a1), .val (.ref kk), .val (.ref l1)]) pn_6 (fun m => ef_rGI2 m a1 kk l1) ?_
  intro p e s m below meth c T0 X0 hx hby hml hown hnm hret hlk hZ e0
  have Z0 : n0 ≤ h0.size := O0.1 ▸ O0.2.1
  refine w_aloadN X0 hx hby n6_0 rfl rfl ?_
  refine w_aloadN X0 hx hby n6_1 rfl rfl ?_
  refine w_iconst X0 hx hby (0 : Int32) n6_2 rfl ?_
  refine w_iconst X0 hx hby (0 : Int32) n6_3 rfl ?_
  refine w_aloadN X0 hx hby n6_4 rfl rfl ?_
  refine w_getS X0 hx hby hZ hown (host := "") (Or.inl (hw _ t_40)) Via.refl e0 (W0.sC.ext O0.2) n6_5 fun T1 X1 e1 => ?_
  refine w_called (call_N X1 hx hby hZ hown (argsL := [(.ref kk), (.int (0 : Int32)), (.int (0 : Int32)), (.ref l1), (.ref cn)]) (rest := []) (Wd := 0) (a := a1) rfl (hw _ t_43) (hw _ t_44) (hw _ t_29) (hw _ t_45) (by decide) (rGI5 l Z a0 hw d0 el ea em cn km kp kr ka ki bt mr a1 kk (0 : Int32) (0 : Int32) l1 cn hb h0 W0 n0 O0 g1 E1 F_kind F_lower F_upper F_children F_comments S1 KB hba) rfl n6_8 (by rw [hml]; rfl) (lenOf pd_962156 rfl) rfl (by decide) (by decide) (by decide) (by decide) e1) fun v2 T2 L2 X2 Q2 => ?_
  obtain ⟨rfl, n2, k2, ea2, c2_kind, c2_lower, c2_upper, c2_comments⟩ := Q2
  have N2 := Fr.app (Fr.nil n0) n2
  have z3 : h0.size ≤ T2.heap.size := Nat.le_trans (Nat.le_refl h0.size) k2.1
  have k3 : Keep h0 T2.heap [a1] := (Keep.refl h0 [a1]).trans k2 (allS (Or.inl (List.mem_of_getElem? (i := 0) rfl)) all0)
  show Wg p e below _ T2 (mkF m 11 #[.val (.ref a1), .val (.ref kk), .val (.ref l1)] [])
  refine w_aloadN X2 hx hby n6_11 rfl rfl ?_
  have f4 := (O0.keep k2 (allS g1 all0))
  refine w_getS X2 hx hby hZ hown (host := "") (Or.inl (hw _ t_86)) Via.refl rfl (W0.sI.ext f4.2) n6_12 fun T5 X5 e5 => ?_
  refine f_acmp_ne X5 hx hby n6_15 (fun q15 => ?_) (fun q15 => by exact absurd q15 hk)
  refine w_retV X5 hx hby e5 hlk hret n6_28 (by decide) (by decide) ?_
  exact ⟨rfl, N2, k3, ea2, c2_kind, c2_lower, c2_upper, c2_comments⟩
set_option maxRecDepth 65536 in
set_option maxHeartbeats 4000000 in
theorem ef_rGI3 (m : MethodId) (x0 : Addr) (x1 : Int32) (x2 : Int32) (x3 : Addr) : entryFrame m #[(.ref x0), (.int x1), (.int x2), (.ref x3)] 4 = mkF m 0 #[.val (.ref x0), .val (.int x1), .val (.int x2), .val (.ref x3)] [] := by first | (simp [entryFrame, mkF, argsToLocals, Value.category]; done) | rfl
set_option maxRecDepth 65536 in
set_option maxHeartbeats 40000000 in
theorem rGI3 (l : Launch) (Z : State) (a0 : Array Value) (hw : ∀ d ∈ tables_1, d.before a0 Z = true) (d0 el ea em cn km kp kr ka ki bt mr : Addr) (a1 : Addr) (lo : Int32) (up : Int32) (l1 : Addr) (hb : Heap) (h0 : Heap) (W0 : own_W Z d0 el ea em cn km kp kr ka ki bt mr) (n0 : Nat) (O0 : Old Z n0 h0) (g1 : n0 ≤ a1) (E1 : Exa Z h0 a1 "com/example/variaform/variaform/model/feature/Group") (F_kind : Fld Z h0 a1 "com/example/variaform/variaform/model/feature/Group" "kind" "Lcom/example/variaform/variaform/model/feature/Group$Kind;" .null) (F_lower : Fld Z h0 a1 "com/example/variaform/variaform/model/feature/Group" "lower" "I" (.int (0 : Int32))) (F_upper : Fld Z h0 a1 "com/example/variaform/variaform/model/feature/Group" "upper" "I" (.int (0 : Int32))) (F_children : Fld Z h0 a1 "com/example/variaform/variaform/model/feature/Group" "children" "Ljava/util/List;" .null) (F_comments : Fld Z h0 a1 "com/example/variaform/variaform/model/feature/Group" "comments" "Lcom/example/variaform/variaform/model/feature/Comments;" .null) (S1 : own_lst Z hb l1) (KB : Keep hb h0 []) (hba : hb.size ≤ a1) (hlo : ¬ lo < 0) (hup : ¬ up < 0) : Con l Z (⟨"com/example/variaform/variaform/model/feature/Group", "<init>", "(IILjava/util/List;)V"⟩ : MethodName) prog_39_method_1_code 4 none ({ frames := 9, cells := 2, slots := 3, locals := 118 } : Room) #[(.ref a1), (.int lo), (.int up), (.ref l1)] h0 (fun v h L => v = none ∧ Fr n0 L ∧ Keep h0 h [a1] ∧ Exa Z h a1 "com/example/variaform/variaform/model/feature/Group" ∧ Fld Z h a1 "com/example/variaform/variaform/model/feature/Group" "kind" "Lcom/example/variaform/variaform/model/feature/Group$Kind;" (.ref ki) ∧ Fld Z h a1 "com/example/variaform/variaform/model/feature/Group" "lower" "I" (.int lo) ∧ Fld Z h a1 "com/example/variaform/variaform/model/feature/Group" "upper" "I" (.int up) ∧ Fld Z h a1 "com/example/variaform/variaform/model/feature/Group" "comments" "Lcom/example/variaform/variaform/model/feature/Comments;" (.ref cn)) := by
  refine w_body (Ls := #[.val (.ref a1), .val (.int lo), .val (.int up), .val (.ref l1)]) pn_36 (fun m => ef_rGI3 m a1 lo up l1) ?_
  intro p e s m below meth c T0 X0 hx hby hml hown hnm hret hlk hZ e0
  have Z0 : n0 ≤ h0.size := O0.1 ▸ O0.2.1
  refine w_aloadN X0 hx hby n36_0 rfl rfl ?_
  refine w_getS X0 hx hby hZ hown (host := "") (Or.inl (hw _ t_86)) Via.refl e0 (W0.sI.ext O0.2) n36_1 fun T1 X1 e1 => ?_
  refine w_iloadN X1 hx hby n36_4 rfl ?_
  refine w_iloadN X1 hx hby n36_5 rfl ?_
  refine w_aloadN X1 hx hby n36_6 rfl rfl ?_
  refine w_getS X1 hx hby hZ hown (host := "") (Or.inl (hw _ t_40)) Via.refl e1 (W0.sC.ext O0.2) n36_7 fun T2 X2 e2 => ?_
  refine w_called (call_N X2 hx hby hZ hown (argsL := [(.ref ki), (.int lo), (.int up), (.ref l1), (.ref cn)]) (rest := []) (Wd := 0) (a := a1) rfl (hw _ t_43) (hw _ t_44) (hw _ t_29) (hw _ t_45) (by decide) (rGI5 l Z a0 hw d0 el ea em cn km kp kr ka ki bt mr a1 ki lo up l1 cn hb h0 W0 n0 O0 g1 E1 F_kind F_lower F_upper F_children F_comments S1 KB hba) rfl n36_10 (by rw [hml]; rfl) (lenOf pd_962156 rfl) rfl (by decide) (by decide) (by decide) (by decide) e2) fun v3 T3 L3 X3 Q3 => ?_
  obtain ⟨rfl, n3, k3, ea3, c3_kind, c3_lower, c3_upper, c3_comments⟩ := Q3
  have N3 := Fr.app (Fr.nil n0) n3
  have z4 : h0.size ≤ T3.heap.size := Nat.le_trans (Nat.le_refl h0.size) k3.1
  have k4 : Keep h0 T3.heap [a1] := (Keep.refl h0 [a1]).trans k3 (allS (Or.inl (List.mem_of_getElem? (i := 0) rfl)) all0)
  show Wg p e below _ T3 (mkF m 13 #[.val (.ref a1), .val (.int lo), .val (.int up), .val (.ref l1)] [])
  refine w_iloadN X3 hx hby n36_13 rfl ?_
  refine f_if_lt X3 hx hby n36_14 (fun q14 => by exact absurd q14 hlo) (fun q14 => ?_)
  refine w_iloadN X3 hx hby n36_17 rfl ?_
  refine f_if_ge X3 hx hby n36_18 (fun q18 => ?_) (fun q18 => by exact absurd q18 hup)
  refine w_retV X3 hx hby rfl hlk hret n36_32 (by decide) (by decide) ?_
  exact ⟨rfl, N3, k4, ea3, c3_kind, c3_lower, c3_upper, c3_comments⟩
set_option maxRecDepth 65536 in
set_option maxHeartbeats 4000000 in
theorem ef_rGAL (m : MethodId) (x0 : Int32) (x1 : Addr) : entryFrame m #[(.int x0), (.ref x1)] 2 = mkF m 0 #[.val (.int x0), .val (.ref x1)] [] := by first | (simp [entryFrame, mkF, argsToLocals, Value.category]; done) | rfl
set_option maxRecDepth 65536 in
set_option maxHeartbeats 40000000 in
theorem rGAL (l : Launch) (Z : State) (a0 : Array Value) (hw : ∀ d ∈ tables_1, d.before a0 Z = true) (d0 el ea em cn km kp kr ka ki bt mr : Addr) (lo : Int32) (l1 : Addr) (h0 : Heap) (W0 : own_W Z d0 el ea em cn km kp kr ka ki bt mr) (n0 : Nat) (O0 : Old Z n0 h0) (S1 : own_lst Z h0 l1) (hlo : ¬ lo < 0) : Con l Z (⟨"com/example/variaform/variaform/model/feature/Group", "atLeast", "(ILjava/util/List;)Lcom/example/variaform/variaform/model/feature/Group;"⟩ : MethodName) prog_39_method_4_code 2 (some (.object "com/example/variaform/variaform/model/feature/Group")) ({ frames := 9, cells := 3, slots := 8, locals := 119 } : Room) #[(.int lo), (.ref l1)] h0 (fun v h L => ∃ (y : Addr), v = some (.ref y) ∧ Fr n0 L ∧ Keep h0 h [] ∧ Exa Z h y "com/example/variaform/variaform/model/feature/Group" ∧ Fld Z h y "com/example/variaform/variaform/model/feature/Group" "kind" "Lcom/example/variaform/variaform/model/feature/Group$Kind;" (.ref ki) ∧ Fld Z h y "com/example/variaform/variaform/model/feature/Group" "lower" "I" (.int lo) ∧ Fld Z h y "com/example/variaform/variaform/model/feature/Group" "upper" "I" (.int (-1 : Int32)) ∧ Fld Z h y "com/example/variaform/variaform/model/feature/Group" "comments" "Lcom/example/variaform/variaform/model/feature/Comments;" (.ref cn)) := by
  refine w_body (Ls := #[.val (.int lo), .val (.ref l1)]) pn_14 (fun m => ef_rGAL m lo l1) ?_
  intro p e s m below meth c T0 X0 hx hby hml hown hnm hret hlk hZ e0
  have Z0 : n0 ≤ h0.size := O0.1 ▸ O0.2.1
  refine w_iloadN X0 hx hby n14_0 rfl ?_
  refine f_if_ge X0 hx hby n14_1 (fun q1 => ?_) (fun q1 => by exact absurd q1 hlo)
  refine w_newO X0 hx hby hZ hown (hw _ t_100) (hw _ t_28) (hw _ t_29) e0 n14_14 (by decide) (by decide) fun T1 h1 b1 g1 X1 e1 E1 A1 D1 => ?_
  have old_b1 : h0.size ≤ b1 := Nat.le_trans (Nat.le_refl h0.size) (Nat.le_of_eq g1.symm)
  have z2 : h0.size ≤ h1.size := Nat.le_trans (Nat.le_refl h0.size) E1.1
  have k2 : Keep h0 h1 [] := (Keep.refl h0 []).ext E1
  have F1_kind : Fld Z h1 b1 "com/example/variaform/variaform/model/feature/Group" "kind" "Lcom/example/variaform/variaform/model/feature/Group$Kind;" .null := D1 (Or.inr (hw _ t_48)) (ty := (.object "com/example/variaform/variaform/model/feature/Group$Kind")) (by decide)
  have F1_lower : Fld Z h1 b1 "com/example/variaform/variaform/model/feature/Group" "lower" "I" (.int (0 : Int32)) := D1 (Or.inr (hw _ t_50)) (ty := .int) (by decide)
  have F1_upper : Fld Z h1 b1 "com/example/variaform/variaform/model/feature/Group" "upper" "I" (.int (0 : Int32)) := D1 (Or.inr (hw _ t_52)) (ty := .int) (by decide)
  have F1_children : Fld Z h1 b1 "com/example/variaform/variaform/model/feature/Group" "children" "Ljava/util/List;" .null := D1 (Or.inr (hw _ t_83)) (ty := (.object "java/util/List")) (by decide)
  have F1_comments : Fld Z h1 b1 "com/example/variaform/variaform/model/feature/Group" "comments" "Lcom/example/variaform/variaform/model/feature/Comments;" .null := D1 (Or.inr (hw _ t_85)) (ty := (.object "com/example/variaform/variaform/model/feature/Comments")) (by decide)
  refine w_dup X1 hx hby n14_17 rfl ?_
  have f3 := (O0.ext E1)
  refine w_getS X1 hx hby hZ hown (host := "") (Or.inl (hw _ t_86)) Via.refl e1 (W0.sI.ext f3.2) n14_18 fun T4 X4 e4 => ?_
  refine w_iloadN X4 hx hby n14_21 rfl ?_
  refine w_iconst X4 hx hby (-1 : Int32) n14_22 rfl ?_
  refine w_aloadN X4 hx hby n14_23 rfl rfl ?_
  refine w_getS X4 hx hby hZ hown (host := "") (Or.inl (hw _ t_40)) Via.refl e4 (W0.sC.ext f3.2) n14_24 fun T5 X5 e5 => ?_
  refine w_called (call_N X5 hx hby hZ hown (argsL := [(.ref ki), (.int lo), (.int (-1 : Int32)), (.ref l1), (.ref cn)]) (rest := [(.ref b1)]) (Wd := 1) (a := b1) rfl (hw _ t_43) (hw _ t_44) (hw _ t_29) (hw _ t_45) (by decide) (rGI5 l Z a0 hw d0 el ea em cn km kp kr ka ki bt mr b1 ki lo (-1 : Int32) l1 cn h0 h1 W0 n0 f3 (Nat.le_trans Z0 old_b1) A1 F1_kind F1_lower F1_upper F1_children F1_comments S1 k2 old_b1) rfl n14_27 (by rw [hml]; rfl) (lenOf pd_962156 rfl) rfl (by decide) (by decide) (by decide) (by decide) e5) fun v6 T6 L6 X6 Q6 => ?_
  obtain ⟨rfl, n6, k6, ea6, c6_kind, c6_lower, c6_upper, c6_comments⟩ := Q6
  have N6 := Fr.app (Fr.nil n0) n6
  have z7 : h0.size ≤ T6.heap.size := Nat.le_trans z2 k6.1
  have k7 : Keep h0 T6.heap [] := k2.trans k6 (allS (Or.inr old_b1) all0)
  show Wg p e below _ T6 (mkF m 30 #[.val (.int lo), .val (.ref l1)] [(.ref b1)])
  refine w_retA X6 hx hby rfl hlk hret rfl rfl rfl n14_30 (by decide) (by decide) ?_
  exact ⟨b1, rfl, N6, k7, ea6, c6_kind, c6_lower, c6_upper, c6_comments⟩
set_option maxRecDepth 65536 in
set_option maxHeartbeats 4000000 in
theorem ef_rGWC (m : MethodId) (x0 : Addr) (x1 : Addr) : entryFrame m #[(.ref x0), (.ref x1)] 2 = mkF m 0 #[.val (.ref x0), .val (.ref x1)] [] := by first | (simp [entryFrame, mkF, argsToLocals, Value.category]; done) | rfl
set_option maxRecDepth 65536 in
set_option maxHeartbeats 40000000 in
theorem rGWC (l : Launch) (Z : State) (a0 : Array Value) (hw : ∀ d ∈ tables_1, d.before a0 Z = true) (d0 el ea em cn km kp kr ka ki bt mr : Addr) (gr l1 kk cc : Addr) (lo up : Int32) (h0 : Heap) (W0 : own_W Z d0 el ea em cn km kp kr ka ki bt mr) (n0 : Nat) (O0 : Old Z n0 h0) (S1 : own_lst Z h0 l1) (Eg : Exa Z h0 gr "com/example/variaform/variaform/model/feature/Group") (Fg_kind : Fld Z h0 gr "com/example/variaform/variaform/model/feature/Group" "kind" "Lcom/example/variaform/variaform/model/feature/Group$Kind;" (.ref kk)) (Fg_lower : Fld Z h0 gr "com/example/variaform/variaform/model/feature/Group" "lower" "I" (.int lo)) (Fg_upper : Fld Z h0 gr "com/example/variaform/variaform/model/feature/Group" "upper" "I" (.int up)) (Fg_comments : Fld Z h0 gr "com/example/variaform/variaform/model/feature/Group" "comments" "Lcom/example/variaform/variaform/model/feature/Comments;" (.ref cc)) : Con l Z (⟨"com/example/variaform/variaform/model/feature/Group", "withChildren", "(Ljava/util/List;)Lcom/example/variaform/variaform/model/feature/Group;"⟩ : MethodName) prog_39_method_6_code 2 (some (.object "com/example/variaform/variaform/model/feature/Group")) ({ frames := 9, cells := 3, slots := 8, locals := 119 } : Room) #[(.ref gr), (.ref l1)] h0 (fun v h L => ∃ (y : Addr), v = some (.ref y) ∧ Fr n0 L ∧ Keep h0 h [] ∧ Exa Z h y "com/example/variaform/variaform/model/feature/Group" ∧ Fld Z h y "com/example/variaform/variaform/model/feature/Group" "kind" "Lcom/example/variaform/variaform/model/feature/Group$Kind;" (.ref kk) ∧ Fld Z h y "com/example/variaform/variaform/model/feature/Group" "lower" "I" (.int lo) ∧ Fld Z h y "com/example/variaform/variaform/model/feature/Group" "upper" "I" (.int up) ∧ Fld Z h y "com/example/variaform/variaform/model/feature/Group" "comments" "Lcom/example/variaform/variaform/model/feature/Comments;" (.ref cc)) := by
  refine w_body (Ls := #[.val (.ref gr), .val (.ref l1)]) pn_13 (fun m => ef_rGWC m gr l1) ?_
  intro p e s m below meth c T0 X0 hx hby hml hown hnm hret hlk hZ e0
  have Z0 : n0 ≤ h0.size := O0.1 ▸ O0.2.1
  refine w_newO X0 hx hby hZ hown (hw _ t_100) (hw _ t_28) (hw _ t_29) e0 n13_0 (by decide) (by decide) fun T1 h1 b1 g1 X1 e1 E1 A1 D1 => ?_
  have ne_gr_b1 : gr ≠ b1 := Nat.ne_of_lt (Nat.lt_of_lt_of_eq Eg.lt g1.symm)
  have old_b1 : h0.size ≤ b1 := Nat.le_trans (Nat.le_refl h0.size) (Nat.le_of_eq g1.symm)
  have z2 : h0.size ≤ h1.size := Nat.le_trans (Nat.le_refl h0.size) E1.1
  have k2 : Keep h0 h1 [] := (Keep.refl h0 []).ext E1
  have F1_kind : Fld Z h1 b1 "com/example/variaform/variaform/model/feature/Group" "kind" "Lcom/example/variaform/variaform/model/feature/Group$Kind;" .null := D1 (Or.inr (hw _ t_48)) (ty := (.object "com/example/variaform/variaform/model/feature/Group$Kind")) (by decide)
  have F1_lower : Fld Z h1 b1 "com/example/variaform/variaform/model/feature/Group" "lower" "I" (.int (0 : Int32)) := D1 (Or.inr (hw _ t_50)) (ty := .int) (by decide)
  have F1_upper : Fld Z h1 b1 "com/example/variaform/variaform/model/feature/Group" "upper" "I" (.int (0 : Int32)) := D1 (Or.inr (hw _ t_52)) (ty := .int) (by decide)
  have F1_children : Fld Z h1 b1 "com/example/variaform/variaform/model/feature/Group" "children" "Ljava/util/List;" .null := D1 (Or.inr (hw _ t_83)) (ty := (.object "java/util/List")) (by decide)
  have F1_comments : Fld Z h1 b1 "com/example/variaform/variaform/model/feature/Group" "comments" "Lcom/example/variaform/variaform/model/feature/Comments;" .null := D1 (Or.inr (hw _ t_85)) (ty := (.object "com/example/variaform/variaform/model/feature/Comments")) (by decide)
  refine w_dup X1 hx hby n13_3 rfl ?_
  refine w_aloadN X1 hx hby n13_4 rfl rfl ?_
  have f3 := (Fg_kind.ext E1)
  refine w_getF X1 hx hby hZ hown (host := "") (Or.inl (hw _ t_47)) Via.refl e1 f3 n13_5 fun T4 X4 e4 => ?_
  refine w_aloadN X4 hx hby n13_8 rfl rfl ?_
  have f5 := (Fg_lower.ext E1)
  refine w_getF X4 hx hby hZ hown (host := "") (Or.inl (hw _ t_49)) Via.refl e4 f5 n13_9 fun T6 X6 e6 => ?_
  refine w_aloadN X6 hx hby n13_12 rfl rfl ?_
  have f7 := (Fg_upper.ext E1)
  refine w_getF X6 hx hby hZ hown (host := "") (Or.inl (hw _ t_51)) Via.refl e6 f7 n13_13 fun T8 X8 e8 => ?_
  refine w_aloadN X8 hx hby n13_16 rfl rfl ?_
  refine w_aloadN X8 hx hby n13_17 rfl rfl ?_
  have f9 := (Fg_comments.ext E1)
  refine w_getF X8 hx hby hZ hown (host := "") (Or.inl (hw _ t_84)) Via.refl e8 f9 n13_18 fun T10 X10 e10 => ?_
  have f11 := (O0.ext E1)
  refine w_called (call_N X10 hx hby hZ hown (argsL := [(.ref kk), (.int lo), (.int up), (.ref l1), (.ref cc)]) (rest := [(.ref b1)]) (Wd := 1) (a := b1) rfl (hw _ t_43) (hw _ t_44) (hw _ t_29) (hw _ t_45) (by decide) (rGI5 l Z a0 hw d0 el ea em cn km kp kr ka ki bt mr b1 kk lo up l1 cc h0 h1 W0 n0 f11 (Nat.le_trans Z0 old_b1) A1 F1_kind F1_lower F1_upper F1_children F1_comments S1 k2 old_b1) rfl n13_21 (by rw [hml]; rfl) (lenOf pd_962156 rfl) rfl (by decide) (by decide) (by decide) (by decide) e10) fun v12 T12 L12 X12 Q12 => ?_
  obtain ⟨rfl, n12, k12, ea12, c12_kind, c12_lower, c12_upper, c12_comments⟩ := Q12
  have N12 := Fr.app (Fr.nil n0) n12
  have z13 : h0.size ≤ T12.heap.size := Nat.le_trans z2 k12.1
  have k13 : Keep h0 T12.heap [] := k2.trans k12 (allS (Or.inr old_b1) all0)
  show Wg p e below _ T12 (mkF m 24 #[.val (.ref gr), .val (.ref l1)] [(.ref b1)])
  refine w_retA X12 hx hby rfl hlk hret rfl rfl rfl n13_24 (by decide) (by decide) ?_
  exact ⟨b1, rfl, N12, k13, ea12, c12_kind, c12_lower, c12_upper, c12_comments⟩
set_option maxRecDepth 65536 in
set_option maxHeartbeats 4000000 in
theorem ef_rGUU (m : MethodId) (x0 : Addr) : entryFrame m #[(.ref x0)] 1 = mkF m 0 #[.val (.ref x0)] [] := by first | (simp [entryFrame, mkF, argsToLocals, Value.category]; done) | rfl
set_option maxRecDepth 65536 in
set_option maxHeartbeats 40000000 in
theorem rGUU (l : Launch) (Z : State) (a0 : Array Value) (hw : ∀ d ∈ tables_1, d.before a0 Z = true) (a1 : Addr) (u1 : Int32) (h0 : Heap) (F1 : Fld Z h0 a1 "com/example/variaform/variaform/model/feature/Group" "upper" "I" (.int u1)) : Con l Z (⟨"com/example/variaform/variaform/model/feature/Group", "isUpperUnbounded", "()Z"⟩ : MethodName) prog_39_method_11_code 1 (some .boolean) ({ frames := 0, cells := 0, slots := 0, locals := 0 } : Room) #[(.ref a1)] h0 (fun v h L => v = some (.int (own_un u1)) ∧ h = h0 ∧ L = []) := by
  refine w_body (Ls := #[.val (.ref a1)]) pn_12 (fun m => ef_rGUU m a1) ?_
  intro p e s m below meth c T0 X0 hx hby hml hown hnm hret hlk hZ e0
  refine w_aloadN X0 hx hby n12_0 rfl rfl ?_
  refine w_getF X0 hx hby hZ hown (host := "") (Or.inl (hw _ t_51)) Via.refl e0 F1 n12_1 fun T1 X1 e1 => ?_
  refine w_iconst X1 hx hby (-1 : Int32) n12_4 rfl ?_
  refine f_icmp_ne X1 hx hby n12_5 (fun q5 => ?_) (fun q5 => ?_)
  · refine w_iconst X1 hx hby (0 : Int32) n12_12 rfl ?_
    refine w_retN X1 hx hby e1 hlk hret (by simp) n12_13 (by decide) (by decide) ?_
    exact ⟨congrArg (fun q => some (Value.int q)) (by first | (unfold own_un; rw [if_neg q5] <;> rfl) | simp [own_un, own_nar1, own_nar0, q5]), rfl, rfl⟩
  · refine w_iconst X1 hx hby (1 : Int32) n12_8 rfl ?_
    refine w_goto X1 hx hby n12_9 ?_
    refine w_retN X1 hx hby e1 hlk hret (by simp) n12_13 (by decide) (by decide) ?_
    exact ⟨congrArg (fun q => some (Value.int q)) (by first | (unfold own_un; rw [if_pos q5] <;> rfl) | simp [own_un, own_nar1, own_nar0, q5]), rfl, rfl⟩
set_option maxRecDepth 65536 in
set_option maxHeartbeats 4000000 in
theorem ef_rKND (m : MethodId) (x0 : Int32) : entryFrame m #[(.int x0)] 1 = mkF m 0 #[.val (.int x0)] [] := by first | (simp [entryFrame, mkF, argsToLocals, Value.category]; done) | rfl
set_option maxRecDepth 65536 in
set_option maxHeartbeats 40000000 in
theorem rKND (l : Launch) (Z : State) (a0 : Array Value) (hw : ∀ d ∈ tables_1, d.before a0 Z = true) (d0 el ea em cn km kp kr ka ki bt mr : Addr) (k1 : Int32) (h0 : Heap) (W0 : own_W Z d0 el ea em cn km kp kr ka ki bt mr) (n0 : Nat) (O0 : Old Z n0 h0) : Con l Z (⟨"com/example/variaform/variaform/model/feature/GroupIsUpperUnboundedPinLaw", "kindOf", "(I)Lcom/example/variaform/variaform/model/feature/Group$Kind;"⟩ : MethodName) method_3_code 1 (some (.object "com/example/variaform/variaform/model/feature/Group$Kind")) ({ frames := 0, cells := 0, slots := 0, locals := 0 } : Room) #[(.int k1)] h0 (fun v h L => v = some (.ref (own_kind km kp kr ka k1)) ∧ h = h0 ∧ L = []) := by
  refine w_body (Ls := #[.val (.int k1)]) pn_5 (fun m => ef_rKND m k1) ?_
  intro p e s m below meth c T0 X0 hx hby hml hown hnm hret hlk hZ e0
  have Z0 : n0 ≤ h0.size := O0.1 ▸ O0.2.1
  refine w_iloadN X0 hx hby n5_0 rfl ?_
  refine f_if_ne X0 hx hby n5_1 (fun q1 => ?_) (fun q1 => ?_)
  · refine w_iloadN X0 hx hby n5_8 rfl ?_
    refine w_iconst X0 hx hby (1 : Int32) n5_9 rfl ?_
    refine f_icmp_ne X0 hx hby n5_10 (fun q10 => ?_) (fun q10 => ?_)
    · refine w_iloadN X0 hx hby n5_17 rfl ?_
      refine w_iconst X0 hx hby (2 : Int32) n5_18 rfl ?_
      refine f_icmp_ne X0 hx hby n5_19 (fun q19 => ?_) (fun q19 => ?_)
      · refine w_getS X0 hx hby hZ hown (host := "") (Or.inl (hw _ t_285)) Via.refl e0 (W0.sA.ext O0.2) n5_26 fun T1 X1 e1 => ?_
        refine w_retA X1 hx hby e1 hlk hret rfl rfl rfl n5_29 (by decide) (by decide) ?_
        exact ⟨congrArg (fun q => some (Value.ref q)) (by first | (unfold own_kind; rw [if_neg q1, if_neg q10, if_neg q19] <;> rfl) | simp [own_kind, own_nar1, own_nar0, q1, q10, q19]), rfl, rfl⟩
      · refine w_getS X0 hx hby hZ hown (host := "") (Or.inl (hw _ t_93)) Via.refl e0 (W0.sR.ext O0.2) n5_22 fun T2 X2 e2 => ?_
        refine w_retA X2 hx hby e2 hlk hret rfl rfl rfl n5_25 (by decide) (by decide) ?_
        exact ⟨congrArg (fun q => some (Value.ref q)) (by first | (unfold own_kind; rw [if_neg q1, if_neg q10, if_pos q19] <;> rfl) | simp [own_kind, own_nar1, own_nar0, q1, q10, q19]), rfl, rfl⟩
    · refine w_getS X0 hx hby hZ hown (host := "") (Or.inl (hw _ t_34)) Via.refl e0 (W0.sP.ext O0.2) n5_13 fun T3 X3 e3 => ?_
      refine w_retA X3 hx hby e3 hlk hret rfl rfl rfl n5_16 (by decide) (by decide) ?_
      exact ⟨congrArg (fun q => some (Value.ref q)) (by first | (unfold own_kind; rw [if_neg q1, if_pos q10] <;> rfl) | simp [own_kind, own_nar1, own_nar0, q1, q10]), rfl, rfl⟩
  · refine w_getS X0 hx hby hZ hown (host := "") (Or.inl (hw _ t_221)) Via.refl e0 (W0.sM.ext O0.2) n5_4 fun T4 X4 e4 => ?_
    refine w_retA X4 hx hby e4 hlk hret rfl rfl rfl n5_7 (by decide) (by decide) ?_
    exact ⟨congrArg (fun q => some (Value.ref q)) (by first | (unfold own_kind; rw [if_pos q1] <;> rfl) | simp [own_kind, own_nar1, own_nar0, q1]), rfl, rfl⟩
set_option maxRecDepth 65536 in
set_option maxHeartbeats 4000000 in
theorem ef_rLNS (m : MethodId) (x0 : Addr) : entryFrame m #[(.ref x0)] 1 = mkF m 0 #[.val (.ref x0)] [] := by first | (simp [entryFrame, mkF, argsToLocals, Value.category]; done) | rfl
set_option maxRecDepth 65536 in
set_option maxHeartbeats 40000000 in
theorem rLNS (l : Launch) (Z : State) (a0 : Array Value) (hw : ∀ d ∈ tables_1, d.before a0 Z = true) (d0 el ea em cn km kp kr ka ki bt mr : Addr) (h0 : Heap) (W0 : own_W Z d0 el ea em cn km kp kr ka ki bt mr) (n0 : Nat) (O0 : Old Z n0 h0) : Con l Z (⟨"java/util/ImmutableCollections$ListN", "size", "()I"⟩ : MethodName) jdk_45_method_3_code 1 (some .int) ({ frames := 0, cells := 0, slots := 0, locals := 0 } : Room) #[(.ref el)] h0 (fun v h L => v = some (.int (0 : Int32)) ∧ h = h0 ∧ L = []) := by
  refine w_body (Ls := #[.val (.ref el)]) pn_19 (fun m => ef_rLNS m el) ?_
  intro p e s m below meth c T0 X0 hx hby hml hown hnm hret hlk hZ e0
  have Z0 : n0 ≤ h0.size := O0.1 ▸ O0.2.1
  refine w_aloadN X0 hx hby n19_0 rfl rfl ?_
  refine w_getF X0 hx hby hZ hown (host := "") (Or.inl (hw _ t_168)) Via.refl e0 (W0.fE.ext O0.2) n19_1 fun T1 X1 e1 => ?_
  obtain ⟨ca2, aa2, az2⟩ := W0.aE
  refine w_arraylength X1 hx hby hZ e1 (aa2.ext O0.2) az2 n19_4 ?_
  refine w_retI X1 hx hby e1 hlk hret n19_5 (by decide) (by decide) ?_
  exact ⟨rfl, rfl, rfl⟩
set_option maxRecDepth 65536 in
set_option maxHeartbeats 4000000 in
theorem ef_rLII (m : MethodId) (x0 : Addr) (x1 : Addr) (x2 : Int32) : entryFrame m #[(.ref x0), (.ref x1), (.int x2)] 3 = mkF m 0 #[.val (.ref x0), .val (.ref x1), .val (.int x2)] [] := by first | (simp [entryFrame, mkF, argsToLocals, Value.category]; done) | rfl
set_option maxRecDepth 65536 in
set_option maxHeartbeats 40000000 in
theorem rLII (l : Launch) (Z : State) (a0 : Array Value) (hw : ∀ d ∈ tables_1, d.before a0 Z = true) (d0 el ea em cn km kp kr ka ki bt mr : Addr) (a1 : Addr) (h0 : Heap) (W0 : own_W Z d0 el ea em cn km kp kr ka ki bt mr) (n0 : Nat) (O0 : Old Z n0 h0) (g1 : n0 ≤ a1) (E1 : Exa Z h0 a1 "java/util/ImmutableCollections$ListItr") (F_list : Fld Z h0 a1 "java/util/ImmutableCollections$ListItr" "list" "Ljava/util/List;" .null) (F_size : Fld Z h0 a1 "java/util/ImmutableCollections$ListItr" "size" "I" (.int (0 : Int32))) (F_cursor : Fld Z h0 a1 "java/util/ImmutableCollections$ListItr" "cursor" "I" (.int (0 : Int32))) (F_isListIterator : Fld Z h0 a1 "java/util/ImmutableCollections$ListItr" "isListIterator" "Z" (.int (0 : Int32))) : Con l Z (⟨"java/util/ImmutableCollections$ListItr", "<init>", "(Ljava/util/List;I)V"⟩ : MethodName) jdk_53_method_1_code 3 none ({ frames := 1, cells := 0, slots := 0, locals := 12 } : Room) #[(.ref a1), (.ref el), (.int (0 : Int32))] h0 (fun v h L => v = none ∧ Fr n0 L ∧ Keep h0 h [a1] ∧ Exa Z h a1 "java/util/ImmutableCollections$ListItr" ∧ Fld Z h a1 "java/util/ImmutableCollections$ListItr" "list" "Ljava/util/List;" (.ref el) ∧ Fld Z h a1 "java/util/ImmutableCollections$ListItr" "size" "I" (.int (0 : Int32)) ∧ Fld Z h a1 "java/util/ImmutableCollections$ListItr" "cursor" "I" (.int (0 : Int32)) ∧ Fld Z h a1 "java/util/ImmutableCollections$ListItr" "isListIterator" "Z" (.int (nar .boolean (0 : Int32)))) := by
  refine w_body (Ls := #[.val (.ref a1), .val (.ref el), .val (.int (0 : Int32))]) pn_20 (fun m => ef_rLII m a1 el (0 : Int32)) ?_
  intro p e s m below meth c T0 X0 hx hby hml hown hnm hret hlk hZ e0
  have Z0 : n0 ≤ h0.size := O0.1 ▸ O0.2.1
  refine w_aloadN X0 hx hby n20_0 rfl rfl ?_
  refine w_initO X0 hx hby hZ hown (by rw [hml]; rfl) (Wd := 0) (hw _ t_174) (hw _ t_19) (hw _ t_20) e0 n20_1 (by decide) rfl (by decide) fun T1 X1 e1 => ?_
  refine w_aloadN X1 hx hby n20_4 rfl rfl ?_
  refine w_aloadN X1 hx hby n20_5 rfl rfl ?_
  refine w_putFN X1 hx hby hZ hown (hw _ t_175) Via.refl e1 F_list E1 (Or.inr ⟨(hw _ t_176), rfl, hnm⟩) (hw _ t_159) (ty := (.object "java/util/List")) (by decide) rfl rfl n20_6 fun T2 h2 X2 e2 W2 => ?_
  have P2 := F_list.same W2
  have N2 := Fr.snoc X2 (Fr.nil n0) g1
  have z3 : h0.size ≤ h2.size := Nat.le_trans (Nat.le_refl h0.size) (Keep.of_wr W2).1
  have k3 : Keep h0 h2 [a1] := (Keep.refl h0 [a1]).wr W2 (Or.inl (List.mem_of_getElem? (i := 0) rfl))
  refine w_aloadN X2 hx hby n20_9 rfl rfl ?_
  refine w_iloadN X2 hx hby n20_10 rfl ?_
  have f4 := (F_size.other W2 (Or.inr (slot_ne (Or.inr (hw _ t_178)) (Or.inr (hw _ t_176)) (by decide) (t := .int) (t' := (.object "java/util/List")) (by decide) (by decide))))
  have f5 := (E1.wr W2)
  refine w_putFN X2 hx hby hZ hown (hw _ t_177) Via.refl e2 f4 f5 (Or.inr ⟨(hw _ t_178), rfl, hnm⟩) (hw _ t_159) (ty := .int) (by decide) rfl rfl n20_11 fun T6 h6 X6 e6 W6 => ?_
  have P6 := f4.same W6
  have N6 := Fr.snoc X6 N2 g1
  have z7 : h0.size ≤ h6.size := Nat.le_trans z3 (Keep.of_wr W6).1
  have k7 : Keep h0 h6 [a1] := k3.wr W6 (Or.inl (List.mem_of_getElem? (i := 0) rfl))
  refine w_aloadN X6 hx hby n20_14 rfl rfl ?_
  refine w_iconst X6 hx hby (0 : Int32) n20_15 rfl ?_
  have f8 := ((F_cursor.other W2 (Or.inr (slot_ne (Or.inl (hw _ t_180)) (Or.inr (hw _ t_176)) (by decide) (t := .int) (t' := (.object "java/util/List")) (by decide) (by decide)))).other W6 (Or.inr (slot_ne (Or.inl (hw _ t_180)) (Or.inr (hw _ t_178)) (by decide) (t := .int) (t' := .int) (by decide) (by decide))))
  have f9 := (f5.wr W6)
  refine w_putFN X6 hx hby hZ hown (hw _ t_179) Via.refl e6 f8 f9 (Or.inl (hw _ t_180)) (hw _ t_159) (ty := .int) (by decide) rfl rfl n20_16 fun T10 h10 X10 e10 W10 => ?_
  have P10 := f8.same W10
  have N10 := Fr.snoc X10 N6 g1
  have z11 : h0.size ≤ h10.size := Nat.le_trans z7 (Keep.of_wr W10).1
  have k11 : Keep h0 h10 [a1] := k7.wr W10 (Or.inl (List.mem_of_getElem? (i := 0) rfl))
  refine w_aloadN X10 hx hby n20_19 rfl rfl ?_
  refine w_iconst X10 hx hby (0 : Int32) n20_20 rfl ?_
  have f12 := (((F_isListIterator.other W2 (Or.inr (slot_ne (Or.inr (hw _ t_182)) (Or.inr (hw _ t_176)) (by decide) (t := .boolean) (t' := (.object "java/util/List")) (by decide) (by decide)))).other W6 (Or.inr (slot_ne (Or.inr (hw _ t_182)) (Or.inr (hw _ t_178)) (by decide) (t := .boolean) (t' := .int) (by decide) (by decide)))).other W10 (Or.inr (slot_ne (Or.inr (hw _ t_182)) (Or.inl (hw _ t_180)) (by decide) (t := .boolean) (t' := .int) (by decide) (by decide))))
  have f13 := (f9.wr W10)
  refine w_putFN X10 hx hby hZ hown (hw _ t_181) Via.refl e10 f12 f13 (Or.inr ⟨(hw _ t_182), rfl, hnm⟩) (hw _ t_159) (ty := .boolean) (by decide) rfl (fits_nar_bool _) n20_21 fun T14 h14 X14 e14 W14 => ?_
  have P14 := f12.same W14
  have N14 := Fr.snoc X14 N10 g1
  have z15 : h0.size ≤ h14.size := Nat.le_trans z11 (Keep.of_wr W14).1
  have k15 : Keep h0 h14 [a1] := k11.wr W14 (Or.inl (List.mem_of_getElem? (i := 0) rfl))
  refine w_retV X14 hx hby e14 hlk hret n20_24 (by decide) (by decide) ?_
  have f16 := (f13.wr W14)
  have f17 := (((P2.other W6 (Or.inr (slot_ne (Or.inr (hw _ t_176)) (Or.inr (hw _ t_178)) (by decide) (t := (.object "java/util/List")) (t' := .int) (by decide) (by decide)))).other W10 (Or.inr (slot_ne (Or.inr (hw _ t_176)) (Or.inl (hw _ t_180)) (by decide) (t := (.object "java/util/List")) (t' := .int) (by decide) (by decide)))).other W14 (Or.inr (slot_ne (Or.inr (hw _ t_176)) (Or.inr (hw _ t_182)) (by decide) (t := (.object "java/util/List")) (t' := .boolean) (by decide) (by decide))))
  have f18 := ((P6.other W10 (Or.inr (slot_ne (Or.inr (hw _ t_178)) (Or.inl (hw _ t_180)) (by decide) (t := .int) (t' := .int) (by decide) (by decide)))).other W14 (Or.inr (slot_ne (Or.inr (hw _ t_178)) (Or.inr (hw _ t_182)) (by decide) (t := .int) (t' := .boolean) (by decide) (by decide))))
  have f19 := (P10.other W14 (Or.inr (slot_ne (Or.inl (hw _ t_180)) (Or.inr (hw _ t_182)) (by decide) (t := .int) (t' := .boolean) (by decide) (by decide))))
  exact ⟨rfl, N14, k15, f16, f17, f18, f19, P14⟩
set_option maxRecDepth 65536 in
set_option maxHeartbeats 4000000 in
theorem ef_rITR (m : MethodId) (x0 : Addr) : entryFrame m #[(.ref x0)] 1 = mkF m 0 #[.val (.ref x0)] [] := by first | (simp [entryFrame, mkF, argsToLocals, Value.category]; done) | rfl
set_option maxRecDepth 65536 in
set_option maxHeartbeats 40000000 in
theorem rITR (l : Launch) (Z : State) (a0 : Array Value) (hw : ∀ d ∈ tables_1, d.before a0 Z = true) (d0 el ea em cn km kp kr ka ki bt mr : Addr) (h0 : Heap) (W0 : own_W Z d0 el ea em cn km kp kr ka ki bt mr) (n0 : Nat) (O0 : Old Z n0 h0) : Con l Z (⟨"java/util/ImmutableCollections$AbstractImmutableList", "iterator", "()Ljava/util/Iterator;"⟩ : MethodName) jdk_46_method_10_code 1 (some (.object "java/util/Iterator")) ({ frames := 2, cells := 1, slots := 4, locals := 27 } : Room) #[(.ref el)] h0 (fun v h L => ∃ (y : Addr), v = some (.ref y) ∧ Fr n0 L ∧ Keep h0 h [] ∧ Exa Z h y "java/util/ImmutableCollections$ListItr" ∧ Fld Z h y "java/util/ImmutableCollections$ListItr" "size" "I" (.int (0 : Int32)) ∧ Fld Z h y "java/util/ImmutableCollections$ListItr" "cursor" "I" (.int (0 : Int32))) := by
  refine w_body (Ls := #[.val (.ref el)]) pn_18 (fun m => ef_rITR m el) ?_
  intro p e s m below meth c T0 X0 hx hby hml hown hnm hret hlk hZ e0
  have Z0 : n0 ≤ h0.size := O0.1 ▸ O0.2.1
  refine w_newO X0 hx hby hZ hown (hw _ t_158) (hw _ t_159) (hw _ t_160) e0 n18_0 (by decide) (by decide) fun T1 h1 b1 g1 X1 e1 E1 A1 D1 => ?_
  have ne_el_b1 : el ≠ b1 := Nat.ne_of_lt (Nat.lt_of_lt_of_eq (W0.eL.ext O0.2).lt g1.symm)
  have old_b1 : h0.size ≤ b1 := Nat.le_trans (Nat.le_refl h0.size) (Nat.le_of_eq g1.symm)
  have z2 : h0.size ≤ h1.size := Nat.le_trans (Nat.le_refl h0.size) E1.1
  have k2 : Keep h0 h1 [] := (Keep.refl h0 []).ext E1
  have F1_list : Fld Z h1 b1 "java/util/ImmutableCollections$ListItr" "list" "Ljava/util/List;" .null := D1 (Or.inr (hw _ t_176)) (ty := (.object "java/util/List")) (by decide)
  have F1_size : Fld Z h1 b1 "java/util/ImmutableCollections$ListItr" "size" "I" (.int (0 : Int32)) := D1 (Or.inr (hw _ t_178)) (ty := .int) (by decide)
  have F1_cursor : Fld Z h1 b1 "java/util/ImmutableCollections$ListItr" "cursor" "I" (.int (0 : Int32)) := D1 (Or.inl (hw _ t_180)) (ty := .int) (by decide)
  have F1_isListIterator : Fld Z h1 b1 "java/util/ImmutableCollections$ListItr" "isListIterator" "Z" (.int (0 : Int32)) := D1 (Or.inr (hw _ t_182)) (ty := .boolean) (by decide)
  refine w_dup X1 hx hby n18_3 rfl ?_
  refine w_aloadN X1 hx hby n18_4 rfl rfl ?_
  refine w_aloadN X1 hx hby n18_5 rfl rfl ?_
  have f3 := (O0.ext E1)
  have f4 := ((W0.eL.ext O0.2).ext E1)
  refine w_calledp (call_U X1 hx hby hZ hown (argsL := []) (rest := [(.ref el), (.ref b1), (.ref b1)]) (Wd := 3) (x := (⟨"java/util/ImmutableCollections$AbstractImmutableList", "size", "()I"⟩ : MethodName)) (a := el) (hw _ t_161) (hw _ t_162) (hw _ t_163) (by decide) (hw _ t_164) (hw _ t_165) (hw _ t_166) (hw _ t_167) f4 (rLNS l Z a0 hw d0 el ea em cn km kp kr ka ki bt mr h1 W0 n0 f3) rfl n18_6 (by rw [hml]; rfl) (lenOf pd_1265 rfl) rfl (by decide) (by decide) (by decide) (by decide) e1) rfl rfl fun T5 X5 e5 => ?_
  refine w_called (call_N X5 hx hby hZ hown (argsL := [(.ref el), (.int (0 : Int32))]) (rest := [(.ref b1)]) (Wd := 1) (a := b1) rfl (hw _ t_170) (hw _ t_171) (hw _ t_160) (hw _ t_173) (by decide) (rLII l Z a0 hw d0 el ea em cn km kp kr ka ki bt mr b1   h1 W0 n0 f3 (Nat.le_trans Z0 old_b1) A1 F1_list F1_size F1_cursor F1_isListIterator ) rfl n18_9 (by rw [hml]; rfl) (lenOf pd_28506 rfl) rfl (by decide) (by decide) (by decide) (by decide) e5) fun v6 T6 L6 X6 Q6 => ?_
  obtain ⟨rfl, n6, k6, ea6, c6_list, c6_size, c6_cursor, c6_isListIterator⟩ := Q6
  have N6 := Fr.app (Fr.nil n0) n6
  have z7 : h0.size ≤ T6.heap.size := Nat.le_trans z2 k6.1
  have k7 : Keep h0 T6.heap [] := k2.trans k6 (allS (Or.inr old_b1) all0)
  show Wg p e below _ T6 (mkF m 12 #[.val (.ref el)] [(.ref b1)])
  refine w_retA X6 hx hby rfl hlk hret rfl rfl rfl n18_12 (by decide) (by decide) ?_
  exact ⟨b1, rfl, N6, k7, ea6, c6_size, c6_cursor⟩
set_option maxRecDepth 65536 in
set_option maxHeartbeats 4000000 in
theorem ef_rHAS (m : MethodId) (x0 : Addr) : entryFrame m #[(.ref x0)] 1 = mkF m 0 #[.val (.ref x0)] [] := by first | (simp [entryFrame, mkF, argsToLocals, Value.category]; done) | rfl
set_option maxRecDepth 65536 in
set_option maxHeartbeats 40000000 in
theorem rHAS (l : Launch) (Z : State) (a0 : Array Value) (hw : ∀ d ∈ tables_1, d.before a0 Z = true) (a1 : Addr) (h0 : Heap) (Fs : Fld Z h0 a1 "java/util/ImmutableCollections$ListItr" "size" "I" (.int (0 : Int32))) (Fc : Fld Z h0 a1 "java/util/ImmutableCollections$ListItr" "cursor" "I" (.int (0 : Int32))) : Con l Z (⟨"java/util/ImmutableCollections$ListItr", "hasNext", "()Z"⟩ : MethodName) jdk_53_method_3_code 1 (some .boolean) ({ frames := 0, cells := 0, slots := 0, locals := 0 } : Room) #[(.ref a1)] h0 (fun v h L => v = some (.int (nar .boolean (0 : Int32))) ∧ h = h0 ∧ L = []) := by
  refine w_body (Ls := #[.val (.ref a1)]) pn_21 (fun m => ef_rHAS m a1) ?_
  intro p e s m below meth c T0 X0 hx hby hml hown hnm hret hlk hZ e0
  refine w_aloadN X0 hx hby n21_0 rfl rfl ?_
  refine w_getF X0 hx hby hZ hown (host := "") (Or.inl (hw _ t_179)) Via.refl e0 Fc n21_1 fun T1 X1 e1 => ?_
  refine w_aloadN X1 hx hby n21_4 rfl rfl ?_
  refine w_getF X1 hx hby hZ hown (host := "") (Or.inl (hw _ t_177)) Via.refl e1 Fs n21_5 fun T2 X2 e2 => ?_
  refine f_icmp_eq X2 hx hby n21_8 (fun q8 => ?_) (fun q8 => by exact absurd q8 (by decide))
  refine w_iconst X2 hx hby (0 : Int32) n21_15 rfl ?_
  refine w_retN X2 hx hby e2 hlk hret (by simp) n21_16 (by decide) (by decide) ?_
  exact ⟨rfl, rfl, rfl⟩
set_option maxRecDepth 65536 in
set_option maxHeartbeats 4000000 in
theorem ef_rFI5 (m : MethodId) (x0 : Addr) (x1 : Addr) (x2 : Addr) (x3 : Addr) (x4 : Addr) (x5 : Addr) : entryFrame m #[(.ref x0), (.ref x1), (.ref x2), (.ref x3), (.ref x4), (.ref x5)] 10 = mkF m 0 #[.val (.ref x0), .val (.ref x1), .val (.ref x2), .val (.ref x3), .val (.ref x4), .val (.ref x5), .unset, .unset, .unset, .unset] [] := by first | (simp [entryFrame, mkF, argsToLocals, Value.category]; done) | rfl
set_option maxRecDepth 65536 in
set_option maxHeartbeats 40000000 in
theorem rFI5 (l : Launch) (Z : State) (a0 : Array Value) (hw : ∀ d ∈ tables_1, d.before a0 Z = true) (d0 el ea em cn km kp kr ka ki bt mr : Addr) (a1 : Addr) (sn : Addr) (l1 : Addr) (h0 : Heap) (W0 : own_W Z d0 el ea em cn km kp kr ka ki bt mr) (n0 : Nat) (O0 : Old Z n0 h0) (g1 : n0 ≤ a1) (E1 : Exa Z h0 a1 "com/example/variaform/variaform/model/feature/Feature") (F_name : Fld Z h0 a1 "com/example/variaform/variaform/model/feature/Feature" "name" "Ljava/lang/String;" .null) (F_type : Fld Z h0 a1 "com/example/variaform/variaform/model/feature/Feature" "type" "Lcom/example/variaform/variaform/model/feature/Feature$Type;" .null) (F_groups : Fld Z h0 a1 "com/example/variaform/variaform/model/feature/Feature" "groups" "Ljava/util/List;" .null) (F_attributes : Fld Z h0 a1 "com/example/variaform/variaform/model/feature/Feature" "attributes" "Ljava/util/List;" .null) (F_comments : Fld Z h0 a1 "com/example/variaform/variaform/model/feature/Feature" "comments" "Lcom/example/variaform/variaform/model/feature/Comments;" .null) (El : Exa Z h0 l1 "java/util/ArrayList") (Fl : Fld Z h0 l1 "java/util/ArrayList" "size" "I" (.int (0 : Int32))) (nl : l1 ≠ a1) : Con l Z (⟨"com/example/variaform/variaform/model/feature/Feature", "<init>", "(Ljava/lang/String;Lcom/example/variaform/variaform/model/feature/Feature$Type;Ljava/util/List;Ljava/util/List;Lcom/example/variaform/variaform/model/feature/Comments;)V"⟩ : MethodName) prog_35_method_3_code 10 none ({ frames := 3, cells := 1, slots := 4, locals := 39 } : Room) #[(.ref a1), (.ref sn), (.ref bt), (.ref l1), (.ref el), (.ref cn)] h0 (fun v h L => v = none ∧ Fr n0 L ∧ Keep h0 h [a1] ∧ Exa Z h a1 "com/example/variaform/variaform/model/feature/Feature" ∧ Fld Z h a1 "com/example/variaform/variaform/model/feature/Feature" "name" "Ljava/lang/String;" (.ref sn) ∧ Fld Z h a1 "com/example/variaform/variaform/model/feature/Feature" "type" "Lcom/example/variaform/variaform/model/feature/Feature$Type;" (.ref bt) ∧ Fld Z h a1 "com/example/variaform/variaform/model/feature/Feature" "groups" "Ljava/util/List;" (.ref el) ∧ Fld Z h a1 "com/example/variaform/variaform/model/feature/Feature" "attributes" "Ljava/util/List;" (.ref el) ∧ Fld Z h a1 "com/example/variaform/variaform/model/feature/Feature" "comments" "Lcom/example/variaform/variaform/model/feature/Comments;" (.ref cn)) := by
  refine w_body (Ls := #[.val (.ref a1), .val (.ref sn), .val (.ref bt), .val (.ref l1), .val (.ref el), .val (.ref cn), .unset, .unset, .unset, .unset]) pn_17 (fun m => ef_rFI5 m a1 sn bt l1 el cn) ?_
  intro p e s m below meth c T0 X0 hx hby hml hown hnm hret hlk hZ e0
  have Z0 : n0 ≤ h0.size := O0.1 ▸ O0.2.1
  refine w_aloadN X0 hx hby n17_0 rfl rfl ?_
  refine w_initO X0 hx hby hZ hown (by rw [hml]; rfl) (Wd := 0) (hw _ t_129) (hw _ t_19) (hw _ t_20) e0 n17_1 (by decide) rfl (by decide) fun T1 X1 e1 => ?_
  refine w_aloadN X1 hx hby n17_4 rfl rfl ?_
  refine w_aloadN X1 hx hby n17_5 rfl rfl ?_
  refine w_putFN X1 hx hby hZ hown (hw _ t_130) Via.refl e1 F_name E1 (Or.inr ⟨(hw _ t_131), rfl, hnm⟩) (hw _ t_105) (ty := (.object "java/lang/String")) (by decide) rfl rfl n17_6 fun T2 h2 X2 e2 W2 => ?_
  have P2 := F_name.same W2
  have N2 := Fr.snoc X2 (Fr.nil n0) g1
  have z3 : h0.size ≤ h2.size := Nat.le_trans (Nat.le_refl h0.size) (Keep.of_wr W2).1
  have k3 : Keep h0 h2 [a1] := (Keep.refl h0 [a1]).wr W2 (Or.inl (List.mem_of_getElem? (i := 0) rfl))
  refine w_aloadN X2 hx hby n17_9 rfl rfl ?_
  refine w_aloadN X2 hx hby n17_10 rfl rfl ?_
  have f4 := (F_type.other W2 (Or.inr (slot_ne (Or.inr (hw _ t_133)) (Or.inr (hw _ t_131)) (by decide) (t := (.object "com/example/variaform/variaform/model/feature/Feature$Type")) (t' := (.object "java/lang/String")) (by decide) (by decide))))
  have f5 := (E1.wr W2)
  refine w_putFN X2 hx hby hZ hown (hw _ t_132) Via.refl e2 f4 f5 (Or.inr ⟨(hw _ t_133), rfl, hnm⟩) (hw _ t_105) (ty := (.object "com/example/variaform/variaform/model/feature/Feature$Type")) (by decide) rfl rfl n17_11 fun T6 h6 X6 e6 W6 => ?_
  have P6 := f4.same W6
  have N6 := Fr.snoc X6 N2 g1
  have z7 : h0.size ≤ h6.size := Nat.le_trans z3 (Keep.of_wr W6).1
  have k7 : Keep h0 h6 [a1] := k3.wr W6 (Or.inl (List.mem_of_getElem? (i := 0) rfl))
  refine w_aloadN X6 hx hby n17_14 rfl rfl ?_
  refine w_aloadN X6 hx hby n17_15 rfl rfl ?_
  have f8 := ((O0.wr W2 g1).wr W6 g1)
  have f9 := ((El.wr W2).wr W6)
  have f10 := ((Fl.other W2 (Or.inl nl)).other W6 (Or.inl nl))
  refine w_calledp (call_S X6 hx hby hZ hown (argsL := [(.ref l1)]) (rest := [(.ref a1)]) (Wd := 1) (hw _ t_134) (hw _ t_54) (hw _ t_55) (hw _ t_56) (by decide) (rCPe l Z a0 hw d0 el ea em cn km kp kr ka ki bt mr l1 h6 W0 n0 f8 f9 f10) rfl n17_16 (by rw [hml]; rfl) (lenOf pd_98937 rfl) rfl (by decide) (by decide) (by decide) (by decide) e6) rfl rfl fun T11 X11 e11 => ?_
  have f12 := ((F_groups.other W2 (Or.inr (slot_ne (Or.inr (hw _ t_136)) (Or.inr (hw _ t_131)) (by decide) (t := (.object "java/util/List")) (t' := (.object "java/lang/String")) (by decide) (by decide)))).other W6 (Or.inr (slot_ne (Or.inr (hw _ t_136)) (Or.inr (hw _ t_133)) (by decide) (t := (.object "java/util/List")) (t' := (.object "com/example/variaform/variaform/model/feature/Feature$Type")) (by decide) (by decide))))
  have f13 := (f5.wr W6)
  refine w_putFN X11 hx hby hZ hown (hw _ t_135) Via.refl e11 f12 f13 (Or.inr ⟨(hw _ t_136), rfl, hnm⟩) (hw _ t_105) (ty := (.object "java/util/List")) (by decide) rfl rfl n17_19 fun T14 h14 X14 e14 W14 => ?_
  have P14 := f12.same W14
  have N14 := Fr.snoc X14 N6 g1
  have z15 : h0.size ≤ h14.size := Nat.le_trans z7 (Keep.of_wr W14).1
  have k15 : Keep h0 h14 [a1] := k7.wr W14 (Or.inl (List.mem_of_getElem? (i := 0) rfl))
  refine w_aloadN X14 hx hby n17_22 rfl rfl ?_
  refine w_aload X14 hx hby n17_23 rfl rfl ?_
  have f16 := (f8.wr W14 g1)
  refine w_calledp (call_S X14 hx hby hZ hown (argsL := [(.ref el)]) (rest := [(.ref a1)]) (Wd := 1) (hw _ t_134) (hw _ t_54) (hw _ t_55) (hw _ t_56) (by decide) (rCPn l Z a0 hw d0 el ea em cn km kp kr ka ki bt mr h14 W0 n0 f16) rfl n17_25 (by rw [hml]; rfl) (lenOf pd_98937 rfl) rfl (by decide) (by decide) (by decide) (by decide) e14) rfl rfl fun T17 X17 e17 => ?_
  have f18 := (((F_attributes.other W2 (Or.inr (slot_ne (Or.inr (hw _ t_146)) (Or.inr (hw _ t_131)) (by decide) (t := (.object "java/util/List")) (t' := (.object "java/lang/String")) (by decide) (by decide)))).other W6 (Or.inr (slot_ne (Or.inr (hw _ t_146)) (Or.inr (hw _ t_133)) (by decide) (t := (.object "java/util/List")) (t' := (.object "com/example/variaform/variaform/model/feature/Feature$Type")) (by decide) (by decide)))).other W14 (Or.inr (slot_ne (Or.inr (hw _ t_146)) (Or.inr (hw _ t_136)) (by decide) (t := (.object "java/util/List")) (t' := (.object "java/util/List")) (by decide) (by decide))))
  have f19 := (f13.wr W14)
  refine w_putFN X17 hx hby hZ hown (hw _ t_145) Via.refl e17 f18 f19 (Or.inr ⟨(hw _ t_146), rfl, hnm⟩) (hw _ t_105) (ty := (.object "java/util/List")) (by decide) rfl rfl n17_28 fun T20 h20 X20 e20 W20 => ?_
  have P20 := f18.same W20
  have N20 := Fr.snoc X20 N14 g1
  have z21 : h0.size ≤ h20.size := Nat.le_trans z15 (Keep.of_wr W20).1
  have k21 : Keep h0 h20 [a1] := k15.wr W20 (Or.inl (List.mem_of_getElem? (i := 0) rfl))
  refine w_aloadN X20 hx hby n17_31 rfl rfl ?_
  refine w_aload X20 hx hby n17_32 rfl rfl ?_
  have f22 := ((((F_comments.other W2 (Or.inr (slot_ne (Or.inr (hw _ t_148)) (Or.inr (hw _ t_131)) (by decide) (t := (.object "com/example/variaform/variaform/model/feature/Comments")) (t' := (.object "java/lang/String")) (by decide) (by decide)))).other W6 (Or.inr (slot_ne (Or.inr (hw _ t_148)) (Or.inr (hw _ t_133)) (by decide) (t := (.object "com/example/variaform/variaform/model/feature/Comments")) (t' := (.object "com/example/variaform/variaform/model/feature/Feature$Type")) (by decide) (by decide)))).other W14 (Or.inr (slot_ne (Or.inr (hw _ t_148)) (Or.inr (hw _ t_136)) (by decide) (t := (.object "com/example/variaform/variaform/model/feature/Comments")) (t' := (.object "java/util/List")) (by decide) (by decide)))).other W20 (Or.inr (slot_ne (Or.inr (hw _ t_148)) (Or.inr (hw _ t_146)) (by decide) (t := (.object "com/example/variaform/variaform/model/feature/Comments")) (t' := (.object "java/util/List")) (by decide) (by decide))))
  have f23 := (f19.wr W20)
  refine w_putFN X20 hx hby hZ hown (hw _ t_147) Via.refl e20 f22 f23 (Or.inr ⟨(hw _ t_148), rfl, hnm⟩) (hw _ t_105) (ty := (.object "com/example/variaform/variaform/model/feature/Comments")) (by decide) rfl rfl n17_34 fun T24 h24 X24 e24 W24 => ?_
  have P24 := f22.same W24
  have N24 := Fr.snoc X24 N20 g1
  have z25 : h0.size ≤ h24.size := Nat.le_trans z21 (Keep.of_wr W24).1
  have k25 : Keep h0 h24 [a1] := k21.wr W24 (Or.inl (List.mem_of_getElem? (i := 0) rfl))
  refine w_aloadN X24 hx hby n17_37 rfl rfl ?_
  have f26 := ((P14.other W20 (Or.inr (slot_ne (Or.inr (hw _ t_136)) (Or.inr (hw _ t_146)) (by decide) (t := (.object "java/util/List")) (t' := (.object "java/util/List")) (by decide) (by decide)))).other W24 (Or.inr (slot_ne (Or.inr (hw _ t_136)) (Or.inr (hw _ t_148)) (by decide) (t := (.object "java/util/List")) (t' := (.object "com/example/variaform/variaform/model/feature/Comments")) (by decide) (by decide))))
  refine w_getF X24 hx hby hZ hown (host := "") (Or.inl (hw _ t_135)) Via.refl e24 f26 n17_38 fun T27 X27 e27 => ?_
  have f28 := ((((((W0.eL.ext O0.2).wr W2).wr W6).wr W14).wr W20).wr W24)
  have f29 := ((f16.wr W20 g1).wr W24 g1)
  refine w_called (call_I X27 hx hby hZ hown (argsL := []) (rest := []) (Wd := 0) (x := (⟨"java/util/List", "iterator", "()Ljava/util/Iterator;"⟩ : MethodName)) (a := el) (D := "java/util/ImmutableCollections$ListN") (hw _ t_149) (hw _ t_150) (hw _ t_151) (hw _ t_152) (hw _ t_153) (hw _ t_154) (hw _ t_155) (hw _ t_144) rfl (by decide) (hw _ t_156) (hw _ t_157) f28 (rITR l Z a0 hw d0 el ea em cn km kp kr ka ki bt mr  h24 W0 n0 f29 ) rfl n17_41 (by rw [hml]; rfl) (lenOf pd_36571 rfl) rfl (by decide) (by decide) (by decide) (by decide) e27) fun v30 T30 L30 X30 Q30 => ?_
  obtain ⟨y30, rfl, n30, k30, r30_0, r30_1, r30_2⟩ := Q30
  have N30 := Fr.app N24 n30
  have z31 : h0.size ≤ T30.heap.size := Nat.le_trans z25 k30.1
  have k31 : Keep h0 T30.heap [a1] := k25.trans k30 all0
  show Wg p e below _ T30 (mkF m 46 #[.val (.ref a1), .val (.ref sn), .val (.ref bt), .val (.ref l1), .val (.ref el), .val (.ref cn), .unset, .unset, .unset, .unset] [(.ref y30)])
  refine w_astore X30 hx hby #[.val (.ref a1), .val (.ref sn), .val (.ref bt), .val (.ref l1), .val (.ref el), .val (.ref cn), .val (.ref y30), .unset, .unset, .unset] n17_46 rfl rfl ?_
  refine w_aload X30 hx hby n17_48 rfl rfl ?_
  refine w_calledp (call_I X30 hx hby hZ hown (argsL := []) (rest := []) (Wd := 0) (x := (⟨"java/util/Iterator", "hasNext", "()Z"⟩ : MethodName)) (a := y30) (D := "java/util/ImmutableCollections$ListItr") (hw _ t_183) (hw _ t_184) (hw _ t_185) (hw _ t_186) (hw _ t_187) (hw _ t_188) (hw _ t_189) (hw _ t_190) rfl (by decide) (hw _ t_160) (hw _ t_191) r30_0 (rHAS l Z a0 hw y30 T30.heap r30_1 r30_2) rfl n17_50 (by rw [hml]; rfl) (lenOf pd_1418 rfl) rfl (by decide) (by decide) (by decide) (by decide) rfl) rfl rfl fun T32 X32 e32 => ?_
  refine f_if_eq X32 hx hby n17_55 (fun q55 => ?_) (fun q55 => by exact absurd q55 (by decide))
  refine w_retV X32 hx hby e32 hlk hret n17_150 (by decide) (by decide) ?_
  have f33 := ((f23.wr W24).keep k30)
  have f34 := (((((P2.other W6 (Or.inr (slot_ne (Or.inr (hw _ t_131)) (Or.inr (hw _ t_133)) (by decide) (t := (.object "java/lang/String")) (t' := (.object "com/example/variaform/variaform/model/feature/Feature$Type")) (by decide) (by decide)))).other W14 (Or.inr (slot_ne (Or.inr (hw _ t_131)) (Or.inr (hw _ t_136)) (by decide) (t := (.object "java/lang/String")) (t' := (.object "java/util/List")) (by decide) (by decide)))).other W20 (Or.inr (slot_ne (Or.inr (hw _ t_131)) (Or.inr (hw _ t_146)) (by decide) (t := (.object "java/lang/String")) (t' := (.object "java/util/List")) (by decide) (by decide)))).other W24 (Or.inr (slot_ne (Or.inr (hw _ t_131)) (Or.inr (hw _ t_148)) (by decide) (t := (.object "java/lang/String")) (t' := (.object "com/example/variaform/variaform/model/feature/Comments")) (by decide) (by decide)))).keep k30 nin0)
  have f35 := ((((P6.other W14 (Or.inr (slot_ne (Or.inr (hw _ t_133)) (Or.inr (hw _ t_136)) (by decide) (t := (.object "com/example/variaform/variaform/model/feature/Feature$Type")) (t' := (.object "java/util/List")) (by decide) (by decide)))).other W20 (Or.inr (slot_ne (Or.inr (hw _ t_133)) (Or.inr (hw _ t_146)) (by decide) (t := (.object "com/example/variaform/variaform/model/feature/Feature$Type")) (t' := (.object "java/util/List")) (by decide) (by decide)))).other W24 (Or.inr (slot_ne (Or.inr (hw _ t_133)) (Or.inr (hw _ t_148)) (by decide) (t := (.object "com/example/variaform/variaform/model/feature/Feature$Type")) (t' := (.object "com/example/variaform/variaform/model/feature/Comments")) (by decide) (by decide)))).keep k30 nin0)
  have f36 := (f26.keep k30 nin0)
  have f37 := ((P20.other W24 (Or.inr (slot_ne (Or.inr (hw _ t_146)) (Or.inr (hw _ t_148)) (by decide) (t := (.object "java/util/List")) (t' := (.object "com/example/variaform/variaform/model/feature/Comments")) (by decide) (by decide)))).keep k30 nin0)
  have f38 := (P24.keep k30 nin0)
  exact ⟨rfl, N30, k31, f33, f34, f35, f36, f37, f38⟩
set_option maxRecDepth 65536 in
set_option maxHeartbeats 4000000 in
theorem ef_rFI4 (m : MethodId) (x0 : Addr) (x1 : Addr) (x2 : Addr) (x3 : Addr) (x4 : Addr) : entryFrame m #[(.ref x0), (.ref x1), (.ref x2), (.ref x3), (.ref x4)] 5 = mkF m 0 #[.val (.ref x0), .val (.ref x1), .val (.ref x2), .val (.ref x3), .val (.ref x4)] [] := by first | (simp [entryFrame, mkF, argsToLocals, Value.category]; done) | rfl
set_option maxRecDepth 65536 in
set_option maxHeartbeats 40000000 in
theorem rFI4 (l : Launch) (Z : State) (a0 : Array Value) (hw : ∀ d ∈ tables_1, d.before a0 Z = true) (d0 el ea em cn km kp kr ka ki bt mr : Addr) (a1 : Addr) (sn : Addr) (l1 : Addr) (h0 : Heap) (W0 : own_W Z d0 el ea em cn km kp kr ka ki bt mr) (n0 : Nat) (O0 : Old Z n0 h0) (g1 : n0 ≤ a1) (E1 : Exa Z h0 a1 "com/example/variaform/variaform/model/feature/Feature") (F_name : Fld Z h0 a1 "com/example/variaform/variaform/model/feature/Feature" "name" "Ljava/lang/String;" .null) (F_type : Fld Z h0 a1 "com/example/variaform/variaform/model/feature/Feature" "type" "Lcom/example/variaform/variaform/model/feature/Feature$Type;" .null) (F_groups : Fld Z h0 a1 "com/example/variaform/variaform/model/feature/Feature" "groups" "Ljava/util/List;" .null) (F_attributes : Fld Z h0 a1 "com/example/variaform/variaform/model/feature/Feature" "attributes" "Ljava/util/List;" .null) (F_comments : Fld Z h0 a1 "com/example/variaform/variaform/model/feature/Feature" "comments" "Lcom/example/variaform/variaform/model/feature/Comments;" .null) (El : Exa Z h0 l1 "java/util/ArrayList") (Fl : Fld Z h0 l1 "java/util/ArrayList" "size" "I" (.int (0 : Int32))) (nl : l1 ≠ a1) : Con l Z (⟨"com/example/variaform/variaform/model/feature/Feature", "<init>", "(Ljava/lang/String;Lcom/example/variaform/variaform/model/feature/Feature$Type;Ljava/util/List;Ljava/util/List;)V"⟩ : MethodName) prog_35_method_2_code 5 none ({ frames := 4, cells := 1, slots := 4, locals := 60 } : Room) #[(.ref a1), (.ref sn), (.ref bt), (.ref l1), (.ref el)] h0 (fun v h L => v = none ∧ Fr n0 L ∧ Keep h0 h [a1] ∧ Exa Z h a1 "com/example/variaform/variaform/model/feature/Feature" ∧ Fld Z h a1 "com/example/variaform/variaform/model/feature/Feature" "name" "Ljava/lang/String;" (.ref sn) ∧ Fld Z h a1 "com/example/variaform/variaform/model/feature/Feature" "type" "Lcom/example/variaform/variaform/model/feature/Feature$Type;" (.ref bt) ∧ Fld Z h a1 "com/example/variaform/variaform/model/feature/Feature" "groups" "Ljava/util/List;" (.ref el) ∧ Fld Z h a1 "com/example/variaform/variaform/model/feature/Feature" "attributes" "Ljava/util/List;" (.ref el) ∧ Fld Z h a1 "com/example/variaform/variaform/model/feature/Feature" "comments" "Lcom/example/variaform/variaform/model/feature/Comments;" (.ref cn)) := by
  refine w_body (Ls := #[.val (.ref a1), .val (.ref sn), .val (.ref bt), .val (.ref l1), .val (.ref el)]) pn_16 (fun m => ef_rFI4 m a1 sn bt l1 el) ?_
  intro p e s m below meth c T0 X0 hx hby hml hown hnm hret hlk hZ e0
  have Z0 : n0 ≤ h0.size := O0.1 ▸ O0.2.1
  refine w_aloadN X0 hx hby n16_0 rfl rfl ?_
  refine w_aloadN X0 hx hby n16_1 rfl rfl ?_
  refine w_aloadN X0 hx hby n16_2 rfl rfl ?_
  refine w_aloadN X0 hx hby n16_3 rfl rfl ?_
  refine w_aload X0 hx hby n16_4 rfl rfl ?_
  refine w_getS X0 hx hby hZ hown (host := "") (Or.inl (hw _ t_125)) Via.refl e0 (W0.sC.ext O0.2) n16_6 fun T1 X1 e1 => ?_
  refine w_called (call_N X1 hx hby hZ hown (argsL := [(.ref sn), (.ref bt), (.ref l1), (.ref el), (.ref cn)]) (rest := []) (Wd := 0) (a := a1) rfl (hw _ t_126) (hw _ t_127) (hw _ t_106) (hw _ t_128) (by decide) (rFI5 l Z a0 hw d0 el ea em cn km kp kr ka ki bt mr a1 sn l1  h0 W0 n0 O0 g1 E1 F_name F_type F_groups F_attributes F_comments El Fl nl) rfl n16_9 (by rw [hml]; rfl) (lenOf pd_1484651 rfl) rfl (by decide) (by decide) (by decide) (by decide) e1) fun v2 T2 L2 X2 Q2 => ?_
  obtain ⟨rfl, n2, k2, ea2, c2_name, c2_type, c2_groups, c2_attributes, c2_comments⟩ := Q2
  have N2 := Fr.app (Fr.nil n0) n2
  have z3 : h0.size ≤ T2.heap.size := Nat.le_trans (Nat.le_refl h0.size) k2.1
  have k3 : Keep h0 T2.heap [a1] := (Keep.refl h0 [a1]).trans k2 (allS (Or.inl (List.mem_of_getElem? (i := 0) rfl)) all0)
  show Wg p e below _ T2 (mkF m 12 #[.val (.ref a1), .val (.ref sn), .val (.ref bt), .val (.ref l1), .val (.ref el)] [])
  refine w_retV X2 hx hby rfl hlk hret n16_12 (by decide) (by decide) ?_
  exact ⟨rfl, N2, k3, ea2, c2_name, c2_type, c2_groups, c2_attributes, c2_comments⟩
set_option maxRecDepth 65536 in
set_option maxHeartbeats 4000000 in
theorem ef_rFI2 (m : MethodId) (x0 : Addr) (x1 : Addr) (x2 : Addr) : entryFrame m #[(.ref x0), (.ref x1), (.ref x2)] 3 = mkF m 0 #[.val (.ref x0), .val (.ref x1), .val (.ref x2)] [] := by first | (simp [entryFrame, mkF, argsToLocals, Value.category]; done) | rfl
set_option maxRecDepth 65536 in
set_option maxHeartbeats 40000000 in
theorem rFI2 (l : Launch) (Z : State) (a0 : Array Value) (hw : ∀ d ∈ tables_1, d.before a0 Z = true) (d0 el ea em cn km kp kr ka ki bt mr : Addr) (a1 : Addr) (sn : Addr) (l1 : Addr) (h0 : Heap) (W0 : own_W Z d0 el ea em cn km kp kr ka ki bt mr) (n0 : Nat) (O0 : Old Z n0 h0) (g1 : n0 ≤ a1) (E1 : Exa Z h0 a1 "com/example/variaform/variaform/model/feature/Feature") (F_name : Fld Z h0 a1 "com/example/variaform/variaform/model/feature/Feature" "name" "Ljava/lang/String;" .null) (F_type : Fld Z h0 a1 "com/example/variaform/variaform/model/feature/Feature" "type" "Lcom/example/variaform/variaform/model/feature/Feature$Type;" .null) (F_groups : Fld Z h0 a1 "com/example/variaform/variaform/model/feature/Feature" "groups" "Ljava/util/List;" .null) (F_attributes : Fld Z h0 a1 "com/example/variaform/variaform/model/feature/Feature" "attributes" "Ljava/util/List;" .null) (F_comments : Fld Z h0 a1 "com/example/variaform/variaform/model/feature/Feature" "comments" "Lcom/example/variaform/variaform/model/feature/Comments;" .null) (El : Exa Z h0 l1 "java/util/ArrayList") (Fl : Fld Z h0 l1 "java/util/ArrayList" "size" "I" (.int (0 : Int32))) (nl : l1 ≠ a1) : Con l Z (⟨"com/example/variaform/variaform/model/feature/Feature", "<init>", "(Ljava/lang/String;Ljava/util/List;)V"⟩ : MethodName) prog_35_method_1_code 3 none ({ frames := 5, cells := 1, slots := 4, locals := 76 } : Room) #[(.ref a1), (.ref sn), (.ref l1)] h0 (fun v h L => v = none ∧ Fr n0 L ∧ Keep h0 h [a1] ∧ Exa Z h a1 "com/example/variaform/variaform/model/feature/Feature" ∧ Fld Z h a1 "com/example/variaform/variaform/model/feature/Feature" "name" "Ljava/lang/String;" (.ref sn) ∧ Fld Z h a1 "com/example/variaform/variaform/model/feature/Feature" "type" "Lcom/example/variaform/variaform/model/feature/Feature$Type;" (.ref bt) ∧ Fld Z h a1 "com/example/variaform/variaform/model/feature/Feature" "groups" "Ljava/util/List;" (.ref el) ∧ Fld Z h a1 "com/example/variaform/variaform/model/feature/Feature" "attributes" "Ljava/util/List;" (.ref el) ∧ Fld Z h a1 "com/example/variaform/variaform/model/feature/Feature" "comments" "Lcom/example/variaform/variaform/model/feature/Comments;" (.ref cn)) := by
  refine w_body (Ls := #[.val (.ref a1), .val (.ref sn), .val (.ref l1)]) pn_15 (fun m => ef_rFI2 m a1 sn l1) ?_
  intro p e s m below meth c T0 X0 hx hby hml hown hnm hret hlk hZ e0
  have Z0 : n0 ≤ h0.size := O0.1 ▸ O0.2.1
  refine w_aloadN X0 hx hby n15_0 rfl rfl ?_
  refine w_aloadN X0 hx hby n15_1 rfl rfl ?_
  refine w_getS X0 hx hby hZ hown (host := "") (Or.inl (hw _ t_118)) Via.refl e0 (W0.sB.ext O0.2) n15_2 fun T1 X1 e1 => ?_
  refine w_aloadN X1 hx hby n15_5 rfl rfl ?_
  refine w_calledp (call_S X1 hx hby hZ hown (argsL := []) (rest := [(.ref l1), (.ref bt), (.ref sn), (.ref a1)]) (Wd := 4) (hw _ t_121) (hw _ t_79) (hw _ t_55) (hw _ t_80) (by decide) (rOF0 l Z a0 hw d0 el ea em cn km kp kr ka ki bt mr h0 W0 n0 O0) rfl n15_6 (by rw [hml]; rfl) (lenOf pd_25326 rfl) rfl (by decide) (by decide) (by decide) (by decide) e1) rfl rfl fun T2 X2 e2 => ?_
  refine w_called (call_N X2 hx hby hZ hown (argsL := [(.ref sn), (.ref bt), (.ref l1), (.ref el)]) (rest := []) (Wd := 0) (a := a1) rfl (hw _ t_122) (hw _ t_123) (hw _ t_106) (hw _ t_124) (by decide) (rFI4 l Z a0 hw d0 el ea em cn km kp kr ka ki bt mr a1 sn l1  h0 W0 n0 O0 g1 E1 F_name F_type F_groups F_attributes F_comments El Fl nl) rfl n15_9 (by rw [hml]; rfl) (lenOf pd_672520 rfl) rfl (by decide) (by decide) (by decide) (by decide) e2) fun v3 T3 L3 X3 Q3 => ?_
  obtain ⟨rfl, n3, k3, ea3, c3_name, c3_type, c3_groups, c3_attributes, c3_comments⟩ := Q3
  have N3 := Fr.app (Fr.nil n0) n3
  have z4 : h0.size ≤ T3.heap.size := Nat.le_trans (Nat.le_refl h0.size) k3.1
  have k4 : Keep h0 T3.heap [a1] := (Keep.refl h0 [a1]).trans k3 (allS (Or.inl (List.mem_of_getElem? (i := 0) rfl)) all0)
  show Wg p e below _ T3 (mkF m 12 #[.val (.ref a1), .val (.ref sn), .val (.ref l1)] [])
  refine w_retV X3 hx hby rfl hlk hret n15_12 (by decide) (by decide) ?_
  exact ⟨rfl, N3, k4, ea3, c3_name, c3_type, c3_groups, c3_attributes, c3_comments⟩
set_option maxRecDepth 65536 in
set_option maxHeartbeats 4000000 in
theorem ef_rGW1 (m : MethodId) (x0 : Addr) (x1 : Int32) : entryFrame m #[(.ref x0), (.int x1)] 4 = mkF m 0 #[.val (.ref x0), .val (.int x1), .unset, .unset] [] := by first | (simp [entryFrame, mkF, argsToLocals, Value.category]; done) | rfl
set_option maxRecDepth 65536 in
set_option maxHeartbeats 40000000 in
theorem rGW1 (l : Launch) (Z : State) (a0 : Array Value) (hw : ∀ d ∈ tables_1, d.before a0 Z = true) (d0 el ea em cn km kp kr ka ki bt mr : Addr) (a1 : Addr) (mc : Int32) (h0 : Heap) (W0 : own_W Z d0 el ea em cn km kp kr ka ki bt mr) (n0 : Nat) (O0 : Old Z n0 h0) (g1 : n0 ≤ a1) (E1 : Exa Z h0 a1 "java/util/ArrayList") (F_modCount : Fld Z h0 a1 "java/util/AbstractList" "modCount" "I" (.int mc)) (F_elementData : Fld Z h0 a1 "java/util/ArrayList" "elementData" "[Ljava/lang/Object;" (.ref d0)) (F_size : Fld Z h0 a1 "java/util/ArrayList" "size" "I" (.int (0 : Int32))) : Con l Z (⟨"java/util/ArrayList", "grow", "(I)[Ljava/lang/Object;"⟩ : MethodName) jdk_38_method_6_code 4 (some (.array (.object "java/lang/Object"))) ({ frames := 1, cells := 1, slots := 10, locals := 14 } : Room) #[(.ref a1), (.int (1 : Int32))] h0 (fun v h L => ∃ (y : Addr) (kv : ClassId), v = some (.ref y) ∧ Fr n0 L ∧ Keep h0 h [a1] ∧ Exa Z h a1 "java/util/ArrayList" ∧ Fld Z h a1 "java/util/AbstractList" "modCount" "I" (.int mc) ∧ Fld Z h a1 "java/util/ArrayList" "elementData" "[Ljava/lang/Object;" (.ref y) ∧ Fld Z h a1 "java/util/ArrayList" "size" "I" (.int (0 : Int32)) ∧ Arv Z h y kv (.object "java/lang/Object") (10 : Int32) [.null, .null, .null, .null, .null, .null, .null, .null, .null, .null] .null ∧ Exa Z h y "[Ljava/lang/Object;" ∧ Ovr Z kv "java/lang/Object" ∧ h0.size ≤ y) := by
  refine w_body (Ls := #[.val (.ref a1), .val (.int (1 : Int32)), .unset, .unset]) pn_25 (fun m => ef_rGW1 m a1 (1 : Int32)) ?_
  intro p e s m below meth c T0 X0 hx hby hml hown hnm hret hlk hZ e0
  have Z0 : n0 ≤ h0.size := O0.1 ▸ O0.2.1
  refine w_aloadN X0 hx hby n25_0 rfl rfl ?_
  refine w_getF X0 hx hby hZ hown (host := "") (Or.inl (hw _ t_24)) Via.refl e0 F_elementData n25_1 fun T1 X1 e1 => ?_
  obtain ⟨ca2, aa2, az2⟩ := W0.aD
  refine w_arraylength X1 hx hby hZ e1 (aa2.ext O0.2) az2 n25_4 ?_
  refine w_istoreN X1 hx hby #[.val (.ref a1), .val (.int (1 : Int32)), .val (.int (0 : Int32)), .unset] n25_5 rfl ?_
  refine w_iloadN X1 hx hby n25_6 rfl ?_
  refine f_if_gt X1 hx hby n25_7 (fun q7 => by exact absurd q7 (by decide)) (fun q7 => ?_)
  refine w_aloadN X1 hx hby n25_10 rfl rfl ?_
  refine w_getF X1 hx hby hZ hown (host := "") (Or.inl (hw _ t_24)) Via.refl e1 F_elementData n25_11 fun T3 X3 e3 => ?_
  refine w_getS X3 hx hby hZ hown (host := "") (Or.inl (hw _ t_23)) Via.refl e3 (W0.sD.ext O0.2) n25_14 fun T4 X4 e4 => ?_
  refine f_acmp_eq X4 hx hby n25_17 (fun q17 => ?_) (fun q17 => by exact absurd rfl q17)
  refine w_aloadN X4 hx hby n25_45 rfl rfl ?_
  refine w_bipush X4 hx hby (10 : Int32) n25_46 rfl ?_
  refine w_iloadN X4 hx hby n25_48 rfl ?_
  refine w_calledp (call_S X4 hx hby hZ hown (argsL := [(.int (10 : Int32)), (.int (1 : Int32))]) (rest := [(.ref a1)]) (Wd := 1) (hw _ t_214) (hw _ t_215) (hw _ t_216) (hw _ t_217) (by decide) (rMAX l Z a0 hw (10 : Int32) (1 : Int32) h0) rfl n25_49 (by rw [hml]; rfl) (lenOf pd_2734 rfl) rfl (by decide) (by decide) (by decide) (by decide) e4) rfl rfl fun T5 X5 e5 => ?_
  rw [show own_max (10 : Int32) (1 : Int32) = (10 : Int32) from by decide]
  refine w_newRE X5 hx hby hZ hown (hw _ t_218) (hw _ t_219) e5 n25_52 (by decide) 10 (by decide) (by decide) (by decide) (by decide) (ad := "[Ljava/lang/Object;") rfl fun T6 h6 b6 k6 g6 X6 e6 E6 A6 I6 O6 => ?_
  have ne_a1_b6 : a1 ≠ b6 := Nat.ne_of_lt (Nat.lt_of_lt_of_eq E1.lt g6.symm)
  have old_b6 : h0.size ≤ b6 := Nat.le_trans (Nat.le_refl h0.size) (Nat.le_of_eq g6.symm)
  have z7 : h0.size ≤ h6.size := Nat.le_trans (Nat.le_refl h0.size) E6.1
  have k7 : Keep h0 h6 [a1] := (Keep.refl h0 [a1]).ext E6
  have V6 : Arv Z h6 b6 k6 (.object "java/lang/Object") (10 : Int32) [.null, .null, .null, .null, .null, .null, .null, .null, .null, .null] .null := (Arv.new A6 (by decide)).pad (pad_rep [] .null 10)
  refine w_dup_x1 X6 hx hby n25_55 rfl rfl ?_
  have f8 := (F_elementData.ext E6)
  have f9 := (E1.ext E6)
  refine w_putFN X6 hx hby hZ hown (hw _ t_24) Via.refl e6 f8 f9 (Or.inl (hw _ t_25)) (hw _ t_1) (ty := (.array (.object "java/lang/Object"))) (by decide) rfl rfl n25_56 fun T10 h10 X10 e10 W10 => ?_
  have P10 := f8.same W10
  have N10 := Fr.snoc X10 (Fr.nil n0) g1
  have z11 : h0.size ≤ h10.size := Nat.le_trans z7 (Keep.of_wr W10).1
  have k11 : Keep h0 h10 [a1] := k7.wr W10 (Or.inl (List.mem_of_getElem? (i := 0) rfl))
  refine w_retA X10 hx hby e10 hlk hret rfl rfl rfl n25_59 (by decide) (by decide) ?_
  have f12 := (f9.wr W10)
  have f13 := ((F_modCount.ext E6).other W10 (Or.inr (slot_ne (Or.inl (hw _ t_22)) (Or.inl (hw _ t_25)) (by decide) (t := .int) (t' := (.array (.object "java/lang/Object"))) (by decide) (by decide))))
  have f14 := ((F_size.ext E6).other W10 (Or.inr (slot_ne (Or.inl (hw _ t_77)) (Or.inl (hw _ t_25)) (by decide) (t := .int) (t' := (.array (.object "java/lang/Object"))) (by decide) (by decide))))
  have f15 := (V6.other W10 (Ne.symm ne_a1_b6))
  have f16 := (I6.wr W10)
  exact ⟨b6, k6, rfl, N10, k11, f12, f13, P10, f14, f15, f16, O6, old_b6⟩
set_option maxRecDepth 65536 in
set_option maxHeartbeats 4000000 in
theorem ef_rGW0 (m : MethodId) (x0 : Addr) : entryFrame m #[(.ref x0)] 1 = mkF m 0 #[.val (.ref x0)] [] := by first | (simp [entryFrame, mkF, argsToLocals, Value.category]; done) | rfl
set_option maxRecDepth 65536 in
set_option maxHeartbeats 40000000 in
theorem rGW0 (l : Launch) (Z : State) (a0 : Array Value) (hw : ∀ d ∈ tables_1, d.before a0 Z = true) (d0 el ea em cn km kp kr ka ki bt mr : Addr) (a1 : Addr) (mc : Int32) (h0 : Heap) (W0 : own_W Z d0 el ea em cn km kp kr ka ki bt mr) (n0 : Nat) (O0 : Old Z n0 h0) (g1 : n0 ≤ a1) (E1 : Exa Z h0 a1 "java/util/ArrayList") (F_modCount : Fld Z h0 a1 "java/util/AbstractList" "modCount" "I" (.int mc)) (F_elementData : Fld Z h0 a1 "java/util/ArrayList" "elementData" "[Ljava/lang/Object;" (.ref d0)) (F_size : Fld Z h0 a1 "java/util/ArrayList" "size" "I" (.int (0 : Int32))) : Con l Z (⟨"java/util/ArrayList", "grow", "()[Ljava/lang/Object;"⟩ : MethodName) jdk_38_method_7_code 1 (some (.array (.object "java/lang/Object"))) ({ frames := 2, cells := 1, slots := 10, locals := 29 } : Room) #[(.ref a1)] h0 (fun v h L => ∃ (y : Addr) (kv : ClassId), v = some (.ref y) ∧ Fr n0 L ∧ Keep h0 h [a1] ∧ Exa Z h a1 "java/util/ArrayList" ∧ Fld Z h a1 "java/util/AbstractList" "modCount" "I" (.int mc) ∧ Fld Z h a1 "java/util/ArrayList" "elementData" "[Ljava/lang/Object;" (.ref y) ∧ Fld Z h a1 "java/util/ArrayList" "size" "I" (.int (0 : Int32)) ∧ Arv Z h y kv (.object "java/lang/Object") (10 : Int32) [.null, .null, .null, .null, .null, .null, .null, .null, .null, .null] .null ∧ Exa Z h y "[Ljava/lang/Object;" ∧ Ovr Z kv "java/lang/Object" ∧ h0.size ≤ y) := by
  refine w_body (Ls := #[.val (.ref a1)]) pn_24 (fun m => ef_rGW0 m a1) ?_
  intro p e s m below meth c T0 X0 hx hby hml hown hnm hret hlk hZ e0
  have Z0 : n0 ≤ h0.size := O0.1 ▸ O0.2.1
  refine w_aloadN X0 hx hby n24_0 rfl rfl ?_
  refine w_aloadN X0 hx hby n24_1 rfl rfl ?_
  refine w_getF X0 hx hby hZ hown (host := "") (Or.inl (hw _ t_76)) Via.refl e0 F_size n24_2 fun T1 X1 e1 => ?_
  refine w_iconst X1 hx hby (1 : Int32) n24_5 rfl ?_
  refine w_iadd X1 hx hby n24_6 ?_
  rw [show ((0 : Int32) + (1 : Int32)) = (1 : Int32) from by decide]
  refine w_called (call_P X1 hx hby hZ hown (argsL := [(.int (1 : Int32))]) (rest := []) (Wd := 0) (a := a1) (hw _ t_209) (hw _ t_210) (hw _ t_211) (hw _ t_1) (hw _ t_2) (hw _ t_213) (by decide) E1 (rGW1 l Z a0 hw d0 el ea em cn km kp kr ka ki bt mr a1 mc h0 W0 n0 O0 g1 E1 F_modCount F_elementData F_size) rfl n24_7 (by rw [hml]; rfl) (lenOf pd_34509 rfl) rfl (by decide) (by decide) (by decide) (by decide) e1) fun v2 T2 L2 X2 Q2 => ?_
  obtain ⟨y2, kv2, rfl, n2, k2, ea2, c2_modCount, c2_elementData, c2_size, va2, eb2, ov2, ge2⟩ := Q2
  have N2 := Fr.app (Fr.nil n0) n2
  have z3 : h0.size ≤ T2.heap.size := Nat.le_trans (Nat.le_refl h0.size) k2.1
  have k3 : Keep h0 T2.heap [a1] := (Keep.refl h0 [a1]).trans k2 (allS (Or.inl (List.mem_of_getElem? (i := 0) rfl)) all0)
  have old_y2 : h0.size ≤ y2 := Nat.le_trans (Nat.le_refl h0.size) ge2
  have ne_a1_y2 : a1 ≠ y2 := Nat.ne_of_lt (Nat.lt_of_lt_of_le E1.lt old_y2)
  show Wg p e below _ T2 (mkF m 10 #[.val (.ref a1)] [(.ref y2)])
  refine w_retA X2 hx hby rfl hlk hret rfl rfl rfl n24_10 (by decide) (by decide) ?_
  exact ⟨y2, kv2, rfl, N2, k3, ea2, c2_modCount, c2_elementData, c2_size, va2, eb2, ov2, old_y2⟩
set_option maxRecDepth 65536 in
set_option maxHeartbeats 4000000 in
theorem ef_rAD3 (m : MethodId) (x0 : Addr) (x1 : Addr) (x2 : Addr) (x3 : Int32) : entryFrame m #[(.ref x0), (.ref x1), (.ref x2), (.int x3)] 4 = mkF m 0 #[.val (.ref x0), .val (.ref x1), .val (.ref x2), .val (.int x3)] [] := by first | (simp [entryFrame, mkF, argsToLocals, Value.category]; done) | rfl
set_option maxRecDepth 65536 in
set_option maxHeartbeats 40000000 in
theorem rAD3 (l : Launch) (Z : State) (a0 : Array Value) (hw : ∀ d ∈ tables_1, d.before a0 Z = true) (d0 el ea em cn km kp kr ka ki bt mr : Addr) (a1 : Addr) (mc : Int32) (fe : Addr) (h0 : Heap) (W0 : own_W Z d0 el ea em cn km kp kr ka ki bt mr) (n0 : Nat) (O0 : Old Z n0 h0) (g1 : n0 ≤ a1) (E1 : Exa Z h0 a1 "java/util/ArrayList") (F_modCount : Fld Z h0 a1 "java/util/AbstractList" "modCount" "I" (.int mc)) (F_elementData : Fld Z h0 a1 "java/util/ArrayList" "elementData" "[Ljava/lang/Object;" (.ref d0)) (F_size : Fld Z h0 a1 "java/util/ArrayList" "size" "I" (.int (0 : Int32))) (Ef : Exa Z h0 fe "com/example/variaform/variaform/model/feature/Feature") : Con l Z (⟨"java/util/ArrayList", "add", "(Ljava/lang/Object;[Ljava/lang/Object;I)V"⟩ : MethodName) jdk_38_method_24_code 4 none ({ frames := 3, cells := 1, slots := 10, locals := 41 } : Room) #[(.ref a1), (.ref fe), (.ref d0), (.int (0 : Int32))] h0 (fun v h L => v = none ∧ Fr n0 L ∧ Keep h0 h [a1] ∧ own_lst Z h a1) := by
  refine w_body (Ls := #[.val (.ref a1), .val (.ref fe), .val (.ref d0), .val (.int (0 : Int32))]) pn_23 (fun m => ef_rAD3 m a1 fe d0 (0 : Int32)) ?_
  intro p e s m below meth c T0 X0 hx hby hml hown hnm hret hlk hZ e0
  have Z0 : n0 ≤ h0.size := O0.1 ▸ O0.2.1
  refine w_iloadN X0 hx hby n23_0 rfl ?_
  refine w_aloadN X0 hx hby n23_1 rfl rfl ?_
  obtain ⟨ca1, aa1, az1⟩ := W0.aD
  refine w_arraylength X0 hx hby hZ e0 (aa1.ext O0.2) az1 n23_2 ?_
  refine f_icmp_ne X0 hx hby n23_3 (fun q3 => by exact absurd q3 (by decide)) (fun q3 => ?_)
  refine w_aloadN X0 hx hby n23_6 rfl rfl ?_
  refine w_called (call_P X0 hx hby hZ hown (argsL := []) (rest := []) (Wd := 0) (a := a1) (hw _ t_204) (hw _ t_205) (hw _ t_206) (hw _ t_1) (hw _ t_2) (hw _ t_208) (by decide) E1 (rGW0 l Z a0 hw d0 el ea em cn km kp kr ka ki bt mr a1 mc h0 W0 n0 O0 g1 E1 F_modCount F_elementData F_size) rfl n23_7 (by rw [hml]; rfl) (lenOf pd_32129 rfl) rfl (by decide) (by decide) (by decide) (by decide) e0) fun v2 T2 L2 X2 Q2 => ?_
  obtain ⟨y2, kv2, rfl, n2, k2, ea2, c2_modCount, c2_elementData, c2_size, va2, eb2, ov2, ge2⟩ := Q2
  have N2 := Fr.app (Fr.nil n0) n2
  have z3 : h0.size ≤ T2.heap.size := Nat.le_trans (Nat.le_refl h0.size) k2.1
  have k3 : Keep h0 T2.heap [a1] := (Keep.refl h0 [a1]).trans k2 (allS (Or.inl (List.mem_of_getElem? (i := 0) rfl)) all0)
  have old_y2 : h0.size ≤ y2 := Nat.le_trans (Nat.le_refl h0.size) ge2
  have ne_a1_y2 : a1 ≠ y2 := Nat.ne_of_lt (Nat.lt_of_lt_of_le E1.lt old_y2)
  have ne_fe_y2 : fe ≠ y2 := Nat.ne_of_lt (Nat.lt_of_lt_of_le Ef.lt old_y2)
  show Wg p e below _ T2 (mkF m 10 #[.val (.ref a1), .val (.ref fe), .val (.ref d0), .val (.int (0 : Int32))] [(.ref y2)])
  refine w_astoreN X2 hx hby #[.val (.ref a1), .val (.ref fe), .val (.ref y2), .val (.int (0 : Int32))] n23_10 rfl rfl ?_
  refine w_aloadN X2 hx hby n23_11 rfl rfl ?_
  refine w_iloadN X2 hx hby n23_12 rfl ?_
  refine w_aloadN X2 hx hby n23_13 rfl rfl ?_
  obtain ⟨cl4, Ar4, qk4, Sz4, Nn4, Ha4, Gf4⟩ := id va2
  have f5 := (Ef.keep k2)
  refine w_stR X2 hx hby hZ rfl Ar4 (j := (0 : Int32)) (inb_of Sz4 ⟨by decide, by decide⟩) rfl (Sto.ofV Ar4 qk4 ov2 (Ins.of_exa f5 (hw _ t_220))) n23_14 fun T4 h4 X4 e4 W4 => ?_
  have V4 : Arv Z h4 y2 kv2 (.object "java/lang/Object") (10 : Int32) [(.ref fe), .null, .null, .null, .null, .null, .null, .null, .null, .null] .null := Arv.set Ar4 qk4 Sz4 Nn4 Ha4 Gf4 rfl W4 0 rfl (Nat.le_of_ble_eq_true rfl)
  have N4 := Fr.snoc X4 N2 (Nat.le_trans Z0 old_y2)
  have z6 : h0.size ≤ h4.size := Nat.le_trans z3 (Keep.of_wr W4).1
  have k6 : Keep h0 h4 [a1] := k3.wr W4 (Or.inr old_y2)
  refine w_aloadN X4 hx hby n23_15 rfl rfl ?_
  refine w_iloadN X4 hx hby n23_16 rfl ?_
  refine w_iconst X4 hx hby (1 : Int32) n23_17 rfl ?_
  refine w_iadd X4 hx hby n23_18 ?_
  rw [show ((0 : Int32) + (1 : Int32)) = (1 : Int32) from by decide]
  have f7 := (c2_size.other W4 (Or.inl ne_a1_y2))
  have f8 := (ea2.wr W4)
  refine w_putFN X4 hx hby hZ hown (hw _ t_76) Via.refl e4 f7 f8 (Or.inl (hw _ t_77)) (hw _ t_1) (ty := .int) (by decide) rfl rfl n23_19 fun T9 h9 X9 e9 W9 => ?_
  have P9 := f7.same W9
  have N9 := Fr.snoc X9 N4 g1
  have z10 : h0.size ≤ h9.size := Nat.le_trans z6 (Keep.of_wr W9).1
  have k10 : Keep h0 h9 [a1] := k6.wr W9 (Or.inl (List.mem_of_getElem? (i := 0) rfl))
  refine w_retV X9 hx hby e9 hlk hret n23_22 (by decide) (by decide) ?_
  have f11 := (f8.wr W9)
  have f12 := ((c2_elementData.other W4 (Or.inl ne_a1_y2)).other W9 (Or.inr (slot_ne (Or.inl (hw _ t_25)) (Or.inl (hw _ t_77)) (by decide) (t := (.array (.object "java/lang/Object"))) (t' := .int) (by decide) (by decide))))
  have f13 := (V4.other W9 (Ne.symm ne_a1_y2))
  have f14 := ((eb2.wr W4).wr W9)
  have f15 := ((f5.wr W4).wr W9)
  exact ⟨rfl, N9, k10, ⟨f11, Or.inr ⟨y2, fe, kv2, P9, f12, f13, f14, f15⟩⟩⟩
set_option maxRecDepth 65536 in
set_option maxHeartbeats 4000000 in
theorem ef_rAD1 (m : MethodId) (x0 : Addr) (x1 : Addr) : entryFrame m #[(.ref x0), (.ref x1)] 2 = mkF m 0 #[.val (.ref x0), .val (.ref x1)] [] := by first | (simp [entryFrame, mkF, argsToLocals, Value.category]; done) | rfl
set_option maxRecDepth 65536 in
set_option maxHeartbeats 40000000 in
theorem rAD1 (l : Launch) (Z : State) (a0 : Array Value) (hw : ∀ d ∈ tables_1, d.before a0 Z = true) (d0 el ea em cn km kp kr ka ki bt mr : Addr) (a1 : Addr) (mc : Int32) (fe : Addr) (h0 : Heap) (W0 : own_W Z d0 el ea em cn km kp kr ka ki bt mr) (n0 : Nat) (O0 : Old Z n0 h0) (g1 : n0 ≤ a1) (E1 : Exa Z h0 a1 "java/util/ArrayList") (F_modCount : Fld Z h0 a1 "java/util/AbstractList" "modCount" "I" (.int mc)) (F_elementData : Fld Z h0 a1 "java/util/ArrayList" "elementData" "[Ljava/lang/Object;" (.ref d0)) (F_size : Fld Z h0 a1 "java/util/ArrayList" "size" "I" (.int (0 : Int32))) (Ef : Exa Z h0 fe "com/example/variaform/variaform/model/feature/Feature") : Con l Z (⟨"java/util/ArrayList", "add", "(Ljava/lang/Object;)Z"⟩ : MethodName) jdk_38_method_25_code 2 (some .boolean) ({ frames := 4, cells := 1, slots := 10, locals := 56 } : Room) #[(.ref a1), (.ref fe)] h0 (fun v h L => v = some (.int (nar .boolean (1 : Int32))) ∧ Fr n0 L ∧ Keep h0 h [a1] ∧ own_lst Z h a1) := by
  refine w_body (Ls := #[.val (.ref a1), .val (.ref fe)]) pn_22 (fun m => ef_rAD1 m a1 fe) ?_
  intro p e s m below meth c T0 X0 hx hby hml hown hnm hret hlk hZ e0
  have Z0 : n0 ≤ h0.size := O0.1 ▸ O0.2.1
  refine w_aloadN X0 hx hby n22_0 rfl rfl ?_
  refine w_dup X0 hx hby n22_1 rfl ?_
  refine w_getF X0 hx hby hZ hown (host := "") (Or.inl (hw _ t_197)) (Via.of (hw _ t_198)) e0 F_modCount n22_2 fun T1 X1 e1 => ?_
  refine w_iconst X1 hx hby (1 : Int32) n22_5 rfl ?_
  refine w_iadd X1 hx hby n22_6 ?_
  refine w_putFN X1 hx hby hZ hown (hw _ t_197) (Via.of (hw _ t_198)) e1 F_modCount E1 (Or.inl (hw _ t_22)) (hw _ t_1) (ty := .int) (by decide) rfl rfl n22_7 fun T2 h2 X2 e2 W2 => ?_
  have P2 := F_modCount.same W2
  have N2 := Fr.snoc X2 (Fr.nil n0) g1
  have z3 : h0.size ≤ h2.size := Nat.le_trans (Nat.le_refl h0.size) (Keep.of_wr W2).1
  have k3 : Keep h0 h2 [a1] := (Keep.refl h0 [a1]).wr W2 (Or.inl (List.mem_of_getElem? (i := 0) rfl))
  refine w_aloadN X2 hx hby n22_10 rfl rfl ?_
  refine w_aloadN X2 hx hby n22_11 rfl rfl ?_
  refine w_aloadN X2 hx hby n22_12 rfl rfl ?_
  have f4 := (F_elementData.other W2 (Or.inr (slot_ne (Or.inl (hw _ t_25)) (Or.inl (hw _ t_22)) (by decide) (t := (.array (.object "java/lang/Object"))) (t' := .int) (by decide) (by decide))))
  refine w_getF X2 hx hby hZ hown (host := "") (Or.inl (hw _ t_24)) Via.refl e2 f4 n22_13 fun T5 X5 e5 => ?_
  refine w_aloadN X5 hx hby n22_16 rfl rfl ?_
  have f6 := (F_size.other W2 (Or.inr (slot_ne (Or.inl (hw _ t_77)) (Or.inl (hw _ t_22)) (by decide) (t := .int) (t' := .int) (by decide) (by decide))))
  refine w_getF X5 hx hby hZ hown (host := "") (Or.inl (hw _ t_76)) Via.refl e5 f6 n22_17 fun T7 X7 e7 => ?_
  have f8 := (E1.wr W2)
  have f9 := (O0.wr W2 g1)
  have f10 := (Ef.wr W2)
  refine w_called (call_P X7 hx hby hZ hown (argsL := [(.ref fe), (.ref d0), (.int (0 : Int32))]) (rest := []) (Wd := 0) (a := a1) (hw _ t_199) (hw _ t_200) (hw _ t_201) (hw _ t_1) (hw _ t_2) (hw _ t_203) (by decide) f8 (rAD3 l Z a0 hw d0 el ea em cn km kp kr ka ki bt mr a1 (mc + (1 : Int32)) fe h2 W0 n0 f9 g1 f8 P2 f4 f6 f10) rfl n22_20 (by rw [hml]; rfl) (lenOf pd_98223 rfl) rfl (by decide) (by decide) (by decide) (by decide) e7) fun v11 T11 L11 X11 Q11 => ?_
  obtain ⟨rfl, n11, k11, ls11⟩ := Q11
  have N11 := Fr.app N2 n11
  have z12 : h0.size ≤ T11.heap.size := Nat.le_trans z3 k11.1
  have k12 : Keep h0 T11.heap [a1] := k3.trans k11 (allS (Or.inl (List.mem_of_getElem? (i := 0) rfl)) all0)
  show Wg p e below _ T11 (mkF m 23 #[.val (.ref a1), .val (.ref fe)] [])
  refine w_iconst X11 hx hby (1 : Int32) n22_23 rfl ?_
  refine w_retN X11 hx hby rfl hlk hret (by simp) n22_24 (by decide) (by decide) ?_
  exact ⟨rfl, N11, k12, ls11⟩
set_option maxRecDepth 65536 in
set_option maxHeartbeats 40000000 in
theorem segF (l : Launch) (Z : State) (a0 : Array Value) (hw : ∀ d ∈ tables_1, d.before a0 Z = true) (d0 el ea em cn km kp kr ka ki bt mr : Addr) (x0 x1 x2 x3 : Int32) (l1 : Addr) (v5 v6 v7 : Int32) (gr kk cc : Addr) (lo up ex : Int32) (ot : Addr) (h0 : Heap) {p : Program} {e : Env} {s : State} {vm0 : Vm} {m : MethodId} {args : Array Value} {below : List Frame} {meth : Method} {c : Code} {T0 : State} {locs : List Loc} {k0 : Nat} (X0 : Stand p l e room_1 (s.setVm vm0) m args below meth c T0 locs 36 300) (hx : p.tables.exec = Jvm.exec) (hby : c.code = code) (hml : c.maxLocals = 11) (hown : (s.setVm vm0).vm.findClass "com/example/variaform/variaform/model/feature/GroupIsUpperUnboundedPinLaw" = some m.cls) (hret : meth.sig.returnType = ret) (hlk : meth.locks = false) (hZ : Z.Warmed39 (s.setVm vm0).vm) (e0 : T0.heap = h0) (hS : s.Since vm0 k0) (hk0 : k0 ≤ h0.size) (n0 : Nat) (NL : Fr n0 locs) (W0 : own_W Z d0 el ea em cn km kp kr ka ki bt mr) (O0 : Old Z n0 h0) (S1 : own_lst Z h0 ot) (Eg : Exa Z h0 gr "com/example/variaform/variaform/model/feature/Group") (Fg_kind : Fld Z h0 gr "com/example/variaform/variaform/model/feature/Group" "kind" "Lcom/example/variaform/variaform/model/feature/Group$Kind;" (.ref kk)) (Fg_lower : Fld Z h0 gr "com/example/variaform/variaform/model/feature/Group" "lower" "I" (.int lo)) (Fg_upper : Fld Z h0 gr "com/example/variaform/variaform/model/feature/Group" "upper" "I" (.int up)) (Fg_comments : Fld Z h0 gr "com/example/variaform/variaform/model/feature/Group" "comments" "Lcom/example/variaform/variaform/model/feature/Comments;" (.ref cc)) (hxx : own_un up = ex) : Wg p e below (Gw s room_1.cells room_1.slots (fun v L => v = some (.int 1) ∧ Fr n0 L)) T0 (mkF m 169 #[.val (.int x0), .val (.int x1), .val (.int x2), .val (.int x3), .val (.ref l1), .val (.int v5), .val (.int v6), .val (.int v7), .val (.ref gr), .val (.int ex), .val (.ref ot)] []) := by
  have Z0 : n0 ≤ h0.size := O0.1 ▸ O0.2.1
  refine w_aload X0 hx hby n0_169 rfl rfl ?_
  refine w_aload X0 hx hby n0_171 rfl rfl ?_
  refine w_called (call_V X0 hx hby hZ hown (argsL := [(.ref ot)]) (rest := []) (Wd := 0) (a := gr) (hw _ t_95) (hw _ t_96) (hw _ t_98) (hw _ t_97) (hw _ t_29) (hw _ t_99) (by decide) Eg (rGWC l Z a0 hw d0 el ea em cn km kp kr ka ki bt mr gr ot kk cc lo up h0 W0 n0 O0 S1 Eg Fg_kind Fg_lower Fg_upper Fg_comments) rfl n0_173 (by rw [hml]; rfl) (lenOf pd_290238 rfl) rfl (by decide) (by decide) (by decide) (by decide) e0) fun v1 T1 L1 X1 Q1 => ?_
  obtain ⟨y1, rfl, n1, k1, r1_0, r1_1, r1_2, r1_3, r1_4⟩ := Q1
  have N1 := Fr.app NL n1
  have z2 : h0.size ≤ T1.heap.size := Nat.le_trans (Nat.le_refl h0.size) k1.1
  show Wg p e below _ T1 (mkF m 176 #[.val (.int x0), .val (.int x1), .val (.int x2), .val (.int x3), .val (.ref l1), .val (.int v5), .val (.int v6), .val (.int v7), .val (.ref gr), .val (.int ex), .val (.ref ot)] [(.ref y1)])
  refine w_astore X1 hx hby #[.val (.int x0), .val (.int x1), .val (.int x2), .val (.int x3), .val (.ref l1), .val (.int v5), .val (.int v6), .val (.int v7), .val (.ref y1), .val (.int ex), .val (.ref ot)] n0_176 rfl rfl ?_
  refine w_aload X1 hx hby n0_178 rfl rfl ?_
  refine w_calledp (call_V X1 hx hby hZ hown (argsL := []) (rest := []) (Wd := 0) (a := y1) (hw _ t_88) (hw _ t_89) (hw _ t_91) (hw _ t_90) (hw _ t_29) (hw _ t_92) (by decide) r1_0 (rGUU l Z a0 hw y1 up T1.heap r1_3) rfl n0_180 (by rw [hml]; rfl) (lenOf pd_1418 rfl) rfl (by decide) (by decide) (by decide) (by decide) rfl) rfl rfl fun T3 X3 e3 => ?_
  refine w_iload X3 hx hby n0_183 rfl ?_
  refine f_icmp_ne X3 hx hby n0_185 (fun q185 => by exact absurd hxx q185) (fun q185 => ?_)
  refine w_iconst X3 hx hby (1 : Int32) n0_188 rfl ?_
  refine w_goto X3 hx hby n0_189 ?_
  refine Gw.of hS ?_
  refine w_retN X3 hx hby e3 hlk hret (by simp) n0_193 (by decide) (by decide) ?_
  exact ⟨⟨rfl, N1⟩, Nat.le_trans hk0 z2⟩
set_option maxRecDepth 65536 in
set_option maxHeartbeats 40000000 in
theorem segE (l : Launch) (Z : State) (a0 : Array Value) (hw : ∀ d ∈ tables_1, d.before a0 Z = true) (d0 el ea em cn km kp kr ka ki bt mr : Addr) (x0 x1 x2 x3 : Int32) (l1 : Addr) (v5 v6 v7 : Int32) (gr kk cc : Addr) (lo up ex : Int32) (ot fe sn : Addr) (h0 : Heap) {p : Program} {e : Env} {s : State} {vm0 : Vm} {m : MethodId} {args : Array Value} {below : List Frame} {meth : Method} {c : Code} {T0 : State} {locs : List Loc} {k0 : Nat} (X0 : Stand p l e room_1 (s.setVm vm0) m args below meth c T0 locs 30 250) (hx : p.tables.exec = Jvm.exec) (hby : c.code = code) (hml : c.maxLocals = 11) (hown : (s.setVm vm0).vm.findClass "com/example/variaform/variaform/model/feature/GroupIsUpperUnboundedPinLaw" = some m.cls) (hret : meth.sig.returnType = ret) (hlk : meth.locks = false) (hZ : Z.Warmed39 (s.setVm vm0).vm) (e0 : T0.heap = h0) (hS : s.Since vm0 k0) (hk0 : k0 ≤ h0.size) (n0 : Nat) (NL : Fr n0 locs) (W0 : own_W Z d0 el ea em cn km kp kr ka ki bt mr) (O0 : Old Z n0 h0) (Ea : Exa Z h0 ot "java/util/ArrayList") (F_modCount : Fld Z h0 ot "java/util/AbstractList" "modCount" "I" (.int (0 : Int32))) (F_elementData : Fld Z h0 ot "java/util/ArrayList" "elementData" "[Ljava/lang/Object;" (.ref d0)) (F_size : Fld Z h0 ot "java/util/ArrayList" "size" "I" (.int (0 : Int32))) (Ef : Exa Z h0 fe "com/example/variaform/variaform/model/feature/Feature") (H_name : Fld Z h0 fe "com/example/variaform/variaform/model/feature/Feature" "name" "Ljava/lang/String;" .null) (H_type : Fld Z h0 fe "com/example/variaform/variaform/model/feature/Feature" "type" "Lcom/example/variaform/variaform/model/feature/Feature$Type;" .null) (H_groups : Fld Z h0 fe "com/example/variaform/variaform/model/feature/Feature" "groups" "Ljava/util/List;" .null) (H_attributes : Fld Z h0 fe "com/example/variaform/variaform/model/feature/Feature" "attributes" "Ljava/util/List;" .null) (H_comments : Fld Z h0 fe "com/example/variaform/variaform/model/feature/Feature" "comments" "Lcom/example/variaform/variaform/model/feature/Comments;" .null) (nlf : ot ≠ fe) (gl : n0 ≤ ot) (gf : n0 ≤ fe) (Eg : Exa Z h0 gr "com/example/variaform/variaform/model/feature/Group") (Fg_kind : Fld Z h0 gr "com/example/variaform/variaform/model/feature/Group" "kind" "Lcom/example/variaform/variaform/model/feature/Group$Kind;" (.ref kk)) (Fg_lower : Fld Z h0 gr "com/example/variaform/variaform/model/feature/Group" "lower" "I" (.int lo)) (Fg_upper : Fld Z h0 gr "com/example/variaform/variaform/model/feature/Group" "upper" "I" (.int up)) (Fg_comments : Fld Z h0 gr "com/example/variaform/variaform/model/feature/Group" "comments" "Lcom/example/variaform/variaform/model/feature/Comments;" (.ref cc)) (hxx : own_un up = ex) (ngo : gr ≠ ot) (ngf : gr ≠ fe) : Wg p e below (Gw s room_1.cells room_1.slots (fun v L => v = some (.int 1) ∧ Fr n0 L)) T0 (mkF m 155 #[.val (.int x0), .val (.int x1), .val (.int x2), .val (.int x3), .val (.ref l1), .val (.int v5), .val (.int v6), .val (.int v7), .val (.ref gr), .val (.int ex), .val (.ref ot)] [(.ref sn), (.ref fe), (.ref fe), (.ref ot)]) := by
  have Z0 : n0 ≤ h0.size := O0.1 ▸ O0.2.1
  refine w_newO X0 hx hby hZ hown (hw _ t_0) (hw _ t_1) (hw _ t_2) e0 n0_155 (by decide) (by decide) fun T1 h1 b1 g1 X1 e1 E1 A1 D1 => ?_
  have ne_ot_b1 : ot ≠ b1 := Nat.ne_of_lt (Nat.lt_of_lt_of_eq Ea.lt g1.symm)
  have ne_fe_b1 : fe ≠ b1 := Nat.ne_of_lt (Nat.lt_of_lt_of_eq Ef.lt g1.symm)
  have ne_gr_b1 : gr ≠ b1 := Nat.ne_of_lt (Nat.lt_of_lt_of_eq Eg.lt g1.symm)
  have old_b1 : h0.size ≤ b1 := Nat.le_trans (Nat.le_refl h0.size) (Nat.le_of_eq g1.symm)
  have z2 : h0.size ≤ h1.size := Nat.le_trans (Nat.le_refl h0.size) E1.1
  have F1_modCount : Fld Z h1 b1 "java/util/AbstractList" "modCount" "I" (.int (0 : Int32)) := D1 (Or.inl (hw _ t_22)) (ty := .int) (by decide)
  have F1_elementData : Fld Z h1 b1 "java/util/ArrayList" "elementData" "[Ljava/lang/Object;" .null := D1 (Or.inl (hw _ t_25)) (ty := (.array (.object "java/lang/Object"))) (by decide)
  have F1_size : Fld Z h1 b1 "java/util/ArrayList" "size" "I" (.int (0 : Int32)) := D1 (Or.inl (hw _ t_77)) (ty := .int) (by decide)
  refine w_dup X1 hx hby n0_158 rfl ?_
  have f3 := (O0.ext E1)
  refine w_called (call_N X1 hx hby hZ hown (argsL := []) (rest := [(.ref b1), (.ref sn), (.ref fe), (.ref fe), (.ref ot)]) (Wd := 5) (a := b1) rfl (hw _ t_3) (hw _ t_4) (hw _ t_2) (hw _ t_5) (by decide) (rALI l Z a0 hw d0 el ea em cn km kp kr ka ki bt mr b1   h1 W0 n0 f3 (Nat.le_trans Z0 old_b1) A1 F1_modCount F1_elementData F1_size ) rfl n0_159 (by rw [hml]; rfl) (lenOf pd_1382 rfl) rfl (by decide) (by decide) (by decide) (by decide) e1) fun v4 T4 L4 X4 Q4 => ?_
  obtain ⟨rfl, n4, k4, ea4, c4_modCount, c4_elementData, c4_size⟩ := Q4
  have N4 := Fr.app NL n4
  have z5 : h0.size ≤ T4.heap.size := Nat.le_trans z2 k4.1
  show Wg p e below _ T4 (mkF m 162 #[.val (.int x0), .val (.int x1), .val (.int x2), .val (.int x3), .val (.ref l1), .val (.int v5), .val (.int v6), .val (.int v7), .val (.ref gr), .val (.int ex), .val (.ref ot)] [(.ref b1), (.ref sn), (.ref fe), (.ref fe), (.ref ot)])
  have f6 := ((Ef.ext E1).keep k4)
  have f7 := ((H_name.ext E1).keep k4 (ninS ne_fe_b1 nin0))
  have f8 := ((H_type.ext E1).keep k4 (ninS ne_fe_b1 nin0))
  have f9 := ((H_groups.ext E1).keep k4 (ninS ne_fe_b1 nin0))
  have f10 := ((H_attributes.ext E1).keep k4 (ninS ne_fe_b1 nin0))
  have f11 := ((H_comments.ext E1).keep k4 (ninS ne_fe_b1 nin0))
  have f12 := (f3.keep k4 (allS (Nat.le_trans Z0 old_b1) all0))
  refine w_called (call_N X4 hx hby hZ hown (argsL := [(.ref sn), (.ref b1)]) (rest := [(.ref fe), (.ref ot)]) (Wd := 2) (a := fe) rfl (hw _ t_115) (hw _ t_116) (hw _ t_106) (hw _ t_117) (by decide) (rFI2 l Z a0 hw d0 el ea em cn km kp kr ka ki bt mr fe sn b1  T4.heap W0 n0 f12 gf f6 f7 f8 f9 f10 f11 ea4 c4_size (Ne.symm ne_fe_b1)) rfl n0_162 (by rw [hml]; rfl) (lenOf pd_84010 rfl) rfl (by decide) (by decide) (by decide) (by decide) rfl) fun v13 T13 L13 X13 Q13 => ?_
  obtain ⟨rfl, n13, k13, ea13, c13_name, c13_type, c13_groups, c13_attributes, c13_comments⟩ := Q13
  have N13 := Fr.app N4 n13
  have z14 : h0.size ≤ T13.heap.size := Nat.le_trans z5 k13.1
  show Wg p e below _ T13 (mkF m 165 #[.val (.int x0), .val (.int x1), .val (.int x2), .val (.int x3), .val (.ref l1), .val (.int v5), .val (.int v6), .val (.int v7), .val (.ref gr), .val (.int ex), .val (.ref ot)] [(.ref fe), (.ref ot)])
  have f15 := (((Ea.ext E1).keep k4).keep k13)
  have f16 := (((F_modCount.ext E1).keep k4 (ninS ne_ot_b1 nin0)).keep k13 (ninS nlf nin0))
  have f17 := (((F_elementData.ext E1).keep k4 (ninS ne_ot_b1 nin0)).keep k13 (ninS nlf nin0))
  have f18 := (((F_size.ext E1).keep k4 (ninS ne_ot_b1 nin0)).keep k13 (ninS nlf nin0))
  have f19 := (f12.keep k13 (allS gf all0))
  refine w_called (call_V X13 hx hby hZ hown (argsL := [(.ref fe)]) (rest := []) (Wd := 0) (a := ot) (hw _ t_192) (hw _ t_193) (hw _ t_195) (hw _ t_194) (hw _ t_2) (hw _ t_196) (by decide) f15 (rAD1 l Z a0 hw d0 el ea em cn km kp kr ka ki bt mr ot (0 : Int32) fe T13.heap W0 n0 f19 gl f15 f16 f17 f18 ea13) rfl n0_165 (by rw [hml]; rfl) (lenOf pd_31150 rfl) rfl (by decide) (by decide) (by decide) (by decide) rfl) fun v20 T20 L20 X20 Q20 => ?_
  obtain ⟨rfl, n20, k20, ls20⟩ := Q20
  have N20 := Fr.app N13 n20
  have z21 : h0.size ≤ T20.heap.size := Nat.le_trans z14 k20.1
  show Wg p e below _ T20 (mkF m 168 #[.val (.int x0), .val (.int x1), .val (.int x2), .val (.int x3), .val (.ref l1), .val (.int v5), .val (.int v6), .val (.int v7), .val (.ref gr), .val (.int ex), .val (.ref ot)] [(.int (nar .boolean (1 : Int32)))])
  refine w_pop X20 hx hby n0_168 rfl ?_
  have f22 := ((((Eg.ext E1).keep k4).keep k13).keep k20)
  have f23 := ((((Fg_kind.ext E1).keep k4 (ninS ne_gr_b1 nin0)).keep k13 (ninS ngf nin0)).keep k20 (ninS ngo nin0))
  have f24 := ((((Fg_lower.ext E1).keep k4 (ninS ne_gr_b1 nin0)).keep k13 (ninS ngf nin0)).keep k20 (ninS ngo nin0))
  have f25 := ((((Fg_upper.ext E1).keep k4 (ninS ne_gr_b1 nin0)).keep k13 (ninS ngf nin0)).keep k20 (ninS ngo nin0))
  have f26 := ((((Fg_comments.ext E1).keep k4 (ninS ne_gr_b1 nin0)).keep k13 (ninS ngf nin0)).keep k20 (ninS ngo nin0))
  have f27 := (f19.keep k20 (allS gl all0))
  exact segF l Z a0 hw d0 el ea em cn km kp kr ka ki bt mr x0 x1 x2 x3 l1 v5 v6 v7 gr kk cc lo up ex ot T20.heap (X20.mono (by decide) (by decide)) hx hby hml hown hret hlk hZ rfl hS (Nat.le_trans hk0 z21) n0 N20 W0 f27 ls20 f22 f23 f24 f25 f26 hxx
set_option maxRecDepth 65536 in
set_option maxHeartbeats 40000000 in
theorem segC (l : Launch) (Z : State) (a0 : Array Value) (hw : ∀ d ∈ tables_1, d.before a0 Z = true) (d0 el ea em cn km kp kr ka ki bt mr : Addr) (x0 x1 x2 x3 : Int32) (l1 : Addr) (v5 v6 v7 : Int32) (gr kk cc : Addr) (lo up ex : Int32) (h0 : Heap) {p : Program} {e : Env} {s : State} {vm0 : Vm} {m : MethodId} {args : Array Value} {below : List Frame} {meth : Method} {c : Code} {T0 : State} {locs : List Loc} {k0 : Nat} (X0 : Stand p l e room_1 (s.setVm vm0) m args below meth c T0 locs 24 200) (hx : p.tables.exec = Jvm.exec) (hby : c.code = code) (hml : c.maxLocals = 11) (hown : (s.setVm vm0).vm.findClass "com/example/variaform/variaform/model/feature/GroupIsUpperUnboundedPinLaw" = some m.cls) (hret : meth.sig.returnType = ret) (hlk : meth.locks = false) (hZ : Z.Warmed39 (s.setVm vm0).vm) (e0 : T0.heap = h0) (hS : s.Since vm0 k0) (hk0 : k0 ≤ h0.size) (n0 : Nat) (NL : Fr n0 locs) (W0 : own_W Z d0 el ea em cn km kp kr ka ki bt mr) (O0 : Old Z n0 h0) (Eg : Exa Z h0 gr "com/example/variaform/variaform/model/feature/Group") (Fg_kind : Fld Z h0 gr "com/example/variaform/variaform/model/feature/Group" "kind" "Lcom/example/variaform/variaform/model/feature/Group$Kind;" (.ref kk)) (Fg_lower : Fld Z h0 gr "com/example/variaform/variaform/model/feature/Group" "lower" "I" (.int lo)) (Fg_upper : Fld Z h0 gr "com/example/variaform/variaform/model/feature/Group" "upper" "I" (.int up)) (Fg_comments : Fld Z h0 gr "com/example/variaform/variaform/model/feature/Group" "comments" "Lcom/example/variaform/variaform/model/feature/Comments;" (.ref cc)) (hxx : own_un up = ex) : Wg p e below (Gw s room_1.cells room_1.slots (fun v L => v = some (.int 1) ∧ Fr n0 L)) T0 (mkF m 124 #[.val (.int x0), .val (.int x1), .val (.int x2), .val (.int x3), .val (.ref l1), .val (.int v5), .val (.int v6), .val (.int v7), .val (.ref gr), .val (.int ex), .unset] []) := by
  have Z0 : n0 ≤ h0.size := O0.1 ▸ O0.2.1
  refine w_iloadN X0 hx hby n0_124 rfl ?_
  refine w_bipush X0 hx hby (8 : Int32) n0_125 rfl ?_
  refine w_iand X0 hx hby n0_127 ?_
  refine f_if_eq X0 hx hby n0_128 (fun q128 => ?_) (fun q128 => ?_)
  · refine w_aload X0 hx hby n0_178 rfl rfl ?_
    refine w_calledp (call_V X0 hx hby hZ hown (argsL := []) (rest := []) (Wd := 0) (a := gr) (hw _ t_88) (hw _ t_89) (hw _ t_91) (hw _ t_90) (hw _ t_29) (hw _ t_92) (by decide) Eg (rGUU l Z a0 hw gr up h0 Fg_upper) rfl n0_180 (by rw [hml]; rfl) (lenOf pd_1418 rfl) rfl (by decide) (by decide) (by decide) (by decide) e0) rfl rfl fun T1 X1 e1 => ?_
    refine w_iload X1 hx hby n0_183 rfl ?_
    refine f_icmp_ne X1 hx hby n0_185 (fun q185 => by exact absurd hxx q185) (fun q185 => ?_)
    refine w_iconst X1 hx hby (1 : Int32) n0_188 rfl ?_
    refine w_goto X1 hx hby n0_189 ?_
    refine Gw.of hS ?_
    refine w_retN X1 hx hby e1 hlk hret (by simp) n0_193 (by decide) (by decide) ?_
    exact ⟨⟨rfl, NL⟩, Nat.le_trans hk0 (Nat.le_refl h0.size)⟩
  · refine w_newO X0 hx hby hZ hown (hw _ t_0) (hw _ t_1) (hw _ t_2) e0 n0_131 (by decide) (by decide) fun T2 h2 b2 g2 X2 e2 E2 A2 D2 => ?_
    have ne_gr_b2 : gr ≠ b2 := Nat.ne_of_lt (Nat.lt_of_lt_of_eq Eg.lt g2.symm)
    have old_b2 : h0.size ≤ b2 := Nat.le_trans (Nat.le_refl h0.size) (Nat.le_of_eq g2.symm)
    have z3 : h0.size ≤ h2.size := Nat.le_trans (Nat.le_refl h0.size) E2.1
    have F2_modCount : Fld Z h2 b2 "java/util/AbstractList" "modCount" "I" (.int (0 : Int32)) := D2 (Or.inl (hw _ t_22)) (ty := .int) (by decide)
    have F2_elementData : Fld Z h2 b2 "java/util/ArrayList" "elementData" "[Ljava/lang/Object;" .null := D2 (Or.inl (hw _ t_25)) (ty := (.array (.object "java/lang/Object"))) (by decide)
    have F2_size : Fld Z h2 b2 "java/util/ArrayList" "size" "I" (.int (0 : Int32)) := D2 (Or.inl (hw _ t_77)) (ty := .int) (by decide)
    refine w_dup X2 hx hby n0_134 rfl ?_
    have f4 := (O0.ext E2)
    refine w_called (call_N X2 hx hby hZ hown (argsL := []) (rest := [(.ref b2)]) (Wd := 1) (a := b2) rfl (hw _ t_3) (hw _ t_4) (hw _ t_2) (hw _ t_5) (by decide) (rALI l Z a0 hw d0 el ea em cn km kp kr ka ki bt mr b2   h2 W0 n0 f4 (Nat.le_trans Z0 old_b2) A2 F2_modCount F2_elementData F2_size ) rfl n0_135 (by rw [hml]; rfl) (lenOf pd_1382 rfl) rfl (by decide) (by decide) (by decide) (by decide) e2) fun v5 T5 L5 X5 Q5 => ?_
    obtain ⟨rfl, n5, k5, ea5, c5_modCount, c5_elementData, c5_size⟩ := Q5
    have N5 := Fr.app NL n5
    have z6 : h0.size ≤ T5.heap.size := Nat.le_trans z3 k5.1
    show Wg p e below _ T5 (mkF m 138 #[.val (.int x0), .val (.int x1), .val (.int x2), .val (.int x3), .val (.ref l1), .val (.int v5), .val (.int v6), .val (.int v7), .val (.ref gr), .val (.int ex), .unset] [(.ref b2)])
    refine w_astore X5 hx hby #[.val (.int x0), .val (.int x1), .val (.int x2), .val (.int x3), .val (.ref l1), .val (.int v5), .val (.int v6), .val (.int v7), .val (.ref gr), .val (.int ex), .val (.ref b2)] n0_138 rfl rfl ?_
    refine w_iloadN X5 hx hby n0_140 rfl ?_
    refine w_bipush X5 hx hby (16 : Int32) n0_141 rfl ?_
    refine w_iand X5 hx hby n0_143 ?_
    refine f_if_eq X5 hx hby n0_144 (fun q144 => ?_) (fun q144 => ?_)
    · have f7 := ((Eg.ext E2).keep k5)
      have f8 := ((Fg_kind.ext E2).keep k5 (ninS ne_gr_b2 nin0))
      have f9 := ((Fg_lower.ext E2).keep k5 (ninS ne_gr_b2 nin0))
      have f10 := ((Fg_upper.ext E2).keep k5 (ninS ne_gr_b2 nin0))
      have f11 := ((Fg_comments.ext E2).keep k5 (ninS ne_gr_b2 nin0))
      have f12 := (f4.keep k5 (allS (Nat.le_trans Z0 old_b2) all0))
      exact segF l Z a0 hw d0 el ea em cn km kp kr ka ki bt mr x0 x1 x2 x3 l1 v5 v6 v7 gr kk cc lo up ex b2 T5.heap (X5.mono (by decide) (by decide)) hx hby hml hown hret hlk hZ rfl hS (Nat.le_trans hk0 z6) n0 N5 W0 f12 ⟨ea5, Or.inl c5_size⟩ f7 f8 f9 f10 f11 hxx
    · refine w_aload X5 hx hby n0_147 rfl rfl ?_
      refine w_newO X5 hx hby hZ hown (hw _ t_104) (hw _ t_105) (hw _ t_106) rfl n0_149 (by decide) (by decide) fun T13 h13 b13 g13 X13 e13 E13 A13 D13 => ?_
      have f14 := ((Eg.ext E2).keep k5)
      have ne_gr_b13 : gr ≠ b13 := Nat.ne_of_lt (Nat.lt_of_lt_of_eq f14.lt g13.symm)
      have ne_b2_b13 : b2 ≠ b13 := Nat.ne_of_lt (Nat.lt_of_lt_of_eq ea5.lt g13.symm)
      have old_b13 : h0.size ≤ b13 := Nat.le_trans z6 (Nat.le_of_eq g13.symm)
      have z15 : h0.size ≤ h13.size := Nat.le_trans z6 E13.1
      have F13_name : Fld Z h13 b13 "com/example/variaform/variaform/model/feature/Feature" "name" "Ljava/lang/String;" .null := D13 (Or.inr (hw _ t_131)) (ty := (.object "java/lang/String")) (by decide)
      have F13_type : Fld Z h13 b13 "com/example/variaform/variaform/model/feature/Feature" "type" "Lcom/example/variaform/variaform/model/feature/Feature$Type;" .null := D13 (Or.inr (hw _ t_133)) (ty := (.object "com/example/variaform/variaform/model/feature/Feature$Type")) (by decide)
      have F13_groups : Fld Z h13 b13 "com/example/variaform/variaform/model/feature/Feature" "groups" "Ljava/util/List;" .null := D13 (Or.inr (hw _ t_136)) (ty := (.object "java/util/List")) (by decide)
      have F13_attributes : Fld Z h13 b13 "com/example/variaform/variaform/model/feature/Feature" "attributes" "Ljava/util/List;" .null := D13 (Or.inr (hw _ t_146)) (ty := (.object "java/util/List")) (by decide)
      have F13_comments : Fld Z h13 b13 "com/example/variaform/variaform/model/feature/Feature" "comments" "Lcom/example/variaform/variaform/model/feature/Comments;" .null := D13 (Or.inr (hw _ t_148)) (ty := (.object "com/example/variaform/variaform/model/feature/Comments")) (by decide)
      have F13_parent : Fld Z h13 b13 "com/example/variaform/variaform/model/feature/Feature" "parent" "Lcom/example/variaform/variaform/model/feature/Feature;" .null := D13 (Or.inl (hw _ t_295)) (ty := (.object "com/example/variaform/variaform/model/feature/Feature")) (by decide)
      refine w_dup X13 hx hby n0_152 rfl ?_
      refine w_ldcS X13 hx hby hZ hown (hw _ t_287) (fun d hd => hw d (own_sa d hd)) e13 hS (Nat.le_trans hk0 z15) n0_153 4 (by decide) (by decide) (by decide) (by decide) fun sn T16 h16 k16 X16 e16 E16 hS hk1 hZ hown => ?_
      have z17 : h0.size ≤ h16.size := Nat.le_trans z15 E16.1
      have f18 := ((ea5.ext E13).ext E16)
      have f19 := ((c5_modCount.ext E13).ext E16)
      have f20 := ((c5_elementData.ext E13).ext E16)
      have f21 := ((c5_size.ext E13).ext E16)
      have f22 := (A13.ext E16)
      have f23 := (F13_name.ext E16)
      have f24 := (F13_type.ext E16)
      have f25 := (F13_groups.ext E16)
      have f26 := (F13_attributes.ext E16)
      have f27 := (F13_comments.ext E16)
      have f28 := ((f14.ext E13).ext E16)
      have f29 := ((((Fg_kind.ext E2).keep k5 (ninS ne_gr_b2 nin0)).ext E13).ext E16)
      have f30 := ((((Fg_lower.ext E2).keep k5 (ninS ne_gr_b2 nin0)).ext E13).ext E16)
      have f31 := ((((Fg_upper.ext E2).keep k5 (ninS ne_gr_b2 nin0)).ext E13).ext E16)
      have f32 := ((((Fg_comments.ext E2).keep k5 (ninS ne_gr_b2 nin0)).ext E13).ext E16)
      have f33 := (((f4.keep k5 (allS (Nat.le_trans Z0 old_b2) all0)).ext E13).ext E16)
      exact segE l Z a0 hw d0 el ea em cn km kp kr ka ki bt mr x0 x1 x2 x3 l1 v5 v6 v7 gr kk cc lo up ex b2 b13 sn h16 (X16.mono (by decide) (by decide)) hx hby hml hown hret hlk hZ e16 hS hk1 n0 N5 W0 f33 f18 f19 f20 f21 f22 f23 f24 f25 f26 f27 ne_b2_b13 (Nat.le_trans Z0 old_b2) (Nat.le_trans Z0 old_b13) f28 f29 f30 f31 f32 hxx ne_gr_b2 ne_gr_b13
set_option maxRecDepth 65536 in
set_option maxHeartbeats 40000000 in
theorem segB (l : Launch) (Z : State) (a0 : Array Value) (hw : ∀ d ∈ tables_1, d.before a0 Z = true) (d0 el ea em cn km kp kr ka ki bt mr : Addr) (x0 x1 x2 x3 : Int32) (l1 : Addr) (h0 : Heap) {p : Program} {e : Env} {s : State} {vm0 : Vm} {m : MethodId} {args : Array Value} {below : List Frame} {meth : Method} {c : Code} {T0 : State} {locs : List Loc} {k0 : Nat} (X0 : Stand p l e room_1 (s.setVm vm0) m args below meth c T0 locs 14 120) (hx : p.tables.exec = Jvm.exec) (hby : c.code = code) (hml : c.maxLocals = 11) (hown : (s.setVm vm0).vm.findClass "com/example/variaform/variaform/model/feature/GroupIsUpperUnboundedPinLaw" = some m.cls) (hret : meth.sig.returnType = ret) (hlk : meth.locks = false) (hZ : Z.Warmed39 (s.setVm vm0).vm) (e0 : T0.heap = h0) (hS : s.Since vm0 k0) (hk0 : k0 ≤ h0.size) (n0 : Nat) (NL : Fr n0 locs) (W0 : own_W Z d0 el ea em cn km kp kr ka ki bt mr) (O0 : Old Z n0 h0) (S1 : own_lst Z h0 l1) : Wg p e below (Gw s room_1.cells room_1.slots (fun v L => v = some (.int 1) ∧ Fr n0 L)) T0 (mkF m 37 #[.val (.int x0), .val (.int x1), .val (.int x2), .val (.int x3), .val (.ref l1), .unset, .unset, .unset, .unset, .unset, .unset] []) := by
  have Z0 : n0 ≤ h0.size := O0.1 ▸ O0.2.1
  refine w_iloadN X0 hx hby n0_37 rfl ?_
  refine w_ldcI X0 hx hby hZ hown (hw _ t_26) n0_38 ?_
  refine w_iand X0 hx hby n0_40 ?_
  refine w_istore X0 hx hby #[.val (.int x0), .val (.int x1), .val (.int x2), .val (.int x3), .val (.ref l1), .val (.int (x1 &&& (2147483647 : Int32))), .unset, .unset, .unset, .unset, .unset] n0_41 rfl ?_
  refine w_iloadN X0 hx hby n0_43 rfl ?_
  refine w_ldcI X0 hx hby hZ hown (hw _ t_26) n0_44 ?_
  refine w_iand X0 hx hby n0_46 ?_
  refine w_istore X0 hx hby #[.val (.int x0), .val (.int x1), .val (.int x2), .val (.int x3), .val (.ref l1), .val (.int (x1 &&& (2147483647 : Int32))), .val (.int (x2 &&& (2147483647 : Int32))), .unset, .unset, .unset, .unset] n0_47 rfl ?_
  refine w_iloadN X0 hx hby n0_49 rfl ?_
  refine w_ldcI X0 hx hby hZ hown (hw _ t_26) n0_50 ?_
  refine w_iand X0 hx hby n0_52 ?_
  refine w_iconst X0 hx hby (3 : Int32) n0_53 rfl ?_
  refine w_irem X0 hx hby n0_54 (by decide) ?_
  refine w_istore X0 hx hby #[.val (.int x0), .val (.int x1), .val (.int x2), .val (.int x3), .val (.ref l1), .val (.int (x1 &&& (2147483647 : Int32))), .val (.int (x2 &&& (2147483647 : Int32))), .val (.int ((x0 &&& (2147483647 : Int32)) % (3 : Int32))), .unset, .unset, .unset] n0_55 rfl ?_
  refine w_iload X0 hx hby n0_57 rfl ?_
  refine f_if_ne X0 hx hby n0_59 (fun q59 => ?_) (fun q59 => ?_)
  · refine w_iload X0 hx hby n0_85 rfl ?_
    refine w_iconst X0 hx hby (1 : Int32) n0_87 rfl ?_
    refine f_icmp_ne X0 hx hby n0_88 (fun q88 => ?_) (fun q88 => ?_)
    · refine w_newO X0 hx hby hZ hown (hw _ t_27) (hw _ t_28) (hw _ t_29) e0 n0_106 (by decide) (by decide) fun T1 h1 b1 g1 X1 e1 E1 A1 D1 => ?_
      have old_b1 : h0.size ≤ b1 := Nat.le_trans (Nat.le_refl h0.size) (Nat.le_of_eq g1.symm)
      have z2 : h0.size ≤ h1.size := Nat.le_trans (Nat.le_refl h0.size) E1.1
      have k2 : Keep h0 h1 [] := (Keep.refl h0 []).ext E1
      have F1_kind : Fld Z h1 b1 "com/example/variaform/variaform/model/feature/Group" "kind" "Lcom/example/variaform/variaform/model/feature/Group$Kind;" .null := D1 (Or.inr (hw _ t_48)) (ty := (.object "com/example/variaform/variaform/model/feature/Group$Kind")) (by decide)
      have F1_lower : Fld Z h1 b1 "com/example/variaform/variaform/model/feature/Group" "lower" "I" (.int (0 : Int32)) := D1 (Or.inr (hw _ t_50)) (ty := .int) (by decide)
      have F1_upper : Fld Z h1 b1 "com/example/variaform/variaform/model/feature/Group" "upper" "I" (.int (0 : Int32)) := D1 (Or.inr (hw _ t_52)) (ty := .int) (by decide)
      have F1_children : Fld Z h1 b1 "com/example/variaform/variaform/model/feature/Group" "children" "Ljava/util/List;" .null := D1 (Or.inr (hw _ t_83)) (ty := (.object "java/util/List")) (by decide)
      have F1_comments : Fld Z h1 b1 "com/example/variaform/variaform/model/feature/Group" "comments" "Lcom/example/variaform/variaform/model/feature/Comments;" .null := D1 (Or.inr (hw _ t_85)) (ty := (.object "com/example/variaform/variaform/model/feature/Comments")) (by decide)
      refine w_dup X1 hx hby n0_109 rfl ?_
      refine w_iload X1 hx hby n0_110 rfl ?_
      refine w_iload X1 hx hby n0_112 rfl ?_
      refine w_aload X1 hx hby n0_114 rfl rfl ?_
      have f3 := (O0.ext E1)
      refine w_called (call_N X1 hx hby hZ hown (argsL := [(.int (x1 &&& (2147483647 : Int32))), (.int (x2 &&& (2147483647 : Int32))), (.ref l1)]) (rest := [(.ref b1)]) (Wd := 1) (a := b1) rfl (hw _ t_288) (hw _ t_289) (hw _ t_29) (hw _ t_290) (by decide) (rGI3 l Z a0 hw d0 el ea em cn km kp kr ka ki bt mr b1 (x1 &&& (2147483647 : Int32)) (x2 &&& (2147483647 : Int32)) l1 h0 h1 W0 n0 f3 (Nat.le_trans Z0 old_b1) A1 F1_kind F1_lower F1_upper F1_children F1_comments S1 k2 old_b1 (own_mask x1) (own_mask x2)) rfl n0_116 (by rw [hml]; rfl) (lenOf pd_31132 rfl) rfl (by decide) (by decide) (by decide) (by decide) e1) fun v4 T4 L4 X4 Q4 => ?_
      obtain ⟨rfl, n4, k4, ea4, c4_kind, c4_lower, c4_upper, c4_comments⟩ := Q4
      have N4 := Fr.app NL n4
      have z5 : h0.size ≤ T4.heap.size := Nat.le_trans z2 k4.1
      have k5 : Keep h0 T4.heap [] := k2.trans k4 (allS (Or.inr old_b1) all0)
      show Wg p e below _ T4 (mkF m 119 #[.val (.int x0), .val (.int x1), .val (.int x2), .val (.int x3), .val (.ref l1), .val (.int (x1 &&& (2147483647 : Int32))), .val (.int (x2 &&& (2147483647 : Int32))), .val (.int ((x0 &&& (2147483647 : Int32)) % (3 : Int32))), .unset, .unset, .unset] [(.ref b1)])
      refine w_astore X4 hx hby #[.val (.int x0), .val (.int x1), .val (.int x2), .val (.int x3), .val (.ref l1), .val (.int (x1 &&& (2147483647 : Int32))), .val (.int (x2 &&& (2147483647 : Int32))), .val (.int ((x0 &&& (2147483647 : Int32)) % (3 : Int32))), .val (.ref b1), .unset, .unset] n0_119 rfl rfl ?_
      refine w_iconst X4 hx hby (0 : Int32) n0_121 rfl ?_
      refine w_istore X4 hx hby #[.val (.int x0), .val (.int x1), .val (.int x2), .val (.int x3), .val (.ref l1), .val (.int (x1 &&& (2147483647 : Int32))), .val (.int (x2 &&& (2147483647 : Int32))), .val (.int ((x0 &&& (2147483647 : Int32)) % (3 : Int32))), .val (.ref b1), .val (.int (0 : Int32)), .unset] n0_122 rfl ?_
      have f6 := (f3.keep k4 (allS (Nat.le_trans Z0 old_b1) all0))
      exact segC l Z a0 hw d0 el ea em cn km kp kr ka ki bt mr x0 x1 x2 x3 l1 (x1 &&& (2147483647 : Int32)) (x2 &&& (2147483647 : Int32)) ((x0 &&& (2147483647 : Int32)) % (3 : Int32)) b1 ki cn (x1 &&& (2147483647 : Int32)) (x2 &&& (2147483647 : Int32)) (0 : Int32) T4.heap (X4.mono (by decide) (by decide)) hx hby hml hown hret hlk hZ rfl hS (Nat.le_trans hk0 z5) n0 N4 W0 f6 ea4 c4_kind c4_lower c4_upper c4_comments (own_un_mask x2)
    · refine w_iload X0 hx hby n0_91 rfl ?_
      refine w_aload X0 hx hby n0_93 rfl rfl ?_
      refine w_called (call_S X0 hx hby hZ hown (argsL := [(.int (x1 &&& (2147483647 : Int32))), (.ref l1)]) (rest := []) (Wd := 0) (hw _ t_101) (hw _ t_102) (hw _ t_29) (hw _ t_103) (by decide) (rGAL l Z a0 hw d0 el ea em cn km kp kr ka ki bt mr (x1 &&& (2147483647 : Int32)) l1 h0 W0 n0 O0 S1 (own_mask x1)) rfl n0_95 (by rw [hml]; rfl) (lenOf pd_297588 rfl) rfl (by decide) (by decide) (by decide) (by decide) e0) fun v7 T7 L7 X7 Q7 => ?_
      obtain ⟨y7, rfl, n7, k7, r7_0, r7_1, r7_2, r7_3, r7_4⟩ := Q7
      have N7 := Fr.app NL n7
      have z8 : h0.size ≤ T7.heap.size := Nat.le_trans (Nat.le_refl h0.size) k7.1
      have k8 : Keep h0 T7.heap [] := (Keep.refl h0 []).trans k7 all0
      show Wg p e below _ T7 (mkF m 98 #[.val (.int x0), .val (.int x1), .val (.int x2), .val (.int x3), .val (.ref l1), .val (.int (x1 &&& (2147483647 : Int32))), .val (.int (x2 &&& (2147483647 : Int32))), .val (.int ((x0 &&& (2147483647 : Int32)) % (3 : Int32))), .unset, .unset, .unset] [(.ref y7)])
      refine w_astore X7 hx hby #[.val (.int x0), .val (.int x1), .val (.int x2), .val (.int x3), .val (.ref l1), .val (.int (x1 &&& (2147483647 : Int32))), .val (.int (x2 &&& (2147483647 : Int32))), .val (.int ((x0 &&& (2147483647 : Int32)) % (3 : Int32))), .val (.ref y7), .unset, .unset] n0_98 rfl rfl ?_
      refine w_iconst X7 hx hby (1 : Int32) n0_100 rfl ?_
      refine w_istore X7 hx hby #[.val (.int x0), .val (.int x1), .val (.int x2), .val (.int x3), .val (.ref l1), .val (.int (x1 &&& (2147483647 : Int32))), .val (.int (x2 &&& (2147483647 : Int32))), .val (.int ((x0 &&& (2147483647 : Int32)) % (3 : Int32))), .val (.ref y7), .val (.int (1 : Int32)), .unset] n0_101 rfl ?_
      refine w_goto X7 hx hby n0_103 ?_
      have f9 := (O0.keep k7 all0)
      exact segC l Z a0 hw d0 el ea em cn km kp kr ka ki bt mr x0 x1 x2 x3 l1 (x1 &&& (2147483647 : Int32)) (x2 &&& (2147483647 : Int32)) ((x0 &&& (2147483647 : Int32)) % (3 : Int32)) y7 ki cn (x1 &&& (2147483647 : Int32)) (-1 : Int32) (1 : Int32) T7.heap (X7.mono (by decide) (by decide)) hx hby hml hown hret hlk hZ rfl hS (Nat.le_trans hk0 z8) n0 N7 W0 f9 r7_0 r7_1 r7_2 r7_3 r7_4 (by decide)
  · refine w_newO X0 hx hby hZ hown (hw _ t_27) (hw _ t_28) (hw _ t_29) e0 n0_62 (by decide) (by decide) fun T10 h10 b10 g10 X10 e10 E10 A10 D10 => ?_
    have old_b10 : h0.size ≤ b10 := Nat.le_trans (Nat.le_refl h0.size) (Nat.le_of_eq g10.symm)
    have z11 : h0.size ≤ h10.size := Nat.le_trans (Nat.le_refl h0.size) E10.1
    have k11 : Keep h0 h10 [] := (Keep.refl h0 []).ext E10
    have F10_kind : Fld Z h10 b10 "com/example/variaform/variaform/model/feature/Group" "kind" "Lcom/example/variaform/variaform/model/feature/Group$Kind;" .null := D10 (Or.inr (hw _ t_48)) (ty := (.object "com/example/variaform/variaform/model/feature/Group$Kind")) (by decide)
    have F10_lower : Fld Z h10 b10 "com/example/variaform/variaform/model/feature/Group" "lower" "I" (.int (0 : Int32)) := D10 (Or.inr (hw _ t_50)) (ty := .int) (by decide)
    have F10_upper : Fld Z h10 b10 "com/example/variaform/variaform/model/feature/Group" "upper" "I" (.int (0 : Int32)) := D10 (Or.inr (hw _ t_52)) (ty := .int) (by decide)
    have F10_children : Fld Z h10 b10 "com/example/variaform/variaform/model/feature/Group" "children" "Ljava/util/List;" .null := D10 (Or.inr (hw _ t_83)) (ty := (.object "java/util/List")) (by decide)
    have F10_comments : Fld Z h10 b10 "com/example/variaform/variaform/model/feature/Group" "comments" "Lcom/example/variaform/variaform/model/feature/Comments;" .null := D10 (Or.inr (hw _ t_85)) (ty := (.object "com/example/variaform/variaform/model/feature/Comments")) (by decide)
    refine w_dup X10 hx hby n0_65 rfl ?_
    refine w_iloadN X10 hx hby n0_66 rfl ?_
    refine w_iconst X10 hx hby (3 : Int32) n0_67 rfl ?_
    refine w_iand X10 hx hby n0_68 ?_
    have f12 := (O0.ext E10)
    refine w_calledp (call_S X10 hx hby hZ hown (argsL := [(.int (x3 &&& (3 : Int32)))]) (rest := [(.ref b10), (.ref b10)]) (Wd := 2) (hw _ t_30) (hw _ t_31) (hw _ t_32) (hw _ t_33) (by decide) (rKND l Z a0 hw d0 el ea em cn km kp kr ka ki bt mr (x3 &&& (3 : Int32)) h10 W0 n0 f12) rfl n0_69 (by rw [hml]; rfl) (lenOf pd_216416 rfl) rfl (by decide) (by decide) (by decide) (by decide) e10) rfl rfl fun T13 X13 e13 => ?_
    refine w_aload X13 hx hby n0_72 rfl rfl ?_
    refine w_called (call_N X13 hx hby hZ hown (argsL := [(.ref (own_kind km kp kr ka (x3 &&& (3 : Int32)))), (.ref l1)]) (rest := [(.ref b10)]) (Wd := 1) (a := b10) rfl (hw _ t_37) (hw _ t_38) (hw _ t_29) (hw _ t_39) (by decide) (rGI2 l Z a0 hw d0 el ea em cn km kp kr ka ki bt mr b10 (own_kind km kp kr ka (x3 &&& (3 : Int32))) l1 h0 h10 W0 n0 f12 (Nat.le_trans Z0 old_b10) A10 F10_kind F10_lower F10_upper F10_children F10_comments S1 k11 old_b10 (own_kind_ne W0.kd _)) rfl n0_74 (by rw [hml]; rfl) (lenOf pd_325174 rfl) rfl (by decide) (by decide) (by decide) (by decide) e13) fun v14 T14 L14 X14 Q14 => ?_
    obtain ⟨rfl, n14, k14, ea14, c14_kind, c14_lower, c14_upper, c14_comments⟩ := Q14
    have N14 := Fr.app NL n14
    have z15 : h0.size ≤ T14.heap.size := Nat.le_trans z11 k14.1
    have k15 : Keep h0 T14.heap [] := k11.trans k14 (allS (Or.inr old_b10) all0)
    show Wg p e below _ T14 (mkF m 77 #[.val (.int x0), .val (.int x1), .val (.int x2), .val (.int x3), .val (.ref l1), .val (.int (x1 &&& (2147483647 : Int32))), .val (.int (x2 &&& (2147483647 : Int32))), .val (.int ((x0 &&& (2147483647 : Int32)) % (3 : Int32))), .unset, .unset, .unset] [(.ref b10)])
    refine w_astore X14 hx hby #[.val (.int x0), .val (.int x1), .val (.int x2), .val (.int x3), .val (.ref l1), .val (.int (x1 &&& (2147483647 : Int32))), .val (.int (x2 &&& (2147483647 : Int32))), .val (.int ((x0 &&& (2147483647 : Int32)) % (3 : Int32))), .val (.ref b10), .unset, .unset] n0_77 rfl rfl ?_
    refine w_iconst X14 hx hby (0 : Int32) n0_79 rfl ?_
    refine w_istore X14 hx hby #[.val (.int x0), .val (.int x1), .val (.int x2), .val (.int x3), .val (.ref l1), .val (.int (x1 &&& (2147483647 : Int32))), .val (.int (x2 &&& (2147483647 : Int32))), .val (.int ((x0 &&& (2147483647 : Int32)) % (3 : Int32))), .val (.ref b10), .val (.int (0 : Int32)), .unset] n0_80 rfl ?_
    refine w_goto X14 hx hby n0_82 ?_
    have f16 := (f12.keep k14 (allS (Nat.le_trans Z0 old_b10) all0))
    exact segC l Z a0 hw d0 el ea em cn km kp kr ka ki bt mr x0 x1 x2 x3 l1 (x1 &&& (2147483647 : Int32)) (x2 &&& (2147483647 : Int32)) ((x0 &&& (2147483647 : Int32)) % (3 : Int32)) b10 (own_kind km kp kr ka (x3 &&& (3 : Int32))) cn (0 : Int32) (0 : Int32) (0 : Int32) T14.heap (X14.mono (by decide) (by decide)) hx hby hml hown hret hlk hZ rfl hS (Nat.le_trans hk0 z15) n0 N14 W0 f16 ea14 c14_kind c14_lower c14_upper c14_comments (by decide)
set_option maxRecDepth 65536 in
set_option maxHeartbeats 40000000 in
theorem segA (l : Launch) (Z : State) (a0 : Array Value) (hw : ∀ d ∈ tables_1, d.before a0 Z = true) (d0 el ea em cn km kp kr ka ki bt mr : Addr) (x0 x1 x2 x3 : Int32) (l1 fe sn : Addr) (h0 : Heap) {p : Program} {e : Env} {s : State} {vm0 : Vm} {m : MethodId} {args : Array Value} {below : List Frame} {meth : Method} {c : Code} {T0 : State} {locs : List Loc} {k0 : Nat} (X0 : Stand p l e room_1 (s.setVm vm0) m args below meth c T0 locs 6 40) (hx : p.tables.exec = Jvm.exec) (hby : c.code = code) (hml : c.maxLocals = 11) (hown : (s.setVm vm0).vm.findClass "com/example/variaform/variaform/model/feature/GroupIsUpperUnboundedPinLaw" = some m.cls) (hret : meth.sig.returnType = ret) (hlk : meth.locks = false) (hZ : Z.Warmed39 (s.setVm vm0).vm) (e0 : T0.heap = h0) (hS : s.Since vm0 k0) (hk0 : k0 ≤ h0.size) (n0 : Nat) (NL : Fr n0 locs) (W0 : own_W Z d0 el ea em cn km kp kr ka ki bt mr) (O0 : Old Z n0 h0) (Ea : Exa Z h0 l1 "java/util/ArrayList") (F_modCount : Fld Z h0 l1 "java/util/AbstractList" "modCount" "I" (.int (0 : Int32))) (F_elementData : Fld Z h0 l1 "java/util/ArrayList" "elementData" "[Ljava/lang/Object;" (.ref d0)) (F_size : Fld Z h0 l1 "java/util/ArrayList" "size" "I" (.int (0 : Int32))) (Ef : Exa Z h0 fe "com/example/variaform/variaform/model/feature/Feature") (H_name : Fld Z h0 fe "com/example/variaform/variaform/model/feature/Feature" "name" "Ljava/lang/String;" .null) (H_type : Fld Z h0 fe "com/example/variaform/variaform/model/feature/Feature" "type" "Lcom/example/variaform/variaform/model/feature/Feature$Type;" .null) (H_groups : Fld Z h0 fe "com/example/variaform/variaform/model/feature/Feature" "groups" "Ljava/util/List;" .null) (H_attributes : Fld Z h0 fe "com/example/variaform/variaform/model/feature/Feature" "attributes" "Ljava/util/List;" .null) (H_comments : Fld Z h0 fe "com/example/variaform/variaform/model/feature/Feature" "comments" "Lcom/example/variaform/variaform/model/feature/Comments;" .null) (nlf : l1 ≠ fe) (gl : n0 ≤ l1) (gf : n0 ≤ fe) : Wg p e below (Gw s room_1.cells room_1.slots (fun v L => v = some (.int 1) ∧ Fr n0 L)) T0 (mkF m 23 #[.val (.int x0), .val (.int x1), .val (.int x2), .val (.int x3), .val (.ref l1), .unset, .unset, .unset, .unset, .unset, .unset] [(.ref sn), (.ref fe), (.ref fe), (.ref l1)]) := by
  have Z0 : n0 ≤ h0.size := O0.1 ▸ O0.2.1
  refine w_newO X0 hx hby hZ hown (hw _ t_0) (hw _ t_1) (hw _ t_2) e0 n0_23 (by decide) (by decide) fun T1 h1 b1 g1 X1 e1 E1 A1 D1 => ?_
  have ne_l1_b1 : l1 ≠ b1 := Nat.ne_of_lt (Nat.lt_of_lt_of_eq Ea.lt g1.symm)
  have ne_fe_b1 : fe ≠ b1 := Nat.ne_of_lt (Nat.lt_of_lt_of_eq Ef.lt g1.symm)
  have old_b1 : h0.size ≤ b1 := Nat.le_trans (Nat.le_refl h0.size) (Nat.le_of_eq g1.symm)
  have z2 : h0.size ≤ h1.size := Nat.le_trans (Nat.le_refl h0.size) E1.1
  have F1_modCount : Fld Z h1 b1 "java/util/AbstractList" "modCount" "I" (.int (0 : Int32)) := D1 (Or.inl (hw _ t_22)) (ty := .int) (by decide)
  have F1_elementData : Fld Z h1 b1 "java/util/ArrayList" "elementData" "[Ljava/lang/Object;" .null := D1 (Or.inl (hw _ t_25)) (ty := (.array (.object "java/lang/Object"))) (by decide)
  have F1_size : Fld Z h1 b1 "java/util/ArrayList" "size" "I" (.int (0 : Int32)) := D1 (Or.inl (hw _ t_77)) (ty := .int) (by decide)
  refine w_dup X1 hx hby n0_26 rfl ?_
  have f3 := (O0.ext E1)
  refine w_called (call_N X1 hx hby hZ hown (argsL := []) (rest := [(.ref b1), (.ref sn), (.ref fe), (.ref fe), (.ref l1)]) (Wd := 5) (a := b1) rfl (hw _ t_3) (hw _ t_4) (hw _ t_2) (hw _ t_5) (by decide) (rALI l Z a0 hw d0 el ea em cn km kp kr ka ki bt mr b1   h1 W0 n0 f3 (Nat.le_trans Z0 old_b1) A1 F1_modCount F1_elementData F1_size ) rfl n0_27 (by rw [hml]; rfl) (lenOf pd_1382 rfl) rfl (by decide) (by decide) (by decide) (by decide) e1) fun v4 T4 L4 X4 Q4 => ?_
  obtain ⟨rfl, n4, k4, ea4, c4_modCount, c4_elementData, c4_size⟩ := Q4
  have N4 := Fr.app NL n4
  have z5 : h0.size ≤ T4.heap.size := Nat.le_trans z2 k4.1
  show Wg p e below _ T4 (mkF m 30 #[.val (.int x0), .val (.int x1), .val (.int x2), .val (.int x3), .val (.ref l1), .unset, .unset, .unset, .unset, .unset, .unset] [(.ref b1), (.ref sn), (.ref fe), (.ref fe), (.ref l1)])
  have f6 := ((Ef.ext E1).keep k4)
  have f7 := ((H_name.ext E1).keep k4 (ninS ne_fe_b1 nin0))
  have f8 := ((H_type.ext E1).keep k4 (ninS ne_fe_b1 nin0))
  have f9 := ((H_groups.ext E1).keep k4 (ninS ne_fe_b1 nin0))
  have f10 := ((H_attributes.ext E1).keep k4 (ninS ne_fe_b1 nin0))
  have f11 := ((H_comments.ext E1).keep k4 (ninS ne_fe_b1 nin0))
  have f12 := (f3.keep k4 (allS (Nat.le_trans Z0 old_b1) all0))
  refine w_called (call_N X4 hx hby hZ hown (argsL := [(.ref sn), (.ref b1)]) (rest := [(.ref fe), (.ref l1)]) (Wd := 2) (a := fe) rfl (hw _ t_115) (hw _ t_116) (hw _ t_106) (hw _ t_117) (by decide) (rFI2 l Z a0 hw d0 el ea em cn km kp kr ka ki bt mr fe sn b1  T4.heap W0 n0 f12 gf f6 f7 f8 f9 f10 f11 ea4 c4_size (Ne.symm ne_fe_b1)) rfl n0_30 (by rw [hml]; rfl) (lenOf pd_84010 rfl) rfl (by decide) (by decide) (by decide) (by decide) rfl) fun v13 T13 L13 X13 Q13 => ?_
  obtain ⟨rfl, n13, k13, ea13, c13_name, c13_type, c13_groups, c13_attributes, c13_comments⟩ := Q13
  have N13 := Fr.app N4 n13
  have z14 : h0.size ≤ T13.heap.size := Nat.le_trans z5 k13.1
  show Wg p e below _ T13 (mkF m 33 #[.val (.int x0), .val (.int x1), .val (.int x2), .val (.int x3), .val (.ref l1), .unset, .unset, .unset, .unset, .unset, .unset] [(.ref fe), (.ref l1)])
  have f15 := (((Ea.ext E1).keep k4).keep k13)
  have f16 := (((F_modCount.ext E1).keep k4 (ninS ne_l1_b1 nin0)).keep k13 (ninS nlf nin0))
  have f17 := (((F_elementData.ext E1).keep k4 (ninS ne_l1_b1 nin0)).keep k13 (ninS nlf nin0))
  have f18 := (((F_size.ext E1).keep k4 (ninS ne_l1_b1 nin0)).keep k13 (ninS nlf nin0))
  have f19 := (f12.keep k13 (allS gf all0))
  refine w_called (call_V X13 hx hby hZ hown (argsL := [(.ref fe)]) (rest := []) (Wd := 0) (a := l1) (hw _ t_192) (hw _ t_193) (hw _ t_195) (hw _ t_194) (hw _ t_2) (hw _ t_196) (by decide) f15 (rAD1 l Z a0 hw d0 el ea em cn km kp kr ka ki bt mr l1 (0 : Int32) fe T13.heap W0 n0 f19 gl f15 f16 f17 f18 ea13) rfl n0_33 (by rw [hml]; rfl) (lenOf pd_31150 rfl) rfl (by decide) (by decide) (by decide) (by decide) rfl) fun v20 T20 L20 X20 Q20 => ?_
  obtain ⟨rfl, n20, k20, ls20⟩ := Q20
  have N20 := Fr.app N13 n20
  have z21 : h0.size ≤ T20.heap.size := Nat.le_trans z14 k20.1
  show Wg p e below _ T20 (mkF m 36 #[.val (.int x0), .val (.int x1), .val (.int x2), .val (.int x3), .val (.ref l1), .unset, .unset, .unset, .unset, .unset, .unset] [(.int (nar .boolean (1 : Int32)))])
  refine w_pop X20 hx hby n0_36 rfl ?_
  have f22 := (f19.keep k20 (allS gl all0))
  exact segB l Z a0 hw d0 el ea em cn km kp kr ka ki bt mr x0 x1 x2 x3 l1 T20.heap (X20.mono (by decide) (by decide)) hx hby hml hown hret hlk hZ rfl hS (Nat.le_trans hk0 z21) n0 N20 W0 f22 ls20
set_option maxRecDepth 65536 in
set_option maxHeartbeats 40000000 in
theorem seg0 (l : Launch) (Z : State) (a0 : Array Value) (hw : ∀ d ∈ tables_1, d.before a0 Z = true) (d0 el ea em cn km kp kr ka ki bt mr : Addr) (x0 x1 x2 x3 : Int32) (h0 : Heap) {p : Program} {e : Env} {s : State} {vm0 : Vm} {m : MethodId} {args : Array Value} {below : List Frame} {meth : Method} {c : Code} {T0 : State} {locs : List Loc} {k0 : Nat} (X0 : Stand p l e room_1 (s.setVm vm0) m args below meth c T0 locs 0 0) (hx : p.tables.exec = Jvm.exec) (hby : c.code = code) (hml : c.maxLocals = 11) (hown : (s.setVm vm0).vm.findClass "com/example/variaform/variaform/model/feature/GroupIsUpperUnboundedPinLaw" = some m.cls) (hret : meth.sig.returnType = ret) (hlk : meth.locks = false) (hZ : Z.Warmed39 (s.setVm vm0).vm) (e0 : T0.heap = h0) (hS : s.Since vm0 k0) (hk0 : k0 ≤ h0.size) (n0 : Nat) (NL : Fr n0 locs) (W0 : own_W Z d0 el ea em cn km kp kr ka ki bt mr) (O0 : Old Z n0 h0) : Wg p e below (Gw s room_1.cells room_1.slots (fun v L => v = some (.int 1) ∧ Fr n0 L)) T0 (mkF m 0 #[.val (.int x0), .val (.int x1), .val (.int x2), .val (.int x3), .unset, .unset, .unset, .unset, .unset, .unset, .unset] []) := by
  have Z0 : n0 ≤ h0.size := O0.1 ▸ O0.2.1
  refine w_newO X0 hx hby hZ hown (hw _ t_0) (hw _ t_1) (hw _ t_2) e0 n0_0 (by decide) (by decide) fun T1 h1 b1 g1 X1 e1 E1 A1 D1 => ?_
  have old_b1 : h0.size ≤ b1 := Nat.le_trans (Nat.le_refl h0.size) (Nat.le_of_eq g1.symm)
  have z2 : h0.size ≤ h1.size := Nat.le_trans (Nat.le_refl h0.size) E1.1
  have F1_modCount : Fld Z h1 b1 "java/util/AbstractList" "modCount" "I" (.int (0 : Int32)) := D1 (Or.inl (hw _ t_22)) (ty := .int) (by decide)
  have F1_elementData : Fld Z h1 b1 "java/util/ArrayList" "elementData" "[Ljava/lang/Object;" .null := D1 (Or.inl (hw _ t_25)) (ty := (.array (.object "java/lang/Object"))) (by decide)
  have F1_size : Fld Z h1 b1 "java/util/ArrayList" "size" "I" (.int (0 : Int32)) := D1 (Or.inl (hw _ t_77)) (ty := .int) (by decide)
  refine w_dup X1 hx hby n0_3 rfl ?_
  have f3 := (O0.ext E1)
  refine w_called (call_N X1 hx hby hZ hown (argsL := []) (rest := [(.ref b1)]) (Wd := 1) (a := b1) rfl (hw _ t_3) (hw _ t_4) (hw _ t_2) (hw _ t_5) (by decide) (rALI l Z a0 hw d0 el ea em cn km kp kr ka ki bt mr b1   h1 W0 n0 f3 (Nat.le_trans Z0 old_b1) A1 F1_modCount F1_elementData F1_size ) rfl n0_4 (by rw [hml]; rfl) (lenOf pd_1382 rfl) rfl (by decide) (by decide) (by decide) (by decide) e1) fun v4 T4 L4 X4 Q4 => ?_
  obtain ⟨rfl, n4, k4, ea4, c4_modCount, c4_elementData, c4_size⟩ := Q4
  have N4 := Fr.app NL n4
  have z5 : h0.size ≤ T4.heap.size := Nat.le_trans z2 k4.1
  show Wg p e below _ T4 (mkF m 7 #[.val (.int x0), .val (.int x1), .val (.int x2), .val (.int x3), .unset, .unset, .unset, .unset, .unset, .unset, .unset] [(.ref b1)])
  refine w_astore X4 hx hby #[.val (.int x0), .val (.int x1), .val (.int x2), .val (.int x3), .val (.ref b1), .unset, .unset, .unset, .unset, .unset, .unset] n0_7 rfl rfl ?_
  refine w_iloadN X4 hx hby n0_9 rfl ?_
  refine w_iconst X4 hx hby (4 : Int32) n0_10 rfl ?_
  refine w_iand X4 hx hby n0_11 ?_
  refine f_if_eq X4 hx hby n0_12 (fun q12 => ?_) (fun q12 => ?_)
  · have f6 := (f3.keep k4 (allS (Nat.le_trans Z0 old_b1) all0))
    exact segB l Z a0 hw d0 el ea em cn km kp kr ka ki bt mr x0 x1 x2 x3 b1 T4.heap (X4.mono (by decide) (by decide)) hx hby hml hown hret hlk hZ rfl hS (Nat.le_trans hk0 z5) n0 N4 W0 f6 ⟨ea4, Or.inl c4_size⟩
  · refine w_aload X4 hx hby n0_15 rfl rfl ?_
    refine w_newO X4 hx hby hZ hown (hw _ t_104) (hw _ t_105) (hw _ t_106) rfl n0_17 (by decide) (by decide) fun T7 h7 b7 g7 X7 e7 E7 A7 D7 => ?_
    have ne_b1_b7 : b1 ≠ b7 := Nat.ne_of_lt (Nat.lt_of_lt_of_eq ea4.lt g7.symm)
    have old_b7 : h0.size ≤ b7 := Nat.le_trans z5 (Nat.le_of_eq g7.symm)
    have z8 : h0.size ≤ h7.size := Nat.le_trans z5 E7.1
    have F7_name : Fld Z h7 b7 "com/example/variaform/variaform/model/feature/Feature" "name" "Ljava/lang/String;" .null := D7 (Or.inr (hw _ t_131)) (ty := (.object "java/lang/String")) (by decide)
    have F7_type : Fld Z h7 b7 "com/example/variaform/variaform/model/feature/Feature" "type" "Lcom/example/variaform/variaform/model/feature/Feature$Type;" .null := D7 (Or.inr (hw _ t_133)) (ty := (.object "com/example/variaform/variaform/model/feature/Feature$Type")) (by decide)
    have F7_groups : Fld Z h7 b7 "com/example/variaform/variaform/model/feature/Feature" "groups" "Ljava/util/List;" .null := D7 (Or.inr (hw _ t_136)) (ty := (.object "java/util/List")) (by decide)
    have F7_attributes : Fld Z h7 b7 "com/example/variaform/variaform/model/feature/Feature" "attributes" "Ljava/util/List;" .null := D7 (Or.inr (hw _ t_146)) (ty := (.object "java/util/List")) (by decide)
    have F7_comments : Fld Z h7 b7 "com/example/variaform/variaform/model/feature/Feature" "comments" "Lcom/example/variaform/variaform/model/feature/Comments;" .null := D7 (Or.inr (hw _ t_148)) (ty := (.object "com/example/variaform/variaform/model/feature/Comments")) (by decide)
    have F7_parent : Fld Z h7 b7 "com/example/variaform/variaform/model/feature/Feature" "parent" "Lcom/example/variaform/variaform/model/feature/Feature;" .null := D7 (Or.inl (hw _ t_295)) (ty := (.object "com/example/variaform/variaform/model/feature/Feature")) (by decide)
    refine w_dup X7 hx hby n0_20 rfl ?_
    refine w_ldcS X7 hx hby hZ hown (hw _ t_107) (fun d hd => hw d (own_sa d hd)) e7 hS (Nat.le_trans hk0 z8) n0_21 4 (by decide) (by decide) (by decide) (by decide) fun sn T9 h9 k9 X9 e9 E9 hS hk1 hZ hown => ?_
    have z10 : h0.size ≤ h9.size := Nat.le_trans z8 E9.1
    have f11 := ((ea4.ext E7).ext E9)
    have f12 := ((c4_modCount.ext E7).ext E9)
    have f13 := ((c4_elementData.ext E7).ext E9)
    have f14 := ((c4_size.ext E7).ext E9)
    have f15 := (A7.ext E9)
    have f16 := (F7_name.ext E9)
    have f17 := (F7_type.ext E9)
    have f18 := (F7_groups.ext E9)
    have f19 := (F7_attributes.ext E9)
    have f20 := (F7_comments.ext E9)
    have f21 := (((f3.keep k4 (allS (Nat.le_trans Z0 old_b1) all0)).ext E7).ext E9)
    exact segA l Z a0 hw d0 el ea em cn km kp kr ka ki bt mr x0 x1 x2 x3 b1 b7 sn h9 (X9.mono (by decide) (by decide)) hx hby hml hown hret hlk hZ e9 hS hk1 n0 N4 W0 f21 f11 f12 f13 f14 f15 f16 f17 f18 f19 f20 ne_b1_b7 (Nat.le_trans Z0 old_b1) (Nat.le_trans Z0 old_b7)
theorem ef_law (m : MethodId) (x0 x1 x2 x3 : Int32) : entryFrame m #[(.int x0), (.int x1), (.int x2), (.int x3)] maxLocals = mkF m 0 #[.val (.int x0), .val (.int x1), .val (.int x2), .val (.int x3), .unset, .unset, .unset, .unset, .unset, .unset, .unset] [] := by first | (simp [entryFrame, mkF, argsToLocals, Value.category, maxLocals]; done) | rfl
set_option maxRecDepth 65536 in
set_option maxHeartbeats 40000000 in
theorem law0 (l : Launch) (Z : State) (a0 : Array Value) (hw : ∀ d ∈ tables_1, d.before a0 Z = true) (d0 el ea em cn km kp kr ka ki bt mr : Addr) (x0 x1 x2 x3 : Int32) (W0 : own_W Z d0 el ea em cn km kp kr ka ki bt mr) (ws : List Jvm.Cond) : MetFree l x (head1 (Jvm.Cond.code x code maxLocals ret :: ws) room_1) (fun a U => a = #[(.int x0), (.int x1), (.int x2), (.int x3)] ∧ U = Z) (fun _ _ _ _ _ => True) (fun _ U o U' => ∃ v L, o = .returned v ∧ (v = some (.int 1) ∧ Fr U.heap.size L) ∧ U.Warmed39 U'.vm ∧ U.Booked U'.vm U'.heap.size ∧ U.sameButNew ({ U' with vm := U.vm } : State) L room_1.cells room_1.slots) := by
  refine MetFree.of_bodySF pn_0 hisR ?_
  intro p e s m args below meth c s₁ Bd hml0 hP hK
  obtain ⟨rfl, rfl⟩ := hP
  have X0 : Stand p l e room_1 s m #[(.int x0), (.int x1), (.int x2), (.int x3)] below meth c s₁ [] 0 0 := Stand.of_body Bd
  have e0 : s₁.heap = s.heap := by rw [Bd.state]; rfl
  show Wg p e below (Gw s room_1.cells room_1.slots (fun v L => v = some (.int 1) ∧ Fr s.heap.size L)) s₁ (entryFrame m #[(.int x0), (.int x1), (.int x2), (.int x3)] maxLocals)
  rw [ef_law m x0 x1 x2 x3]
  exact seg0 l s a0 hw d0 el ea em cn km kp kr ka ki bt mr x0 x1 x2 x3 s.heap (vm0 := s.vm) (show Stand p l e room_1 (s.setVm s.vm) m #[(.int x0), (.int x1), (.int x2), (.int x3)] below meth c s₁ [] 0 0 from X0) Bd.exec Bd.bytes hml0 (findClass_of_methodNamed Bd.named) Bd.returns (BodyLoose.notSynchronized Bd) (State.Warmed39.refl s) e0 ((State.WarmedH.refl s).since 0) (Nat.zero_le _) s.heap.size (Fr.nil _) W0 (Old.start s)
set_option maxRecDepth 65536 in
set_option maxHeartbeats 40000000 in
theorem comes_1 {Post : Tables → Env → Array Value → State → Outcome → State → Prop} (hpost : ∀ tb e args s v u, (limb_1_1.after args s (.returned v) u = true ∧ limb_1_2.after args s (.returned v) u = true) → FramedW s (.returned v) u (Jvm.fieldLocs frame_1_writes args s ++ Jvm.arrayLocs frame_1_arrays args s ++ Jvm.staticLocs frame_1_statics s) 48 2304 → Post tb e args s (.returned v) u) :
    ArmFor flags0 classFile x code maxLocals ret World_1 tables_1 room_1 Calls_1 rest_1 Pre_1 Post := by
  intro l hfl _ _ p e ha hc hk s m args below hf hA hF happ hP
  obtain ⟨hcalls, hrest, hpre⟩ := hP
  obtain ⟨-, -, -, hnamed, -, -, -, hat⟩ := (Spec.applies_iff hf).mp happ
  obtain ⟨hg, hn⟩ := and_e (Cond.before_iff.mp (show (Jvm.Cond.and given_1 narrow_1).before args s = true from hpre))
  obtain ⟨hcnt, hg⟩ := and_e hg
  obtain ⟨hg0, hg⟩ := and_e hg
  obtain ⟨hg1, hg⟩ := and_e hg
  obtain ⟨hg2, hg⟩ := and_e hg
  have hg3 := hg
  obtain ⟨w0, w1, w2, w3, rfl⟩ : ∃ w0 w1 w2 w3 : Value, args = #[w0, w1, w2, w3] := by
    have hs : args.size = 4 := by simpa [Cond.value, given_1] using hcnt
    obtain ⟨L⟩ := args
    match L, hs with
    | [w0, w1, w2, w3], _ => exact ⟨w0, w1, w2, w3, rfl⟩
  have hw := fun d (hd : d ∈ tables_1) => atoms_spec (ws := Jvm.Cond.code x code maxLocals ret :: tables_1) hat d (List.mem_cons_of_mem _ hd)
  have hfit : Fit s := fun {y c} hc i hi => by
    obtain ⟨ha, rfl⟩ := Array.getElem?_eq_some_iff.mp hc
    have q := List.all_eq_true.mp ((Array.all_eq_true_iff_forall_mem.mp hF) _ (Array.getElem_mem ha)) i (List.mem_range.mpr hi)
    simpa [Array.getElem?_eq_getElem hi] using q
  obtain ⟨hsets, hown0⟩ := atoms_of _ (rest_1_c_eq ▸ (show rest_1_c.before _ s = true from hrest))
  obtain ⟨i0, ei0⟩ := is_v hg0
  obtain rfl : w0 = (.int i0) := Option.some.inj ei0
  obtain ⟨i1, ei1⟩ := is_v hg1
  obtain rfl : w1 = (.int i1) := Option.some.inj ei1
  obtain ⟨i2, ei2⟩ := is_v hg2
  obtain rfl : w2 = (.int i2) := Option.some.inj ei2
  obtain ⟨i3, ei3⟩ := is_v hg3
  obtain rfl : w3 = (.int i3) := Option.some.inj ei3
  obtain ⟨hn0, hn⟩ := and_e hn
  obtain ⟨hn1, hn⟩ := and_e hn
  obtain ⟨hn2, hn⟩ := and_e hn
  obtain ⟨hn3, hn⟩ := and_e hn
  obtain ⟨hn4, hn⟩ := and_e hn
  obtain ⟨hn5, hn⟩ := and_e hn
  obtain ⟨hn6, hn⟩ := and_e hn
  obtain ⟨hn7, hn⟩ := and_e hn
  obtain ⟨hn8, hn⟩ := and_e hn
  obtain ⟨hn9, hn⟩ := and_e hn
  obtain ⟨hn10, hn⟩ := and_e hn
  have hn11 := hn
  obtain ⟨a_OPTIONAL, ev_OPTIONAL⟩ := exa_v hn0
  have E_OPTIONAL : Exa s s.heap a_OPTIONAL "com/example/variaform/variaform/model/feature/Group$Kind" := Exa.start ev_OPTIONAL hn0
  have S_OPTIONAL : Sta s s.heap "com/example/variaform/variaform/model/feature/Group$Kind" "OPTIONAL" "Lcom/example/variaform/variaform/model/feature/Group$Kind;" (.ref a_OPTIONAL) := Sta.start ev_OPTIONAL (Or.inr ⟨hw _ t_35, hw _ t_36⟩)
  obtain ⟨a_NONE, ev_NONE⟩ := exa_v hn1
  have E_NONE : Exa s s.heap a_NONE "com/example/variaform/variaform/model/feature/Comments" := Exa.start ev_NONE hn1
  have S_NONE : Sta s s.heap "com/example/variaform/variaform/model/feature/Comments" "NONE" "Lcom/example/variaform/variaform/model/feature/Comments;" (.ref a_NONE) := Sta.start ev_NONE (Or.inr ⟨hw _ t_41, hw _ t_42⟩)
  obtain ⟨a_INTERVAL, ev_INTERVAL⟩ := exa_v hn2
  have E_INTERVAL : Exa s s.heap a_INTERVAL "com/example/variaform/variaform/model/feature/Group$Kind" := Exa.start ev_INTERVAL hn2
  have S_INTERVAL : Sta s s.heap "com/example/variaform/variaform/model/feature/Group$Kind" "INTERVAL" "Lcom/example/variaform/variaform/model/feature/Group$Kind;" (.ref a_INTERVAL) := Sta.start ev_INTERVAL (Or.inr ⟨hw _ t_35, hw _ t_87⟩)
  obtain ⟨a_OR, ev_OR⟩ := exa_v hn5
  have E_OR : Exa s s.heap a_OR "com/example/variaform/variaform/model/feature/Group$Kind" := Exa.start ev_OR hn5
  have S_OR : Sta s s.heap "com/example/variaform/variaform/model/feature/Group$Kind" "OR" "Lcom/example/variaform/variaform/model/feature/Group$Kind;" (.ref a_OR) := Sta.start ev_OR (Or.inr ⟨hw _ t_35, hw _ t_94⟩)
  obtain ⟨a_BOOLEAN, ev_BOOLEAN⟩ := exa_v hn7
  have E_BOOLEAN : Exa s s.heap a_BOOLEAN "com/example/variaform/variaform/model/feature/Feature$Type" := Exa.start ev_BOOLEAN hn7
  have S_BOOLEAN : Sta s s.heap "com/example/variaform/variaform/model/feature/Feature$Type" "BOOLEAN" "Lcom/example/variaform/variaform/model/feature/Feature$Type;" (.ref a_BOOLEAN) := Sta.start ev_BOOLEAN (Or.inr ⟨hw _ t_119, hw _ t_120⟩)
  obtain ⟨a_MANDATORY, ev_MANDATORY⟩ := exa_v hn8
  have E_MANDATORY : Exa s s.heap a_MANDATORY "com/example/variaform/variaform/model/feature/Group$Kind" := Exa.start ev_MANDATORY hn8
  have S_MANDATORY : Sta s s.heap "com/example/variaform/variaform/model/feature/Group$Kind" "MANDATORY" "Lcom/example/variaform/variaform/model/feature/Group$Kind;" (.ref a_MANDATORY) := Sta.start ev_MANDATORY (Or.inr ⟨hw _ t_35, hw _ t_222⟩)
  obtain ⟨a_ALTERNATIVE, ev_ALTERNATIVE⟩ := exa_v hn10
  have E_ALTERNATIVE : Exa s s.heap a_ALTERNATIVE "com/example/variaform/variaform/model/feature/Group$Kind" := Exa.start ev_ALTERNATIVE hn10
  have S_ALTERNATIVE : Sta s s.heap "com/example/variaform/variaform/model/feature/Group$Kind" "ALTERNATIVE" "Lcom/example/variaform/variaform/model/feature/Group$Kind;" (.ref a_ALTERNATIVE) := Sta.start ev_ALTERNATIVE (Or.inr ⟨hw _ t_35, hw _ t_286⟩)
  have F_OPTIONAL_ordinal : Fld s s.heap a_OPTIONAL "java/lang/Enum" "ordinal" "I" (.int (1 : Int32)) := Fld.start ((fld_at ev_OPTIONAL).symm.trans (own_eqI hn3))
  have F_INTERVAL_ordinal : Fld s s.heap a_INTERVAL "java/lang/Enum" "ordinal" "I" (.int (4 : Int32)) := Fld.start ((fld_at ev_INTERVAL).symm.trans (own_eqI hn4))
  have F_OR_ordinal : Fld s s.heap a_OR "java/lang/Enum" "ordinal" "I" (.int (2 : Int32)) := Fld.start ((fld_at ev_OR).symm.trans (own_eqI hn6))
  have F_MANDATORY_ordinal : Fld s s.heap a_MANDATORY "java/lang/Enum" "ordinal" "I" (.int (0 : Int32)) := Fld.start ((fld_at ev_MANDATORY).symm.trans (own_eqI hn9))
  have F_ALTERNATIVE_ordinal : Fld s s.heap a_ALTERNATIVE "java/lang/Enum" "ordinal" "I" (.int (3 : Int32)) := Fld.start ((fld_at ev_ALTERNATIVE).symm.trans (own_eqI hn11))
  obtain ⟨d0, ed⟩ := arr_v (Cond.before_iff.mp (hsets _ (List.mem_of_getElem? (i := 6) rfl)))
  obtain ⟨cd, Ad⟩ := Arr.start ed (Cond.before_iff.mp (hsets _ (List.mem_of_getElem? (i := 6) rfl)))
  have sD : Sta s s.heap "java/util/ArrayList" "DEFAULTCAPACITY_EMPTY_ELEMENTDATA" "[Ljava/lang/Object;" (.ref d0) := Sta.start ed (Or.inr ⟨(hw _ t_2), (hsets _ (List.mem_of_getElem? (i := 2) rfl))⟩)
  have zD : cd.slots.size.toInt32 = (0 : Int32) := by obtain ⟨b, cl, q1, q2, q3⟩ := Term.length_spec (own_eqI (Cond.before_iff.mp (hsets _ (List.mem_of_getElem? (i := 8) rfl)))); cases ed.symm.trans q1; cases (Ad.fin (Vm.Alike.refl _)).symm.trans q2; exact (Value.int.inj q3).symm
  obtain ⟨el, ee⟩ := exa_v (Cond.before_iff.mp (hsets _ (List.mem_of_getElem? (i := 11) rfl)))
  have eL := Exa.start ee (Cond.before_iff.mp (hsets _ (List.mem_of_getElem? (i := 11) rfl)))
  have sL : Sta s s.heap "java/util/ImmutableCollections" "EMPTY_LIST" "Ljava/util/ImmutableCollections$ListN;" (.ref el) := Sta.start ee (Or.inl (hsets _ (List.mem_of_getElem? (i := 10) rfl)))
  obtain ⟨ea, eb⟩ := arr_v (Cond.before_iff.mp (hsets _ (List.mem_of_getElem? (i := 12) rfl)))
  obtain ⟨ca, Aa⟩ := Arr.start eb (Cond.before_iff.mp (hsets _ (List.mem_of_getElem? (i := 12) rfl)))
  have fE : Fld s s.heap el "java/util/ImmutableCollections$ListN" "elements" "[Ljava/lang/Object;" (.ref ea) := Fld.start ((fld_at ee).symm.trans eb)
  have zE : ca.slots.size.toInt32 = (0 : Int32) := by obtain ⟨b, cl, q1, q2, q3⟩ := Term.length_spec (own_eqI (Cond.before_iff.mp (hsets _ (List.mem_of_getElem? (i := 14) rfl)))); cases eb.symm.trans q1; cases (Aa.fin (Vm.Alike.refl _)).symm.trans q2; exact (Value.int.inj q3).symm
  have fN : Fld s s.heap el "java/util/ImmutableCollections$ListN" "allowNulls" "Z" (.int (0 : Int32)) := Fld.start ((fld_at ee).symm.trans (own_eqI (Cond.before_iff.mp (hsets _ (List.mem_of_getElem? (i := 15) rfl)))))
  obtain ⟨em, ef⟩ := exa_v (Cond.before_iff.mp (hsets _ (List.mem_of_getElem? (i := 18) rfl)))
  have sE : Sta s s.heap "java/util/ImmutableCollections" "EMPTY" "Ljava/lang/Object;" (.ref em) := Sta.start ef (Or.inl (hsets _ (List.mem_of_getElem? (i := 17) rfl)))
  obtain ⟨cM, kM, mr, m1, m2, m3, m4⟩ := hcalls.1
  have mi : Mir s "[Ljava/lang/Object;" mr := ⟨cM, kM, m1, m2, m3, m4⟩
  have W0 : own_W s d0 el ea em a_NONE a_MANDATORY a_OPTIONAL a_OR a_ALTERNATIVE a_INTERVAL a_BOOLEAN mr := ⟨sD, sL, sE, S_NONE, S_MANDATORY, S_OPTIONAL, S_OR, S_ALTERNATIVE, S_INTERVAL, S_BOOLEAN, ⟨cd, Ad, zD⟩, eL, fN, fE, ⟨ca, Aa, zE⟩, mi, Fld.ne F_MANDATORY_ordinal F_INTERVAL_ordinal (by decide), Fld.ne F_OPTIONAL_ordinal F_INTERVAL_ordinal (by decide), Fld.ne F_OR_ordinal F_INTERVAL_ordinal (by decide), Fld.ne F_ALTERNATIVE_ordinal F_INTERVAL_ordinal (by decide)⟩
  obtain ⟨n, o, h1, h2, h3, _, L, rfl, ⟨rfl, N⟩, hq⟩ := law0 l s _ hw d0 el ea em a_NONE a_MANDATORY a_OPTIONAL a_OR a_ALTERNATIVE a_INTERVAL a_BOOLEAN mr i0 i1 i2 i3 W0 tables_1 p e ha hc hk s m _ below hf ((Spec.applies_iff_loose hf).mp happ).1 ⟨rfl, rfl⟩ trivial
  exact ⟨n, _, h1, h2, h3, hpost _ _ _ _ _ _ ⟨Cond.after_iff.mpr rfl, Cond.after_iff.mpr (eq_i res_at (Term.int_eval (1)) rfl)⟩ ⟨⟨_, rfl⟩, hq.1, hq.2.1, (hq.2.2.sift fun y hy => Or.inr (N y hy)).mono (by decide) (by decide)⟩⟩
theorem main_1_1 : Claimed_1_1 := comes_1 fun _ _ _ _ _ _ h hF => ⟨h.1, hF⟩
theorem main_1_2 : Claimed_1_2 := comes_1 fun _ _ _ _ _ _ h hF => ⟨h.2, hF⟩
end Jvm.Pilot.@@N@@
namespace Jvm.Pilot.@@N@@
open Jvm Jvm.ClassFile Sem Op Lib Jvm.Free Jvm.Stand Jvm.Pilot.@@N@@.Jvm.D
/-! MADE BY PROGRAM (witnessworld.py) out of the Statement's table words and the real class files: 41 classes; the members and pool entries that the words name. The judged class is class 1, her method 1. -/
namespace start1
open Jvm.ClassFile
def u (s : String) : CpInfo := .utf8 (stringToUtf16 s)
/-- a pool by its gaps: so many unusable entries, then the entry; so many at the end -/
def gap : Nat → List CpInfo → List CpInfo
  | 0, r => r
  | n + 1, r => .unusable :: gap n r
def poolList (es : List (Nat × CpInfo)) (last : Nat) : List CpInfo := es.foldr (fun e r => gap e.1 (e.2 :: r)) (gap last [])
def pool (es : List (Nat × CpInfo)) (last : Nat) : Array CpInfo := ⟨poolList es last⟩
def fileOf (pool : Array CpInfo) (this : Nat) (attrs : Array Attribute := #[]) (ms : Array MethodInfo := #[]) (fl : Nat := 33) (sup : Nat := 0) (ifs : Array Nat := #[]) (fds : Array FieldInfo := #[]) : ClassFile where
  minorVersion := 0
  majorVersion := 65
  constantPool := pool
  accessFlags := fl
  thisClass := this
  superClass := sup
  interfaces := ifs
  fields := fds
  methods := ms
  attributes := attrs
def plain (name : String) (sup : Option ClassId) : Class where
  name := name
  kind := .ordinary
  loader := none
  accessFlags := 33
  super := sup
  interfaces := #[]
  cf := none
  fields := #[]
  methods := #[]
  instanceTypes := #[]
  staticTypes := #[]
  resolved := #[]
  callSites := []
  init := .initialized
  statics := none
  mirror := none

def pool0 : Array CpInfo := pool [(5, u "<init>"), (0, u "()V"), (1, .class_ 10), (1, u "java/lang/Object"), (0, u "getClass"), (0, u "()Ljava/lang/Class;")] 111

def k0c0 : Code := { maxStack := 0, maxLocals := 1, code := object_method_1_code, exceptionTable := #[], attributes := #[] }
def k0m0 : Method := { name := "<init>", desc := "()V", sig := { parameters := [], returnType := none }, accessFlags := 1, code := some k0c0 }
def k0m1 : Method := { name := "getClass", desc := "()Ljava/lang/Class;", sig := { parameters := [], returnType := some (.object "java/lang/Class") }, accessFlags := 273, code := none }
/-- java/lang/Object -/
def k0 : Class := { plain "java/lang/Object" none with
  accessFlags := 33
  interfaces := #[]
  cf := some (fileOf pool0 8 #[] #[{ accessFlags := 1, nameIndex := 5, descriptorIndex := 6, attributes := #[] }, { accessFlags := 273, nameIndex := 11, descriptorIndex := 12, attributes := #[] }] 33 0 #[] #[])
  fields := #[]
  methods := #[k0m0, k0m1]
  instanceTypes := #[]
  staticTypes := #[]
  resolved := Array.replicate 124 none
  statics := none }

def pool1 : Array CpInfo := pool [(2, .class_ 4), (0, .nameAndType 5 6), (0, u "java/lang/Object"), (0, u "<init>"), (0, u "()V"), (0, .class_ 8), (0, u "java/util/ArrayList"), (0, .methodref 7 3), (0, .class_ 11), (0, u "com/example/variaform/variaform/model/feature/Feature"), (0, .string 13), (0, u "a"), (0, .methodref 10 15), (0, .nameAndType 5 16), (0, u "(Ljava/lang/String;Ljava/util/List;)V"), (0, .methodref 7 18), (0, .nameAndType 19 20), (0, u "add"), (0, u "(Ljava/lang/Object;)Z"), (0, .integer 2147483647), (0, .class_ 23), (0, u "com/example/variaform/variaform/model/feature/Group"), (0, .methodref 25 26), (0, .class_ 27), (0, .nameAndType 28 29), (0, u "com/example/variaform/variaform/model/feature/GroupIsUpperUnboundedPinLaw"), (0, u "kindOf"), (0, u "(I)Lcom/example/variaform/variaform/model/feature/Group$Kind;"), (0, .methodref 22 31), (0, .nameAndType 5 32), (0, u "(Lcom/example/variaform/variaform/model/feature/Group$Kind;Ljava/util/List;)V"), (0, .methodref 22 34), (0, .nameAndType 35 36), (0, u "atLeast"), (0, u "(ILjava/util/List;)Lcom/example/variaform/variaform/model/feature/Group;"), (0, .methodref 22 38), (0, .nameAndType 5 39), (0, u "(IILjava/util/List;)V"), (0, .string 41), (0, u "b"), (0, .methodref 22 43), (0, .nameAndType 44 45), (0, u "withChildren"), (0, u "(Ljava/util/List;)Lcom/example/variaform/variaform/model/feature/Group;"), (0, .methodref 22 47), (0, .nameAndType 48 49), (0, u "isUpperUnbounded"), (0, u "()Z"), (0, .fieldref 51 52), (0, .class_ 53), (0, .nameAndType 54 55), (0, u "com/example/variaform/variaform/model/feature/Group$Kind"), (0, u "MANDATORY"), (0, u "Lcom/example/variaform/variaform/model/feature/Group$Kind;"), (0, .fieldref 51 57), (0, .nameAndType 58 55), (0, u "OPTIONAL"), (0, .fieldref 51 60), (0, .nameAndType 61 55), (0, u "OR"), (0, .fieldref 51 63), (0, .nameAndType 64 55), (0, u "ALTERNATIVE"), (2, u "law"), (0, u "(IIII)Z")] 5

def k1m0 : Method := { name := "<init>", desc := "()V", sig := { parameters := [], returnType := none }, accessFlags := 1, code := none }
def k1c1 : Code := { maxStack := 6, maxLocals := 11, code := code, exceptionTable := #[], attributes := #[] }
def k1m1 : Method := { name := "law", desc := "(IIII)Z", sig := { parameters := [.int, .int, .int, .int], returnType := some .boolean }, accessFlags := 9, code := some k1c1 }
def k1c2 : Code := { maxStack := 2, maxLocals := 1, code := method_3_code, exceptionTable := #[], attributes := #[] }
def k1m2 : Method := { name := "kindOf", desc := "(I)Lcom/example/variaform/variaform/model/feature/Group$Kind;", sig := { parameters := [.int], returnType := some (.object "com/example/variaform/variaform/model/feature/Group$Kind") }, accessFlags := 10, code := some k1c2 }
/-- com/example/variaform/variaform/model/feature/GroupIsUpperUnboundedPinLaw -/
def k1 : Class := { plain "com/example/variaform/variaform/model/feature/GroupIsUpperUnboundedPinLaw" (some 0) with
  accessFlags := 49
  interfaces := #[]
  cf := some (fileOf pool1 25 #[] #[{ accessFlags := 1, nameIndex := 5, descriptorIndex := 6, attributes := #[] }, { accessFlags := 9, nameIndex := 67, descriptorIndex := 68, attributes := #[] }, { accessFlags := 10, nameIndex := 28, descriptorIndex := 29, attributes := #[] }] 49 2 #[] #[])
  fields := #[]
  methods := #[k1m0, k1m1, k1m2]
  instanceTypes := #[]
  staticTypes := #[]
  resolved := Array.replicate 74 none
  statics := none }

def pool2 : Array CpInfo := pool [(8, .class_ 10), (1, u "java/lang/Iterable"), (24, .class_ 36), (0, u "java/lang/Object")] 25

/-- java/lang/Iterable -/
def k2 : Class := { plain "java/lang/Iterable" (some 0) with
  accessFlags := 1537
  interfaces := #[]
  cf := some (fileOf pool2 8 #[] #[] 1537 35 #[] #[])
  fields := #[]
  methods := #[]
  instanceTypes := #[]
  staticTypes := #[]
  resolved := Array.replicate 62 none
  statics := none }

def pool3 : Array CpInfo := pool [(10, .class_ 12), (1, u "java/util/Collection"), (0, u "toArray"), (16, u "()Z"), (29, .class_ 61), (0, u "java/lang/Object"), (0, .class_ 63), (0, u "java/lang/Iterable"), (2, u "isEmpty"), (3, u "()[Ljava/lang/Object;")] 44

def k3m0 : Method := { name := "isEmpty", desc := "()Z", sig := { parameters := [], returnType := some .boolean }, accessFlags := 1025, code := none }
def k3m1 : Method := { name := "toArray", desc := "()[Ljava/lang/Object;", sig := { parameters := [], returnType := some (.array (.object "java/lang/Object")) }, accessFlags := 1025, code := none }
/-- java/util/Collection -/
def k3 : Class := { plain "java/util/Collection" (some 0) with
  accessFlags := 1537
  interfaces := #[2]
  cf := some (fileOf pool3 10 #[] #[{ accessFlags := 1025, nameIndex := 66, descriptorIndex := 30, attributes := #[] }, { accessFlags := 1025, nameIndex := 13, descriptorIndex := 70, attributes := #[] }] 1537 60 #[62] #[])
  fields := #[]
  methods := #[k3m0, k3m1]
  instanceTypes := #[]
  staticTypes := #[]
  resolved := Array.replicate 115 none
  statics := none }

def pool4 : Array CpInfo := pool [(1, .methodref 2 3), (0, .class_ 4), (0, .nameAndType 5 6), (0, u "java/lang/Object"), (0, u "<init>"), (0, u "()V"), (1, .class_ 10), (1, u "java/util/AbstractCollection"), (0, u "size"), (0, u "()I"), (64, .class_ 78), (0, u "java/util/Collection")] 81

def k4c0 : Code := { maxStack := 1, maxLocals := 1, code := jdk_22_method_1_code, exceptionTable := #[], attributes := #[] }
def k4m0 : Method := { name := "<init>", desc := "()V", sig := { parameters := [], returnType := none }, accessFlags := 4, code := some k4c0 }
def k4m1 : Method := { name := "size", desc := "()I", sig := { parameters := [], returnType := some .int }, accessFlags := 1025, code := none }
/-- java/util/AbstractCollection -/
def k4 : Class := { plain "java/util/AbstractCollection" (some 0) with
  accessFlags := 1057
  interfaces := #[3]
  cf := some (fileOf pool4 8 #[] #[{ accessFlags := 4, nameIndex := 5, descriptorIndex := 6, attributes := #[] }, { accessFlags := 1025, nameIndex := 11, descriptorIndex := 12, attributes := #[] }] 1057 2 #[77] #[])
  fields := #[]
  methods := #[k4m0, k4m1]
  instanceTypes := #[]
  staticTypes := #[]
  resolved := Array.replicate 160 none
  statics := none }

def pool5 : Array CpInfo := pool [(8, .class_ 10), (1, u "java/util/SequencedCollection"), (15, .class_ 27), (0, u "java/lang/Object"), (0, .class_ 29), (0, u "java/util/Collection")] 27

/-- java/util/SequencedCollection -/
def k5 : Class := { plain "java/util/SequencedCollection" (some 0) with
  accessFlags := 1537
  interfaces := #[3]
  cf := some (fileOf pool5 8 #[] #[] 1537 26 #[28] #[])
  fields := #[]
  methods := #[]
  instanceTypes := #[]
  staticTypes := #[]
  resolved := Array.replicate 57 none
  statics := none }

def pool6 : Array CpInfo := pool [(8, .class_ 10), (1, u "java/util/List"), (20, u "(Ljava/lang/Object;)V"), (16, u "<init>"), (39, u "of"), (1, .fieldref 91 92), (0, .class_ 93), (0, .nameAndType 94 95), (0, u "java/util/ImmutableCollections"), (0, u "EMPTY_LIST"), (0, u "Ljava/util/ImmutableCollections$ListN;"), (0, .class_ 97), (0, u "java/util/ImmutableCollections$List12"), (0, .methodref 96 99), (0, .nameAndType 48 31), (3, .class_ 104), (0, u "java/lang/Object"), (3, u "([Ljava/lang/Object;)Ljava/util/List;"), (3, .methodref 91 113), (0, .nameAndType 114 115), (0, u "listCopy"), (0, u "(Ljava/util/Collection;)Ljava/util/List;"), (3, u "()Ljava/util/List;"), (0, .class_ 121), (0, u "java/util/SequencedCollection"), (1, u "iterator"), (0, u "()Ljava/util/Iterator;"), (109, u "copyOf")] 16

def k6m0 : Method := { name := "iterator", desc := "()Ljava/util/Iterator;", sig := { parameters := [], returnType := some (.object "java/util/Iterator") }, accessFlags := 1025, code := none }
def k6c1 : Code := { maxStack := 1, maxLocals := 0, code := jdk_40_method_36_code, exceptionTable := #[], attributes := #[] }
def k6m1 : Method := { name := "of", desc := "()Ljava/util/List;", sig := { parameters := [], returnType := some (.object "java/util/List") }, accessFlags := 9, code := some k6c1 }
def k6c2 : Code := { maxStack := 5, maxLocals := 2, code := jdk_40_method_47_code, exceptionTable := #[], attributes := #[] }
def k6m2 : Method := { name := "of", desc := "([Ljava/lang/Object;)Ljava/util/List;", sig := { parameters := [(.array (.object "java/lang/Object"))], returnType := some (.object "java/util/List") }, accessFlags := 137, code := some k6c2 }
def k6c3 : Code := { maxStack := 1, maxLocals := 1, code := jdk_40_method_48_code, exceptionTable := #[], attributes := #[] }
def k6m3 : Method := { name := "copyOf", desc := "(Ljava/util/Collection;)Ljava/util/List;", sig := { parameters := [(.object "java/util/Collection")], returnType := some (.object "java/util/List") }, accessFlags := 9, code := some k6c3 }
/-- java/util/List -/
def k6 : Class := { plain "java/util/List" (some 0) with
  accessFlags := 1537
  interfaces := #[5]
  cf := some (fileOf pool6 8 #[] #[{ accessFlags := 1025, nameIndex := 123, descriptorIndex := 124, attributes := #[] }, { accessFlags := 9, nameIndex := 88, descriptorIndex := 119, attributes := #[] }, { accessFlags := 137, nameIndex := 88, descriptorIndex := 108, attributes := #[] }, { accessFlags := 9, nameIndex := 234, descriptorIndex := 115, attributes := #[] }] 1537 103 #[120] #[])
  fields := #[]
  methods := #[k6m0, k6m1, k6m2, k6m3]
  instanceTypes := #[]
  staticTypes := #[]
  resolved := Array.replicate 251 none
  statics := none }

def pool7 : Array CpInfo := pool [(1, .methodref 2 3), (0, .class_ 4), (0, .nameAndType 5 6), (0, u "java/util/AbstractCollection"), (0, u "<init>"), (0, u "()V"), (0, .fieldref 8 9), (0, .class_ 10), (0, .nameAndType 11 12), (0, u "java/util/AbstractList"), (0, u "modCount"), (0, u "I"), (64, .class_ 78), (0, u "java/util/AbstractList$Itr"), (3, .class_ 83), (0, u "java/util/AbstractList$ListItr"), (9, .class_ 94), (0, u "java/util/AbstractList$RandomAccessSubList"), (3, .class_ 99), (0, u "java/util/AbstractList$SubList"), (33, .class_ 134), (0, u "java/util/List"), (73, .class_ 209), (0, u "java/util/AbstractList$SubList$1"), (0, .class_ 211), (0, u "java/util/AbstractList$RandomAccessSpliterator")] 6

def k7c0 : Code := { maxStack := 2, maxLocals := 1, code := jdk_39_method_1_code, exceptionTable := #[], attributes := #[] }
def k7m0 : Method := { name := "<init>", desc := "()V", sig := { parameters := [], returnType := none }, accessFlags := 4, code := some k7c0 }
/-- java/util/AbstractList -/
def k7 : Class := { plain "java/util/AbstractList" (some 4) with
  accessFlags := 1057
  interfaces := #[6]
  cf := some (fileOf pool7 8 #[.nestMembers #[93, 98, 208, 210, 82, 77]] #[{ accessFlags := 4, nameIndex := 5, descriptorIndex := 6, attributes := #[] }] 1057 2 #[133] #[{ accessFlags := 132, nameIndex := 11, descriptorIndex := 12, attributes := #[] }])
  fields := #[{ name := "modCount", type := .int, accessFlags := 132, slot := 0, constantValue := 0 }]
  methods := #[k7m0]
  instanceTypes := #[.int]
  staticTypes := #[]
  resolved := Array.replicate 218 none
  statics := none }

def pool8 : Array CpInfo := pool [(1, .class_ 2), (0, u "java/util/RandomAccess"), (0, .class_ 4), (0, u "java/lang/Object")] 2

/-- java/util/RandomAccess -/
def k8 : Class := { plain "java/util/RandomAccess" (some 0) with
  accessFlags := 1537
  interfaces := #[]
  cf := some (fileOf pool8 1 #[] #[] 1537 3 #[] #[])
  fields := #[]
  methods := #[]
  instanceTypes := #[]
  staticTypes := #[]
  resolved := Array.replicate 7 none
  statics := none }

def pool9 : Array CpInfo := pool [(1, .class_ 2), (0, u "java/lang/Cloneable"), (0, .class_ 4), (0, u "java/lang/Object")] 2

/-- java/lang/Cloneable -/
def k9 : Class := { plain "java/lang/Cloneable" (some 0) with
  accessFlags := 1537
  interfaces := #[]
  cf := some (fileOf pool9 1 #[] #[] 1537 3 #[] #[])
  fields := #[]
  methods := #[]
  instanceTypes := #[]
  staticTypes := #[]
  resolved := Array.replicate 7 none
  statics := none }

def pool10 : Array CpInfo := pool [(1, .class_ 2), (0, u "java/io/Serializable"), (0, .class_ 4), (0, u "java/lang/Object")] 2

/-- java/io/Serializable -/
def k10 : Class := { plain "java/io/Serializable" (some 0) with
  accessFlags := 1537
  interfaces := #[]
  cf := some (fileOf pool10 1 #[] #[] 1537 3 #[] #[])
  fields := #[]
  methods := #[]
  instanceTypes := #[]
  staticTypes := #[]
  resolved := Array.replicate 7 none
  statics := none }

def pool11 : Array CpInfo := pool [(1, .methodref 2 3), (0, .class_ 4), (0, .nameAndType 5 6), (0, u "java/util/AbstractList"), (0, u "<init>"), (0, u "()V"), (0, .class_ 8), (0, u "java/lang/Object"), (0, .fieldref 10 11), (0, .class_ 12), (0, .nameAndType 13 14), (0, u "java/util/ArrayList"), (0, u "elementData"), (0, u "[Ljava/lang/Object;"), (2, u "EMPTY_ELEMENTDATA"), (21, .fieldref 10 40), (0, .nameAndType 41 14), (0, u "DEFAULTCAPACITY_EMPTY_ELEMENTDATA"), (4, u "toArray"), (0, u "()[Ljava/lang/Object;"), (0, .fieldref 10 49), (0, .nameAndType 50 51), (0, u "size"), (0, u "I"), (6, .class_ 60), (1, u "java/util/Arrays"), (0, u "copyOf"), (1, .fieldref 10 64), (0, .nameAndType 65 51), (0, u "modCount"), (0, .methodref 58 67), (0, .nameAndType 61 68), (0, u "([Ljava/lang/Object;I)[Ljava/lang/Object;"), (0, .methodref 10 70), (0, .nameAndType 71 72), (0, u "grow"), (0, u "(I)[Ljava/lang/Object;"), (6, .methodref 80 81), (0, .class_ 82), (0, .nameAndType 83 84), (0, u "java/lang/Math"), (0, u "max"), (0, u "(II)I"), (11, u "(Ljava/lang/Object;)Z"), (32, .methodref 10 130), (0, .nameAndType 71 47), (0, .methodref 10 132), (0, .nameAndType 133 134), (0, u "add"), (0, u "(Ljava/lang/Object;[Ljava/lang/Object;I)V"), (13, .class_ 149), (0, u "java/util/List"), (23, u "()Z"), (88, .class_ 263), (0, u "java/util/ArrayList$ListItr"), (3, .class_ 268), (0, u "java/util/ArrayList$Itr"), (7, .class_ 277), (0, u "java/util/ArrayList$SubList"), (12, .class_ 291), (0, u "java/util/ArrayList$ArrayListSpliterator"), (37, .class_ 330), (0, u "java/util/RandomAccess"), (0, .class_ 332), (0, u "java/lang/Cloneable"), (0, .class_ 334), (0, u "java/io/Serializable"), (0, u "serialVersionUID"), (0, u "J"), (3, u "DEFAULT_CAPACITY"), (22, u "isEmpty"), (136, .class_ 501), (0, u "java/util/ArrayList$SubList$2"), (0, .class_ 503), (0, u "java/util/ArrayList$SubList$1")] 5

def k11c0 : Code := { maxStack := 2, maxLocals := 1, code := jdk_38_method_2_code, exceptionTable := #[], attributes := #[] }
def k11m0 : Method := { name := "<init>", desc := "()V", sig := { parameters := [], returnType := none }, accessFlags := 1, code := some k11c0 }
def k11c1 : Code := { maxStack := 4, maxLocals := 4, code := jdk_38_method_6_code, exceptionTable := #[], attributes := #[] }
def k11m1 : Method := { name := "grow", desc := "(I)[Ljava/lang/Object;", sig := { parameters := [.int], returnType := some (.array (.object "java/lang/Object")) }, accessFlags := 2, code := some k11c1 }
def k11c2 : Code := { maxStack := 3, maxLocals := 1, code := jdk_38_method_7_code, exceptionTable := #[], attributes := #[] }
def k11m2 : Method := { name := "grow", desc := "()[Ljava/lang/Object;", sig := { parameters := [], returnType := some (.array (.object "java/lang/Object")) }, accessFlags := 2, code := some k11c2 }
def k11c3 : Code := { maxStack := 1, maxLocals := 1, code := jdk_38_method_9_code, exceptionTable := #[], attributes := #[] }
def k11m3 : Method := { name := "isEmpty", desc := "()Z", sig := { parameters := [], returnType := some .boolean }, accessFlags := 1, code := some k11c3 }
def k11c4 : Code := { maxStack := 2, maxLocals := 1, code := jdk_38_method_16_code, exceptionTable := #[], attributes := #[] }
def k11m4 : Method := { name := "toArray", desc := "()[Ljava/lang/Object;", sig := { parameters := [], returnType := some (.array (.object "java/lang/Object")) }, accessFlags := 1, code := some k11c4 }
def k11c5 : Code := { maxStack := 3, maxLocals := 4, code := jdk_38_method_24_code, exceptionTable := #[], attributes := #[] }
def k11m5 : Method := { name := "add", desc := "(Ljava/lang/Object;[Ljava/lang/Object;I)V", sig := { parameters := [(.object "java/lang/Object"), (.array (.object "java/lang/Object")), .int], returnType := none }, accessFlags := 2, code := some k11c5 }
def k11c6 : Code := { maxStack := 4, maxLocals := 2, code := jdk_38_method_25_code, exceptionTable := #[], attributes := #[] }
def k11m6 : Method := { name := "add", desc := "(Ljava/lang/Object;)Z", sig := { parameters := [(.object "java/lang/Object")], returnType := some .boolean }, accessFlags := 1, code := some k11c6 }
/-- java/util/ArrayList -/
def k11 : Class := { plain "java/util/ArrayList" (some 7) with
  accessFlags := 33
  interfaces := #[6, 8, 9, 10]
  cf := some (fileOf pool11 10 #[.nestMembers #[290, 276, 500, 502, 262, 267]] #[{ accessFlags := 1, nameIndex := 5, descriptorIndex := 6, attributes := #[] }, { accessFlags := 2, nameIndex := 71, descriptorIndex := 72, attributes := #[] }, { accessFlags := 2, nameIndex := 71, descriptorIndex := 47, attributes := #[] }, { accessFlags := 1, nameIndex := 363, descriptorIndex := 173, attributes := #[] }, { accessFlags := 1, nameIndex := 46, descriptorIndex := 47, attributes := #[] }, { accessFlags := 2, nameIndex := 133, descriptorIndex := 134, attributes := #[] }, { accessFlags := 1, nameIndex := 133, descriptorIndex := 96, attributes := #[] }] 33 2 #[148, 329, 331, 333] #[{ accessFlags := 26, nameIndex := 335, descriptorIndex := 336, attributes := #[] }, { accessFlags := 26, nameIndex := 340, descriptorIndex := 51, attributes := #[] }, { accessFlags := 26, nameIndex := 17, descriptorIndex := 14, attributes := #[] }, { accessFlags := 26, nameIndex := 41, descriptorIndex := 14, attributes := #[] }, { accessFlags := 128, nameIndex := 13, descriptorIndex := 14, attributes := #[] }, { accessFlags := 2, nameIndex := 50, descriptorIndex := 51, attributes := #[] }])
  fields := #[{ name := "serialVersionUID", type := .long, accessFlags := 26, slot := 0, constantValue := 0 }, { name := "DEFAULT_CAPACITY", type := .int, accessFlags := 26, slot := 1, constantValue := 0 }, { name := "EMPTY_ELEMENTDATA", type := (.array (.object "java/lang/Object")), accessFlags := 26, slot := 2, constantValue := 0 }, { name := "DEFAULTCAPACITY_EMPTY_ELEMENTDATA", type := (.array (.object "java/lang/Object")), accessFlags := 26, slot := 3, constantValue := 0 }, { name := "elementData", type := (.array (.object "java/lang/Object")), accessFlags := 128, slot := 1, constantValue := 0 }, { name := "size", type := .int, accessFlags := 2, slot := 2, constantValue := 0 }]
  methods := #[k11m0, k11m1, k11m2, k11m3, k11m4, k11m5, k11m6]
  instanceTypes := #[.int, (.array (.object "java/lang/Object")), .int]
  staticTypes := #[.long, .int, (.array (.object "java/lang/Object")), (.array (.object "java/lang/Object"))]
  resolved := Array.replicate 509 none
  statics := some 0 }

def pool12 : Array CpInfo := pool [(1, .fieldref 2 3), (0, .class_ 4), (0, .nameAndType 5 6), (0, u "com/example/variaform/variaform/model/feature/Group$Kind"), (0, u "INTERVAL"), (0, u "Lcom/example/variaform/variaform/model/feature/Group$Kind;"), (0, .fieldref 8 9), (0, .class_ 10), (0, .nameAndType 11 12), (0, u "com/example/variaform/variaform/model/feature/Comments"), (0, u "NONE"), (0, u "Lcom/example/variaform/variaform/model/feature/Comments;"), (0, .methodref 14 15), (0, .class_ 16), (0, .nameAndType 17 18), (0, u "com/example/variaform/variaform/model/feature/Group"), (0, u "<init>"), (0, u "(Lcom/example/variaform/variaform/model/feature/Group$Kind;IILjava/util/List;Lcom/example/variaform/variaform/model/feature/Comments;)V"), (15, .methodref 35 36), (0, .class_ 37), (0, .nameAndType 17 38), (0, u "java/lang/Object"), (0, u "()V"), (0, .fieldref 14 40), (0, .nameAndType 41 6), (0, u "kind"), (0, .fieldref 14 43), (0, .nameAndType 44 45), (0, u "lower"), (0, u "I"), (0, .fieldref 14 47), (0, .nameAndType 48 45), (0, u "upper"), (0, .interfaceMethodref 50 51), (0, .class_ 52), (0, .nameAndType 53 54), (0, u "java/util/List"), (0, u "copyOf"), (0, u "(Ljava/util/Collection;)Ljava/util/List;"), (0, .fieldref 14 56), (0, .nameAndType 57 58), (0, u "children"), (0, u "Ljava/util/List;"), (0, .fieldref 14 60), (0, .nameAndType 61 12), (0, u "comments"), (26, u "ALL_CHILDREN"), (4, u "(IILjava/util/List;)V"), (4, u "(Lcom/example/variaform/variaform/model/feature/Group$Kind;Ljava/util/List;)V"), (2, u "atLeast"), (0, u "(ILjava/util/List;)Lcom/example/variaform/variaform/model/feature/Group;"), (1, u "withChildren"), (0, u "(Ljava/util/List;)Lcom/example/variaform/variaform/model/feature/Group;"), (4, u "isUpperUnbounded"), (0, u "()Z")] 31

def k12c0 : Code := { maxStack := 6, maxLocals := 4, code := prog_39_method_1_code, exceptionTable := #[], attributes := #[] }
def k12m0 : Method := { name := "<init>", desc := "(IILjava/util/List;)V", sig := { parameters := [.int, .int, (.object "java/util/List")], returnType := none }, accessFlags := 1, code := some k12c0 }
def k12c1 : Code := { maxStack := 6, maxLocals := 3, code := prog_39_method_2_code, exceptionTable := #[], attributes := #[] }
def k12m1 : Method := { name := "<init>", desc := "(Lcom/example/variaform/variaform/model/feature/Group$Kind;Ljava/util/List;)V", sig := { parameters := [(.object "com/example/variaform/variaform/model/feature/Group$Kind"), (.object "java/util/List")], returnType := none }, accessFlags := 1, code := some k12c1 }
def k12c2 : Code := { maxStack := 2, maxLocals := 6, code := prog_39_method_3_code, exceptionTable := #[], attributes := #[] }
def k12m2 : Method := { name := "<init>", desc := "(Lcom/example/variaform/variaform/model/feature/Group$Kind;IILjava/util/List;Lcom/example/variaform/variaform/model/feature/Comments;)V", sig := { parameters := [(.object "com/example/variaform/variaform/model/feature/Group$Kind"), .int, .int, (.object "java/util/List"), (.object "com/example/variaform/variaform/model/feature/Comments")], returnType := none }, accessFlags := 2, code := some k12c2 }
def k12c3 : Code := { maxStack := 7, maxLocals := 2, code := prog_39_method_4_code, exceptionTable := #[], attributes := #[] }
def k12m3 : Method := { name := "atLeast", desc := "(ILjava/util/List;)Lcom/example/variaform/variaform/model/feature/Group;", sig := { parameters := [.int, (.object "java/util/List")], returnType := some (.object "com/example/variaform/variaform/model/feature/Group") }, accessFlags := 9, code := some k12c3 }
def k12c4 : Code := { maxStack := 7, maxLocals := 2, code := prog_39_method_6_code, exceptionTable := #[], attributes := #[] }
def k12m4 : Method := { name := "withChildren", desc := "(Ljava/util/List;)Lcom/example/variaform/variaform/model/feature/Group;", sig := { parameters := [(.object "java/util/List")], returnType := some (.object "com/example/variaform/variaform/model/feature/Group") }, accessFlags := 1, code := some k12c4 }
def k12c5 : Code := { maxStack := 2, maxLocals := 1, code := prog_39_method_11_code, exceptionTable := #[], attributes := #[] }
def k12m5 : Method := { name := "isUpperUnbounded", desc := "()Z", sig := { parameters := [], returnType := some .boolean }, accessFlags := 1, code := some k12c5 }
/-- com/example/variaform/variaform/model/feature/Group -/
def k12 : Class := { plain "com/example/variaform/variaform/model/feature/Group" (some 0) with
  accessFlags := 33
  interfaces := #[]
  cf := some (fileOf pool12 14 #[.nestMembers #[2]] #[{ accessFlags := 1, nameIndex := 17, descriptorIndex := 93, attributes := #[] }, { accessFlags := 1, nameIndex := 17, descriptorIndex := 98, attributes := #[] }, { accessFlags := 2, nameIndex := 17, descriptorIndex := 18, attributes := #[] }, { accessFlags := 9, nameIndex := 101, descriptorIndex := 102, attributes := #[] }, { accessFlags := 1, nameIndex := 104, descriptorIndex := 105, attributes := #[] }, { accessFlags := 1, nameIndex := 110, descriptorIndex := 111, attributes := #[] }] 33 35 #[] #[{ accessFlags := 26, nameIndex := 88, descriptorIndex := 45, attributes := #[] }, { accessFlags := 18, nameIndex := 41, descriptorIndex := 6, attributes := #[] }, { accessFlags := 18, nameIndex := 44, descriptorIndex := 45, attributes := #[] }, { accessFlags := 18, nameIndex := 48, descriptorIndex := 45, attributes := #[] }, { accessFlags := 18, nameIndex := 57, descriptorIndex := 58, attributes := #[] }, { accessFlags := 18, nameIndex := 61, descriptorIndex := 12, attributes := #[] }])
  fields := #[{ name := "ALL_CHILDREN", type := .int, accessFlags := 26, slot := 0, constantValue := 0 }, { name := "kind", type := (.object "com/example/variaform/variaform/model/feature/Group$Kind"), accessFlags := 18, slot := 0, constantValue := 0 }, { name := "lower", type := .int, accessFlags := 18, slot := 1, constantValue := 0 }, { name := "upper", type := .int, accessFlags := 18, slot := 2, constantValue := 0 }, { name := "children", type := (.object "java/util/List"), accessFlags := 18, slot := 3, constantValue := 0 }, { name := "comments", type := (.object "com/example/variaform/variaform/model/feature/Comments"), accessFlags := 18, slot := 4, constantValue := 0 }]
  methods := #[k12m0, k12m1, k12m2, k12m3, k12m4, k12m5]
  instanceTypes := #[(.object "com/example/variaform/variaform/model/feature/Group$Kind"), .int, .int, (.object "java/util/List"), (.object "com/example/variaform/variaform/model/feature/Comments")]
  staticTypes := #[.int]
  resolved := Array.replicate 143 none
  statics := none }

def pool13 : Array CpInfo := pool [(1, .class_ 2), (0, u "java/lang/constant/Constable"), (0, .class_ 4), (0, u "java/lang/Object")] 6

/-- java/lang/constant/Constable -/
def k13 : Class := { plain "java/lang/constant/Constable" (some 0) with
  accessFlags := 1537
  interfaces := #[]
  cf := some (fileOf pool13 1 #[] #[] 1537 3 #[] #[])
  fields := #[]
  methods := #[]
  instanceTypes := #[]
  staticTypes := #[]
  resolved := Array.replicate 11 none
  statics := none }

def pool14 : Array CpInfo := pool [(1, .class_ 2), (0, u "java/lang/Comparable"), (0, .class_ 4), (0, u "java/lang/Object")] 7

/-- java/lang/Comparable -/
def k14 : Class := { plain "java/lang/Comparable" (some 0) with
  accessFlags := 1537
  interfaces := #[]
  cf := some (fileOf pool14 1 #[] #[] 1537 3 #[] #[])
  fields := #[]
  methods := #[]
  instanceTypes := #[]
  staticTypes := #[]
  resolved := Array.replicate 12 none
  statics := none }

def pool15 : Array CpInfo := pool [(2, .class_ 4), (1, u "java/lang/Enum"), (0, u "name"), (0, u "Ljava/lang/String;"), (2, u "ordinal"), (0, u "I"), (1, .class_ 14), (1, u "java/lang/Object"), (4, u "hash"), (86, .class_ 108), (1, u "java/lang/Enum$EnumDesc"), (2, .class_ 112), (0, u "java/lang/constant/Constable"), (0, .class_ 114), (0, u "java/lang/Comparable"), (0, .class_ 116), (0, u "java/io/Serializable")] 87

/-- java/lang/Enum -/
def k15 : Class := { plain "java/lang/Enum" (some 0) with
  accessFlags := 1057
  interfaces := #[13, 14, 10]
  cf := some (fileOf pool15 2 #[.nestMembers #[106]] #[] 1057 12 #[111, 113, 115] #[{ accessFlags := 18, nameIndex := 5, descriptorIndex := 6, attributes := #[] }, { accessFlags := 18, nameIndex := 9, descriptorIndex := 10, attributes := #[] }, { accessFlags := 2, nameIndex := 19, descriptorIndex := 10, attributes := #[] }])
  fields := #[{ name := "name", type := (.object "java/lang/String"), accessFlags := 18, slot := 0, constantValue := 0 }, { name := "ordinal", type := .int, accessFlags := 18, slot := 1, constantValue := 0 }, { name := "hash", type := .int, accessFlags := 2, slot := 2, constantValue := 0 }]
  methods := #[]
  instanceTypes := #[(.object "java/lang/String"), .int, .int]
  staticTypes := #[]
  resolved := Array.replicate 204 none
  statics := none }

def pool16 : Array CpInfo := pool [(1, .class_ 2), (0, u "com/example/variaform/variaform/model/feature/Group$Kind"), (2, u "MANDATORY"), (0, u "Lcom/example/variaform/variaform/model/feature/Group$Kind;"), (2, u "OPTIONAL"), (2, u "OR"), (2, u "ALTERNATIVE"), (2, u "INTERVAL"), (2, u "$VALUES"), (0, u "[Lcom/example/variaform/variaform/model/feature/Group$Kind;"), (6, .class_ 31), (1, u "java/lang/Enum"), (55, .class_ 88), (0, u "com/example/variaform/variaform/model/feature/Group")] 2

/-- com/example/variaform/variaform/model/feature/Group$Kind -/
def k16 : Class := { plain "com/example/variaform/variaform/model/feature/Group$Kind" (some 15) with
  accessFlags := 16433
  interfaces := #[]
  cf := some (fileOf pool16 1 #[.nestHost 87] #[] 16433 29 #[] #[{ accessFlags := 16409, nameIndex := 5, descriptorIndex := 6, attributes := #[] }, { accessFlags := 16409, nameIndex := 9, descriptorIndex := 6, attributes := #[] }, { accessFlags := 16409, nameIndex := 12, descriptorIndex := 6, attributes := #[] }, { accessFlags := 16409, nameIndex := 15, descriptorIndex := 6, attributes := #[] }, { accessFlags := 16409, nameIndex := 18, descriptorIndex := 6, attributes := #[] }, { accessFlags := 4122, nameIndex := 21, descriptorIndex := 22, attributes := #[] }])
  fields := #[{ name := "MANDATORY", type := (.object "com/example/variaform/variaform/model/feature/Group$Kind"), accessFlags := 16409, slot := 0, constantValue := 0 }, { name := "OPTIONAL", type := (.object "com/example/variaform/variaform/model/feature/Group$Kind"), accessFlags := 16409, slot := 1, constantValue := 0 }, { name := "OR", type := (.object "com/example/variaform/variaform/model/feature/Group$Kind"), accessFlags := 16409, slot := 2, constantValue := 0 }, { name := "ALTERNATIVE", type := (.object "com/example/variaform/variaform/model/feature/Group$Kind"), accessFlags := 16409, slot := 3, constantValue := 0 }, { name := "INTERVAL", type := (.object "com/example/variaform/variaform/model/feature/Group$Kind"), accessFlags := 16409, slot := 4, constantValue := 0 }, { name := "$VALUES", type := (.array (.object "com/example/variaform/variaform/model/feature/Group$Kind")), accessFlags := 4122, slot := 5, constantValue := 0 }]
  methods := #[]
  instanceTypes := #[(.object "java/lang/String"), .int, .int]
  staticTypes := #[(.object "com/example/variaform/variaform/model/feature/Group$Kind"), (.object "com/example/variaform/variaform/model/feature/Group$Kind"), (.object "com/example/variaform/variaform/model/feature/Group$Kind"), (.object "com/example/variaform/variaform/model/feature/Group$Kind"), (.object "com/example/variaform/variaform/model/feature/Group$Kind"), (.array (.object "com/example/variaform/variaform/model/feature/Group$Kind"))]
  resolved := Array.replicate 91 none
  statics := some 1 }

def pool17 : Array CpInfo := pool [(2, .class_ 4), (1, u "java/lang/Object"), (9, .class_ 16), (1, u "com/example/variaform/variaform/model/feature/Comments"), (0, u "before"), (0, u "Ljava/util/List;"), (2, u "after"), (0, u "Ljava/lang/String;"), (9, u "NONE"), (0, u "Lcom/example/variaform/variaform/model/feature/Comments;")] 10

/-- com/example/variaform/variaform/model/feature/Comments -/
def k17 : Class := { plain "com/example/variaform/variaform/model/feature/Comments" (some 0) with
  accessFlags := 33
  interfaces := #[]
  cf := some (fileOf pool17 14 #[] #[] 33 2 #[] #[{ accessFlags := 25, nameIndex := 32, descriptorIndex := 33, attributes := #[] }, { accessFlags := 18, nameIndex := 17, descriptorIndex := 18, attributes := #[] }, { accessFlags := 18, nameIndex := 21, descriptorIndex := 22, attributes := #[] }])
  fields := #[{ name := "NONE", type := (.object "com/example/variaform/variaform/model/feature/Comments"), accessFlags := 25, slot := 0, constantValue := 0 }, { name := "before", type := (.object "java/util/List"), accessFlags := 18, slot := 0, constantValue := 0 }, { name := "after", type := (.object "java/lang/String"), accessFlags := 18, slot := 1, constantValue := 0 }]
  methods := #[]
  instanceTypes := #[(.object "java/util/List"), (.object "java/lang/String")]
  staticTypes := #[(.object "com/example/variaform/variaform/model/feature/Comments")]
  resolved := Array.replicate 44 none
  statics := some 2 }

def pool18 : Array CpInfo := pool [(2, .class_ 4), (1, u "java/lang/Object"), (0, u "<init>"), (0, u "()V"), (3, .class_ 11), (0, u "java/util/ImmutableCollections$List12"), (0, .class_ 13), (0, u "java/util/ImmutableCollections$ListN"), (0, .fieldref 12 15), (0, .nameAndType 16 17), (0, u "allowNulls"), (0, u "Z"), (0, .class_ 19), (0, u "java/util/List"), (0, .interfaceMethodref 21 22), (0, .class_ 23), (0, .nameAndType 24 25), (0, u "java/util/Collection"), (0, u "isEmpty"), (0, u "()Z"), (0, .interfaceMethodref 18 27), (0, .nameAndType 28 29), (0, u "of"), (0, u "()Ljava/util/List;"), (0, .interfaceMethodref 21 31), (0, .nameAndType 32 33), (0, u "toArray"), (0, u "()[Ljava/lang/Object;"), (0, .interfaceMethodref 18 35), (0, .nameAndType 28 36), (0, u "([Ljava/lang/Object;)Ljava/util/List;"), (10, .class_ 49), (1, u "java/util/ImmutableCollections"), (0, u "$assertionsDisabled"), (5, u "[Ljava/lang/Object;"), (5, u "EMPTY_LIST"), (0, u "Ljava/util/ImmutableCollections$ListN;"), (8, u "EMPTY_LIST_NULLS"), (22, u "SALT32L"), (0, u "J"), (2, u "REVERSE"), (6, u "archivedObjects"), (2, u "EMPTY"), (0, u "Ljava/lang/Object;"), (0, .class_ 112), (0, u "java/util/ImmutableCollections$SetN"), (5, u "EMPTY_SET"), (0, u "Ljava/util/ImmutableCollections$SetN;"), (0, .class_ 121), (0, u "java/util/ImmutableCollections$MapN"), (3, u "EMPTY_MAP"), (0, u "Ljava/util/ImmutableCollections$MapN;"), (4, u "EXPAND_FACTOR"), (0, u "I"), (9, u "listCopy"), (0, u "(Ljava/util/Collection;)Ljava/util/List;"), (25, .class_ 170), (0, u "java/util/ImmutableCollections$MapN$MapNIterator"), (0, .class_ 172), (0, u "java/util/ImmutableCollections$MapN$1"), (0, .class_ 174), (0, u "java/util/ImmutableCollections$Map1"), (0, .class_ 176), (0, u "java/util/ImmutableCollections$AbstractImmutableMap"), (0, .class_ 178), (0, u "java/util/ImmutableCollections$SetN$SetNIterator"), (0, .class_ 180), (0, u "java/util/ImmutableCollections$Set12"), (0, .class_ 182), (0, u "java/util/ImmutableCollections$Set12$1"), (0, .class_ 184), (0, u "java/util/ImmutableCollections$AbstractImmutableSet"), (0, .class_ 186), (0, u "java/util/ImmutableCollections$SubList"), (0, .class_ 188), (0, u "java/util/ImmutableCollections$ListItr"), (0, .class_ 190), (0, u "java/util/ImmutableCollections$AbstractImmutableList"), (0, .class_ 192), (0, u "java/util/ImmutableCollections$AbstractImmutableCollection"), (0, .class_ 194), (0, u "java/util/ImmutableCollections$Access"), (0, .class_ 196), (0, u "java/util/ImmutableCollections$Access$1")] 16

def k18m0 : Method := { name := "<init>", desc := "()V", sig := { parameters := [], returnType := none }, accessFlags := 2, code := none }
def k18c1 : Code := { maxStack := 1, maxLocals := 2, code := jdk_56_method_3_code, exceptionTable := #[], attributes := #[] }
def k18m1 : Method := { name := "listCopy", desc := "(Ljava/util/Collection;)Ljava/util/List;", sig := { parameters := [(.object "java/util/Collection")], returnType := some (.object "java/util/List") }, accessFlags := 8, code := some k18c1 }
/-- java/util/ImmutableCollections -/
def k18 : Class := { plain "java/util/ImmutableCollections" (some 0) with
  accessFlags := 32
  interfaces := #[]
  cf := some (fileOf pool18 47 #[.nestMembers #[120, 169, 171, 173, 175, 111, 177, 179, 181, 183, 12, 10, 185, 187, 189, 191, 193, 195]] #[{ accessFlags := 2, nameIndex := 5, descriptorIndex := 6, attributes := #[] }, { accessFlags := 8, nameIndex := 142, descriptorIndex := 143, attributes := #[] }] 32 2 #[] #[{ accessFlags := 26, nameIndex := 95, descriptorIndex := 96, attributes := #[] }, { accessFlags := 26, nameIndex := 99, descriptorIndex := 17, attributes := #[] }, { accessFlags := 10, nameIndex := 106, descriptorIndex := 56, attributes := #[] }, { accessFlags := 26, nameIndex := 109, descriptorIndex := 110, attributes := #[] }, { accessFlags := 24, nameIndex := 62, descriptorIndex := 63, attributes := #[] }, { accessFlags := 24, nameIndex := 72, descriptorIndex := 63, attributes := #[] }, { accessFlags := 24, nameIndex := 118, descriptorIndex := 119, attributes := #[] }, { accessFlags := 24, nameIndex := 125, descriptorIndex := 126, attributes := #[] }, { accessFlags := 24, nameIndex := 131, descriptorIndex := 132, attributes := #[] }, { accessFlags := 4120, nameIndex := 50, descriptorIndex := 17, attributes := #[] }])
  fields := #[{ name := "SALT32L", type := .long, accessFlags := 26, slot := 0, constantValue := 0 }, { name := "REVERSE", type := .boolean, accessFlags := 26, slot := 1, constantValue := 0 }, { name := "archivedObjects", type := (.array (.object "java/lang/Object")), accessFlags := 10, slot := 2, constantValue := 0 }, { name := "EMPTY", type := (.object "java/lang/Object"), accessFlags := 26, slot := 3, constantValue := 0 }, { name := "EMPTY_LIST", type := (.object "java/util/ImmutableCollections$ListN"), accessFlags := 24, slot := 4, constantValue := 0 }, { name := "EMPTY_LIST_NULLS", type := (.object "java/util/ImmutableCollections$ListN"), accessFlags := 24, slot := 5, constantValue := 0 }, { name := "EMPTY_SET", type := (.object "java/util/ImmutableCollections$SetN"), accessFlags := 24, slot := 6, constantValue := 0 }, { name := "EMPTY_MAP", type := (.object "java/util/ImmutableCollections$MapN"), accessFlags := 24, slot := 7, constantValue := 0 }, { name := "EXPAND_FACTOR", type := .int, accessFlags := 24, slot := 8, constantValue := 0 }, { name := "$assertionsDisabled", type := .boolean, accessFlags := 4120, slot := 9, constantValue := 0 }]
  methods := #[k18m0, k18m1]
  instanceTypes := #[]
  staticTypes := #[.long, .boolean, (.array (.object "java/lang/Object")), (.object "java/lang/Object"), (.object "java/util/ImmutableCollections$ListN"), (.object "java/util/ImmutableCollections$ListN"), (.object "java/util/ImmutableCollections$SetN"), (.object "java/util/ImmutableCollections$MapN"), .int, .boolean]
  resolved := Array.replicate 213 none
  statics := some 3 }

def pool19 : Array CpInfo := pool [(1, .methodref 2 3), (0, .class_ 4), (0, .nameAndType 5 6), (0, u "java/util/AbstractCollection"), (0, u "<init>"), (0, u "()V"), (1, .class_ 10), (1, u "java/util/ImmutableCollections"), (2, .class_ 14), (0, u "java/util/ImmutableCollections$AbstractImmutableCollection")] 41

def k19c0 : Code := { maxStack := 1, maxLocals := 1, code := jdk_47_method_1_code, exceptionTable := #[], attributes := #[] }
def k19m0 : Method := { name := "<init>", desc := "()V", sig := { parameters := [], returnType := none }, accessFlags := 0, code := some k19c0 }
/-- java/util/ImmutableCollections$AbstractImmutableCollection -/
def k19 : Class := { plain "java/util/ImmutableCollections$AbstractImmutableCollection" (some 4) with
  accessFlags := 1056
  interfaces := #[]
  cf := some (fileOf pool19 13 #[.nestHost 8] #[{ accessFlags := 0, nameIndex := 5, descriptorIndex := 6, attributes := #[] }] 1056 2 #[] #[])
  fields := #[]
  methods := #[k19m0]
  instanceTypes := #[]
  staticTypes := #[]
  resolved := Array.replicate 56 none
  statics := none }

def pool20 : Array CpInfo := pool [(1, .methodref 2 3), (0, .class_ 4), (0, .nameAndType 5 6), (0, u "java/util/ImmutableCollections$AbstractImmutableCollection"), (0, u "<init>"), (0, u "()V"), (1, .class_ 10), (1, u "java/util/ImmutableCollections"), (2, .methodref 14 15), (0, .class_ 16), (0, .nameAndType 17 18), (0, u "java/util/ImmutableCollections$AbstractImmutableList"), (0, u "size"), (0, u "()I"), (42, .class_ 62), (0, u "java/util/ImmutableCollections$ListItr"), (0, .methodref 61 64), (0, .nameAndType 5 65), (0, u "(Ljava/util/List;I)V"), (11, .class_ 78), (0, u "java/util/List"), (2, u "iterator"), (0, u "()Ljava/util/Iterator;"), (41, .class_ 125), (0, u "java/util/RandomAccess")] 70

def k20c0 : Code := { maxStack := 1, maxLocals := 1, code := jdk_46_method_1_code, exceptionTable := #[], attributes := #[] }
def k20m0 : Method := { name := "<init>", desc := "()V", sig := { parameters := [], returnType := none }, accessFlags := 0, code := some k20c0 }
def k20c1 : Code := { maxStack := 4, maxLocals := 1, code := jdk_46_method_10_code, exceptionTable := #[], attributes := #[] }
def k20m1 : Method := { name := "iterator", desc := "()Ljava/util/Iterator;", sig := { parameters := [], returnType := some (.object "java/util/Iterator") }, accessFlags := 1, code := some k20c1 }
/-- java/util/ImmutableCollections$AbstractImmutableList -/
def k20 : Class := { plain "java/util/ImmutableCollections$AbstractImmutableList" (some 19) with
  accessFlags := 1056
  interfaces := #[6, 8]
  cf := some (fileOf pool20 14 #[.nestHost 8] #[{ accessFlags := 0, nameIndex := 5, descriptorIndex := 6, attributes := #[] }, { accessFlags := 1, nameIndex := 81, descriptorIndex := 82, attributes := #[] }] 1056 2 #[77, 124] #[])
  fields := #[]
  methods := #[k20m0, k20m1]
  instanceTypes := #[]
  staticTypes := #[]
  resolved := Array.replicate 196 none
  statics := none }

def pool21 : Array CpInfo := pool [(1, .methodref 2 3), (0, .class_ 4), (0, .nameAndType 5 6), (0, u "java/util/ImmutableCollections$AbstractImmutableList"), (0, u "<init>"), (0, u "()V"), (0, .methodref 8 9), (0, .class_ 10), (0, .nameAndType 11 12), (0, u "java/util/Objects"), (0, u "requireNonNull"), (0, u "(Ljava/lang/Object;)Ljava/lang/Object;"), (0, .fieldref 14 15), (0, .class_ 16), (0, .nameAndType 17 18), (0, u "java/util/ImmutableCollections$List12"), (0, u "e0"), (0, u "Ljava/lang/Object;"), (0, .fieldref 20 21), (0, .class_ 22), (0, .nameAndType 23 18), (0, u "java/util/ImmutableCollections"), (0, u "EMPTY"), (0, .fieldref 14 25), (0, .nameAndType 26 18), (0, u "e1"), (43, .class_ 71), (0, u "java/io/Serializable"), (4, u "(Ljava/lang/Object;)V")] 48

def k21c0 : Code := { maxStack := 2, maxLocals := 2, code := jdk_44_method_1_code, exceptionTable := #[], attributes := #[] }
def k21m0 : Method := { name := "<init>", desc := "(Ljava/lang/Object;)V", sig := { parameters := [(.object "java/lang/Object")], returnType := none }, accessFlags := 0, code := some k21c0 }
/-- java/util/ImmutableCollections$List12 -/
def k21 : Class := { plain "java/util/ImmutableCollections$List12" (some 20) with
  accessFlags := 48
  interfaces := #[10]
  cf := some (fileOf pool21 14 #[.nestHost 20] #[{ accessFlags := 0, nameIndex := 5, descriptorIndex := 76, attributes := #[] }] 48 2 #[70] #[{ accessFlags := 18, nameIndex := 17, descriptorIndex := 18, attributes := #[] }, { accessFlags := 18, nameIndex := 26, descriptorIndex := 18, attributes := #[] }])
  fields := #[{ name := "e0", type := (.object "java/lang/Object"), accessFlags := 18, slot := 0, constantValue := 0 }, { name := "e1", type := (.object "java/lang/Object"), accessFlags := 18, slot := 1, constantValue := 0 }]
  methods := #[k21m0]
  instanceTypes := #[(.object "java/lang/Object"), (.object "java/lang/Object")]
  staticTypes := #[]
  resolved := Array.replicate 125 none
  statics := none }

def pool22 : Array CpInfo := pool [(2, .class_ 4), (1, u "java/util/ImmutableCollections$AbstractImmutableList"), (2, .fieldref 8 9), (0, .class_ 10), (0, .nameAndType 11 12), (0, u "java/util/ImmutableCollections$ListN"), (0, u "elements"), (0, u "[Ljava/lang/Object;"), (2, u "allowNulls"), (0, u "Z"), (42, .class_ 60), (0, u "java/io/Serializable"), (16, u "size"), (0, u "()I"), (35, .class_ 115), (0, u "java/util/ImmutableCollections")] 3

def k22c0 : Code := { maxStack := 1, maxLocals := 1, code := jdk_45_method_3_code, exceptionTable := #[], attributes := #[] }
def k22m0 : Method := { name := "size", desc := "()I", sig := { parameters := [], returnType := some .int }, accessFlags := 1, code := some k22c0 }
/-- java/util/ImmutableCollections$ListN -/
def k22 : Class := { plain "java/util/ImmutableCollections$ListN" (some 20) with
  accessFlags := 48
  interfaces := #[10]
  cf := some (fileOf pool22 8 #[.nestHost 114] #[{ accessFlags := 1, nameIndex := 77, descriptorIndex := 78, attributes := #[] }] 48 2 #[59] #[{ accessFlags := 18, nameIndex := 11, descriptorIndex := 12, attributes := #[] }, { accessFlags := 18, nameIndex := 15, descriptorIndex := 16, attributes := #[] }])
  fields := #[{ name := "elements", type := (.array (.object "java/lang/Object")), accessFlags := 18, slot := 0, constantValue := 0 }, { name := "allowNulls", type := .boolean, accessFlags := 18, slot := 1, constantValue := 0 }]
  methods := #[k22m0]
  instanceTypes := #[(.array (.object "java/lang/Object")), .boolean]
  staticTypes := #[]
  resolved := Array.replicate 119 none
  statics := none }

def pool23 : Array CpInfo := pool [(1, .fieldref 2 3), (0, .class_ 4), (0, .nameAndType 5 6), (0, u "com/example/variaform/variaform/model/feature/Feature$Type"), (0, u "BOOLEAN"), (0, u "Lcom/example/variaform/variaform/model/feature/Feature$Type;"), (0, .interfaceMethodref 8 9), (0, .class_ 10), (0, .nameAndType 11 12), (0, u "java/util/List"), (0, u "of"), (0, u "()Ljava/util/List;"), (0, .methodref 14 15), (0, .class_ 16), (0, .nameAndType 17 18), (0, u "com/example/variaform/variaform/model/feature/Feature"), (0, u "<init>"), (0, u "(Ljava/lang/String;Lcom/example/variaform/variaform/model/feature/Feature$Type;Ljava/util/List;Ljava/util/List;)V"), (0, .fieldref 20 21), (0, .class_ 22), (0, .nameAndType 23 24), (0, u "com/example/variaform/variaform/model/feature/Comments"), (0, u "NONE"), (0, u "Lcom/example/variaform/variaform/model/feature/Comments;"), (0, .methodref 14 26), (0, .nameAndType 17 27), (0, u "(Ljava/lang/String;Lcom/example/variaform/variaform/model/feature/Feature$Type;Ljava/util/List;Ljava/util/List;Lcom/example/variaform/variaform/model/feature/Comments;)V"), (0, .methodref 29 30), (0, .class_ 31), (0, .nameAndType 17 32), (0, u "java/lang/Object"), (0, u "()V"), (0, .fieldref 14 34), (0, .nameAndType 35 36), (0, u "name"), (0, u "Ljava/lang/String;"), (0, .fieldref 14 38), (0, .nameAndType 39 6), (0, u "type"), (0, .interfaceMethodref 8 41), (0, .nameAndType 42 43), (0, u "copyOf"), (0, u "(Ljava/util/Collection;)Ljava/util/List;"), (0, .fieldref 14 45), (0, .nameAndType 46 47), (0, u "groups"), (0, u "Ljava/util/List;"), (0, .fieldref 14 49), (0, .nameAndType 50 47), (0, u "attributes"), (0, .fieldref 14 52), (0, .nameAndType 53 24), (0, u "comments"), (0, .interfaceMethodref 8 55), (0, .nameAndType 56 57), (0, u "iterator"), (0, u "()Ljava/util/Iterator;"), (0, .interfaceMethodref 59 60), (0, .class_ 61), (0, .nameAndType 62 63), (0, u "java/util/Iterator"), (0, u "hasNext"), (0, u "()Z"), (9, .fieldref 14 74), (0, .nameAndType 75 76), (0, u "parent"), (0, u "Lcom/example/variaform/variaform/model/feature/Feature;"), (28, u "(Ljava/lang/String;Ljava/util/List;)V")] 37

def k23c0 : Code := { maxStack := 5, maxLocals := 3, code := prog_35_method_1_code, exceptionTable := #[], attributes := #[] }
def k23m0 : Method := { name := "<init>", desc := "(Ljava/lang/String;Ljava/util/List;)V", sig := { parameters := [(.object "java/lang/String"), (.object "java/util/List")], returnType := none }, accessFlags := 1, code := some k23c0 }
def k23c1 : Code := { maxStack := 6, maxLocals := 5, code := prog_35_method_2_code, exceptionTable := #[], attributes := #[] }
def k23m1 : Method := { name := "<init>", desc := "(Ljava/lang/String;Lcom/example/variaform/variaform/model/feature/Feature$Type;Ljava/util/List;Ljava/util/List;)V", sig := { parameters := [(.object "java/lang/String"), (.object "com/example/variaform/variaform/model/feature/Feature$Type"), (.object "java/util/List"), (.object "java/util/List")], returnType := none }, accessFlags := 1, code := some k23c1 }
def k23c2 : Code := { maxStack := 4, maxLocals := 10, code := prog_35_method_3_code, exceptionTable := #[], attributes := #[] }
def k23m2 : Method := { name := "<init>", desc := "(Ljava/lang/String;Lcom/example/variaform/variaform/model/feature/Feature$Type;Ljava/util/List;Ljava/util/List;Lcom/example/variaform/variaform/model/feature/Comments;)V", sig := { parameters := [(.object "java/lang/String"), (.object "com/example/variaform/variaform/model/feature/Feature$Type"), (.object "java/util/List"), (.object "java/util/List"), (.object "com/example/variaform/variaform/model/feature/Comments")], returnType := none }, accessFlags := 1, code := some k23c2 }
/-- com/example/variaform/variaform/model/feature/Feature -/
def k23 : Class := { plain "com/example/variaform/variaform/model/feature/Feature" (some 0) with
  accessFlags := 33
  interfaces := #[]
  cf := some (fileOf pool23 14 #[.nestMembers #[2]] #[{ accessFlags := 1, nameIndex := 17, descriptorIndex := 105, attributes := #[] }, { accessFlags := 1, nameIndex := 17, descriptorIndex := 18, attributes := #[] }, { accessFlags := 1, nameIndex := 17, descriptorIndex := 27, attributes := #[] }] 33 29 #[] #[{ accessFlags := 18, nameIndex := 35, descriptorIndex := 36, attributes := #[] }, { accessFlags := 18, nameIndex := 39, descriptorIndex := 6, attributes := #[] }, { accessFlags := 18, nameIndex := 46, descriptorIndex := 47, attributes := #[] }, { accessFlags := 18, nameIndex := 50, descriptorIndex := 47, attributes := #[] }, { accessFlags := 18, nameIndex := 53, descriptorIndex := 24, attributes := #[] }, { accessFlags := 2, nameIndex := 75, descriptorIndex := 76, attributes := #[] }])
  fields := #[{ name := "name", type := (.object "java/lang/String"), accessFlags := 18, slot := 0, constantValue := 0 }, { name := "type", type := (.object "com/example/variaform/variaform/model/feature/Feature$Type"), accessFlags := 18, slot := 1, constantValue := 0 }, { name := "groups", type := (.object "java/util/List"), accessFlags := 18, slot := 2, constantValue := 0 }, { name := "attributes", type := (.object "java/util/List"), accessFlags := 18, slot := 3, constantValue := 0 }, { name := "comments", type := (.object "com/example/variaform/variaform/model/feature/Comments"), accessFlags := 18, slot := 4, constantValue := 0 }, { name := "parent", type := (.object "com/example/variaform/variaform/model/feature/Feature"), accessFlags := 2, slot := 5, constantValue := 0 }]
  methods := #[k23m0, k23m1, k23m2]
  instanceTypes := #[(.object "java/lang/String"), (.object "com/example/variaform/variaform/model/feature/Feature$Type"), (.object "java/util/List"), (.object "java/util/List"), (.object "com/example/variaform/variaform/model/feature/Comments"), (.object "com/example/variaform/variaform/model/feature/Feature")]
  staticTypes := #[]
  resolved := Array.replicate 143 none
  statics := none }

def pool24 : Array CpInfo := pool [(2, .class_ 4), (1, u "java/lang/CharSequence"), (42, .class_ 48), (0, u "java/lang/CharSequence$1CodePointIterator"), (10, .class_ 60), (0, u "java/lang/CharSequence$1CharIterator"), (5, .class_ 67), (0, u "java/lang/Object")] 63

/-- java/lang/CharSequence -/
def k24 : Class := { plain "java/lang/CharSequence" (some 0) with
  accessFlags := 1537
  interfaces := #[]
  cf := some (fileOf pool24 2 #[.nestMembers #[47, 59]] #[] 1537 66 #[] #[])
  fields := #[]
  methods := #[]
  instanceTypes := #[]
  staticTypes := #[]
  resolved := Array.replicate 131 none
  statics := none }

def pool25 : Array CpInfo := pool [(1, .class_ 2), (0, u "java/lang/constant/ConstantDesc"), (0, .class_ 4), (0, u "java/lang/Object")] 32

/-- java/lang/constant/ConstantDesc -/
def k25 : Class := { plain "java/lang/constant/ConstantDesc" (some 0) with
  accessFlags := 1537
  interfaces := #[]
  cf := some (fileOf pool25 1 #[] #[] 1537 3 #[] #[])
  fields := #[]
  methods := #[]
  instanceTypes := #[]
  staticTypes := #[]
  resolved := Array.replicate 37 none
  statics := none }

def pool26 : Array CpInfo := pool [(2, .class_ 4), (1, u "java/lang/Object"), (0, u "<init>"), (0, u "()V"), (3, .class_ 12), (1, u "java/lang/String"), (0, u "value"), (0, u "[B"), (2, u "coder"), (0, u "B"), (2, u "hash"), (0, u "I"), (2, u "hashIsZero"), (0, u "Z"), (13, u "COMPACT_STRINGS"), (534, .class_ 576), (0, u "java/lang/CharSequence"), (22, u "CASE_INSENSITIVE_ORDER"), (0, u "Ljava/util/Comparator;"), (500, u "serialPersistentFields"), (0, u "[Ljava/io/ObjectStreamField;"), (0, .class_ 1104), (0, u "java/lang/String$CaseInsensitiveComparator"), (1, .class_ 1107), (0, u "java/io/Serializable"), (0, .class_ 1109), (0, u "java/lang/Comparable"), (0, .class_ 1111), (0, u "java/lang/constant/Constable"), (0, .class_ 1113), (0, u "java/lang/constant/ConstantDesc"), (2, u "serialVersionUID"), (0, u "J"), (3, u "REPL"), (0, u "C"), (2, u "LATIN1"), (1, u "UTF16")] 323

def k26m0 : Method := { name := "<init>", desc := "()V", sig := { parameters := [], returnType := none }, accessFlags := 1, code := none }
/-- java/lang/String -/
def k26 : Class := { plain "java/lang/String" (some 0) with
  accessFlags := 49
  interfaces := #[10, 14, 24, 13, 25]
  cf := some (fileOf pool26 10 #[.nestMembers #[1103]] #[{ accessFlags := 1, nameIndex := 5, descriptorIndex := 6, attributes := #[] }] 49 2 #[1106, 1108, 575, 1110, 1112] #[{ accessFlags := 18, nameIndex := 13, descriptorIndex := 14, attributes := #[] }, { accessFlags := 18, nameIndex := 17, descriptorIndex := 18, attributes := #[] }, { accessFlags := 2, nameIndex := 21, descriptorIndex := 22, attributes := #[] }, { accessFlags := 2, nameIndex := 25, descriptorIndex := 26, attributes := #[] }, { accessFlags := 26, nameIndex := 1116, descriptorIndex := 1117, attributes := #[] }, { accessFlags := 24, nameIndex := 40, descriptorIndex := 26, attributes := #[] }, { accessFlags := 26, nameIndex := 1101, descriptorIndex := 1102, attributes := #[] }, { accessFlags := 26, nameIndex := 1121, descriptorIndex := 1122, attributes := #[] }, { accessFlags := 25, nameIndex := 599, descriptorIndex := 600, attributes := #[] }, { accessFlags := 24, nameIndex := 1125, descriptorIndex := 18, attributes := #[] }, { accessFlags := 24, nameIndex := 1127, descriptorIndex := 18, attributes := #[] }])
  fields := #[{ name := "value", type := (.array .byte), accessFlags := 18, slot := 0, constantValue := 0 }, { name := "coder", type := .byte, accessFlags := 18, slot := 1, constantValue := 0 }, { name := "hash", type := .int, accessFlags := 2, slot := 2, constantValue := 0 }, { name := "hashIsZero", type := .boolean, accessFlags := 2, slot := 3, constantValue := 0 }, { name := "serialVersionUID", type := .long, accessFlags := 26, slot := 0, constantValue := 0 }, { name := "COMPACT_STRINGS", type := .boolean, accessFlags := 24, slot := 1, constantValue := 0 }, { name := "serialPersistentFields", type := (.array (.object "java/io/ObjectStreamField")), accessFlags := 26, slot := 2, constantValue := 0 }, { name := "REPL", type := .char, accessFlags := 26, slot := 3, constantValue := 0 }, { name := "CASE_INSENSITIVE_ORDER", type := (.object "java/util/Comparator"), accessFlags := 25, slot := 4, constantValue := 0 }, { name := "LATIN1", type := .byte, accessFlags := 24, slot := 5, constantValue := 0 }, { name := "UTF16", type := .byte, accessFlags := 24, slot := 6, constantValue := 0 }]
  methods := #[k26m0]
  instanceTypes := #[(.array .byte), .byte, .int, .boolean]
  staticTypes := #[.long, .boolean, (.array (.object "java/io/ObjectStreamField")), .char, (.object "java/util/Comparator"), .byte, .byte]
  resolved := Array.replicate 1451 none
  statics := none }

def pool27 : Array CpInfo := pool [(1, .class_ 2), (0, u "com/example/variaform/variaform/model/feature/Feature$Type"), (2, u "BOOLEAN"), (0, u "Lcom/example/variaform/variaform/model/feature/Feature$Type;"), (2, u "INTEGER"), (2, u "REAL"), (2, u "STRING"), (2, u "$VALUES"), (0, u "[Lcom/example/variaform/variaform/model/feature/Feature$Type;"), (6, .class_ 28), (1, u "java/lang/Enum"), (90, .class_ 120), (0, u "com/example/variaform/variaform/model/feature/Feature")] 16

/-- com/example/variaform/variaform/model/feature/Feature$Type -/
def k27 : Class := { plain "com/example/variaform/variaform/model/feature/Feature$Type" (some 15) with
  accessFlags := 16433
  interfaces := #[]
  cf := some (fileOf pool27 1 #[.nestHost 119] #[] 16433 26 #[] #[{ accessFlags := 16409, nameIndex := 5, descriptorIndex := 6, attributes := #[] }, { accessFlags := 16409, nameIndex := 9, descriptorIndex := 6, attributes := #[] }, { accessFlags := 16409, nameIndex := 12, descriptorIndex := 6, attributes := #[] }, { accessFlags := 16409, nameIndex := 15, descriptorIndex := 6, attributes := #[] }, { accessFlags := 4122, nameIndex := 18, descriptorIndex := 19, attributes := #[] }])
  fields := #[{ name := "BOOLEAN", type := (.object "com/example/variaform/variaform/model/feature/Feature$Type"), accessFlags := 16409, slot := 0, constantValue := 0 }, { name := "INTEGER", type := (.object "com/example/variaform/variaform/model/feature/Feature$Type"), accessFlags := 16409, slot := 1, constantValue := 0 }, { name := "REAL", type := (.object "com/example/variaform/variaform/model/feature/Feature$Type"), accessFlags := 16409, slot := 2, constantValue := 0 }, { name := "STRING", type := (.object "com/example/variaform/variaform/model/feature/Feature$Type"), accessFlags := 16409, slot := 3, constantValue := 0 }, { name := "$VALUES", type := (.array (.object "com/example/variaform/variaform/model/feature/Feature$Type")), accessFlags := 4122, slot := 4, constantValue := 0 }]
  methods := #[]
  instanceTypes := #[(.object "java/lang/String"), .int, .int]
  staticTypes := #[(.object "com/example/variaform/variaform/model/feature/Feature$Type"), (.object "com/example/variaform/variaform/model/feature/Feature$Type"), (.object "com/example/variaform/variaform/model/feature/Feature$Type"), (.object "com/example/variaform/variaform/model/feature/Feature$Type"), (.array (.object "com/example/variaform/variaform/model/feature/Feature$Type"))]
  resolved := Array.replicate 137 none
  statics := some 4 }

def pool28 : Array CpInfo := pool [(16, .class_ 18), (1, u "java/util/Iterator"), (0, u "hasNext"), (0, u "()Z"), (10, .class_ 32), (0, u "java/lang/Object")] 20

def k28m0 : Method := { name := "hasNext", desc := "()Z", sig := { parameters := [], returnType := some .boolean }, accessFlags := 1025, code := none }
/-- java/util/Iterator -/
def k28 : Class := { plain "java/util/Iterator" (some 0) with
  accessFlags := 1537
  interfaces := #[]
  cf := some (fileOf pool28 16 #[] #[{ accessFlags := 1025, nameIndex := 19, descriptorIndex := 20, attributes := #[] }] 1537 31 #[] #[])
  fields := #[]
  methods := #[k28m0]
  instanceTypes := #[]
  staticTypes := #[]
  resolved := Array.replicate 53 none
  statics := none }

def pool29 : Array CpInfo := pool [(1, .class_ 2), (0, u "java/util/ListIterator"), (0, .class_ 4), (0, u "java/lang/Object"), (0, .class_ 6), (0, u "java/util/Iterator")] 20

/-- java/util/ListIterator -/
def k29 : Class := { plain "java/util/ListIterator" (some 0) with
  accessFlags := 1537
  interfaces := #[28]
  cf := some (fileOf pool29 1 #[] #[] 1537 3 #[5] #[])
  fields := #[]
  methods := #[]
  instanceTypes := #[]
  staticTypes := #[]
  resolved := Array.replicate 27 none
  statics := none }

def pool30 : Array CpInfo := pool [(1, .methodref 2 3), (0, .class_ 4), (0, .nameAndType 5 6), (0, u "java/lang/Object"), (0, u "<init>"), (0, u "()V"), (0, .fieldref 8 9), (0, .class_ 10), (0, .nameAndType 11 12), (0, u "java/util/ImmutableCollections$ListItr"), (0, u "list"), (0, u "Ljava/util/List;"), (0, .fieldref 8 14), (0, .nameAndType 15 16), (0, u "size"), (0, u "I"), (0, .fieldref 8 18), (0, .nameAndType 19 16), (0, u "cursor"), (0, .fieldref 8 21), (0, .nameAndType 22 23), (0, u "isListIterator"), (0, u "Z"), (12, .class_ 38), (1, u "java/util/ImmutableCollections"), (2, .class_ 42), (0, u "java/util/ListIterator"), (4, u "(Ljava/util/List;I)V"), (11, u "hasNext"), (0, u "()Z")] 25

def k30c0 : Code := { maxStack := 2, maxLocals := 3, code := jdk_53_method_1_code, exceptionTable := #[], attributes := #[] }
def k30m0 : Method := { name := "<init>", desc := "(Ljava/util/List;I)V", sig := { parameters := [(.object "java/util/List"), .int], returnType := none }, accessFlags := 0, code := some k30c0 }
def k30c1 : Code := { maxStack := 2, maxLocals := 1, code := jdk_53_method_3_code, exceptionTable := #[], attributes := #[] }
def k30m1 : Method := { name := "hasNext", desc := "()Z", sig := { parameters := [], returnType := some .boolean }, accessFlags := 1, code := some k30c1 }
/-- java/util/ImmutableCollections$ListItr -/
def k30 : Class := { plain "java/util/ImmutableCollections$ListItr" (some 0) with
  accessFlags := 48
  interfaces := #[29]
  cf := some (fileOf pool30 8 #[.nestHost 36] #[{ accessFlags := 0, nameIndex := 5, descriptorIndex := 47, attributes := #[] }, { accessFlags := 1, nameIndex := 59, descriptorIndex := 60, attributes := #[] }] 48 2 #[41] #[{ accessFlags := 18, nameIndex := 11, descriptorIndex := 12, attributes := #[] }, { accessFlags := 18, nameIndex := 15, descriptorIndex := 16, attributes := #[] }, { accessFlags := 18, nameIndex := 22, descriptorIndex := 23, attributes := #[] }, { accessFlags := 2, nameIndex := 19, descriptorIndex := 16, attributes := #[] }])
  fields := #[{ name := "list", type := (.object "java/util/List"), accessFlags := 18, slot := 0, constantValue := 0 }, { name := "size", type := .int, accessFlags := 18, slot := 1, constantValue := 0 }, { name := "isListIterator", type := .boolean, accessFlags := 18, slot := 2, constantValue := 0 }, { name := "cursor", type := .int, accessFlags := 2, slot := 3, constantValue := 0 }]
  methods := #[k30m0, k30m1]
  instanceTypes := #[(.object "java/util/List"), .int, .boolean, .int]
  staticTypes := #[]
  resolved := Array.replicate 86 none
  statics := none }

def pool31 : Array CpInfo := pool [(1, .class_ 2), (0, u "java/lang/Math"), (1, .class_ 6), (1, u "java/lang/Object"), (0, u "<init>"), (0, u "()V"), (89, .class_ 100), (1, u "java/lang/Math$RandomNumberGeneratorHolder"), (71, u "negativeZeroFloatBits"), (0, u "J"), (2, u "negativeZeroDoubleBits"), (21, u "max"), (2, u "min"), (43, u "$assertionsDisabled"), (0, u "Z"), (88, u "(II)I"), (2, u "twoToTheDoubleScaleDown"), (0, u "D"), (4, u "twoToTheDoubleScaleUp"), (9, u "E"), (3, u "PI"), (2, u "TAU"), (2, u "DEGREES_TO_RADIANS"), (0, u "RADIANS_TO_DEGREES")] 94

def k31m0 : Method := { name := "<init>", desc := "()V", sig := { parameters := [], returnType := none }, accessFlags := 2, code := none }
def k31c1 : Code := { maxStack := 2, maxLocals := 2, code := jdk_29_method_65_code, exceptionTable := #[], attributes := #[] }
def k31m1 : Method := { name := "max", desc := "(II)I", sig := { parameters := [.int, .int], returnType := some .int }, accessFlags := 9, code := some k31c1 }
def k31c2 : Code := { maxStack := 2, maxLocals := 2, code := jdk_29_method_69_code, exceptionTable := #[], attributes := #[] }
def k31m2 : Method := { name := "min", desc := "(II)I", sig := { parameters := [.int, .int], returnType := some .int }, accessFlags := 9, code := some k31c2 }
/-- java/lang/Math -/
def k31 : Class := { plain "java/lang/Math" (some 0) with
  accessFlags := 49
  interfaces := #[]
  cf := some (fileOf pool31 1 #[.nestMembers #[98]] #[{ accessFlags := 2, nameIndex := 7, descriptorIndex := 8, attributes := #[] }, { accessFlags := 9, nameIndex := 198, descriptorIndex := 335, attributes := #[] }, { accessFlags := 9, nameIndex := 201, descriptorIndex := 335, attributes := #[] }] 49 4 #[] #[{ accessFlags := 25, nameIndex := 354, descriptorIndex := 339, attributes := #[] }, { accessFlags := 25, nameIndex := 358, descriptorIndex := 339, attributes := #[] }, { accessFlags := 25, nameIndex := 361, descriptorIndex := 339, attributes := #[] }, { accessFlags := 26, nameIndex := 364, descriptorIndex := 339, attributes := #[] }, { accessFlags := 26, nameIndex := 365, descriptorIndex := 339, attributes := #[] }, { accessFlags := 26, nameIndex := 172, descriptorIndex := 173, attributes := #[] }, { accessFlags := 26, nameIndex := 176, descriptorIndex := 173, attributes := #[] }, { accessFlags := 8, nameIndex := 344, descriptorIndex := 339, attributes := #[] }, { accessFlags := 8, nameIndex := 338, descriptorIndex := 339, attributes := #[] }, { accessFlags := 4120, nameIndex := 245, descriptorIndex := 246, attributes := #[] }])
  fields := #[{ name := "E", type := .double, accessFlags := 25, slot := 0, constantValue := 0 }, { name := "PI", type := .double, accessFlags := 25, slot := 1, constantValue := 0 }, { name := "TAU", type := .double, accessFlags := 25, slot := 2, constantValue := 0 }, { name := "DEGREES_TO_RADIANS", type := .double, accessFlags := 26, slot := 3, constantValue := 0 }, { name := "RADIANS_TO_DEGREES", type := .double, accessFlags := 26, slot := 4, constantValue := 0 }, { name := "negativeZeroFloatBits", type := .long, accessFlags := 26, slot := 5, constantValue := 0 }, { name := "negativeZeroDoubleBits", type := .long, accessFlags := 26, slot := 6, constantValue := 0 }, { name := "twoToTheDoubleScaleUp", type := .double, accessFlags := 8, slot := 7, constantValue := 0 }, { name := "twoToTheDoubleScaleDown", type := .double, accessFlags := 8, slot := 8, constantValue := 0 }, { name := "$assertionsDisabled", type := .boolean, accessFlags := 4120, slot := 9, constantValue := 0 }]
  methods := #[k31m0, k31m1, k31m2]
  instanceTypes := #[]
  staticTypes := #[.double, .double, .double, .double, .double, .long, .long, .double, .double, .boolean]
  resolved := Array.replicate 460 none
  statics := none }

def pool32 : Array CpInfo := pool [(2, .class_ 4), (1, u "java/lang/Object"), (0, u "<init>"), (0, u "()V"), (7, .class_ 16), (1, u "java/util/Arrays"), (57, .class_ 76), (1, u "java/util/Arrays$NaturalOrder"), (9, .methodref 2 87), (0, .nameAndType 88 89), (0, u "getClass"), (0, u "()Ljava/lang/Class;"), (20, .class_ 111), (0, u "[Ljava/lang/Object;"), (1, .class_ 115), (1, u "java/util/Arrays$LegacyMergeSort"), (1, u "Z"), (32, .methodref 151 152), (0, .class_ 153), (0, .nameAndType 154 155), (0, u "java/lang/System"), (0, u "arraycopy"), (0, u "(Ljava/lang/Object;ILjava/lang/Object;II)V"), (144, .methodref 14 301), (0, .nameAndType 302 303), (0, u "copyOf"), (0, u "([Ljava/lang/Object;ILjava/lang/Class;)[Ljava/lang/Object;"), (0, .methodref 305 306), (0, .class_ 307), (0, .nameAndType 308 309), (0, u "java/lang/Math"), (0, u "min"), (0, u "(II)I"), (65, .class_ 376), (0, u "java/util/Arrays$ArrayList"), (68, u "$assertionsDisabled"), (269, u "MIN_ARRAY_SORT_GRAN"), (0, u "I"), (2, u "INSERTIONSORT_THRESHOLD"), (140, u "([Ljava/lang/Object;I)[Ljava/lang/Object;"), (114, .class_ 976), (0, u "java/util/Arrays$ArrayItr")] 52

def k32m0 : Method := { name := "<init>", desc := "()V", sig := { parameters := [], returnType := none }, accessFlags := 2, code := none }
def k32c1 : Code := { maxStack := 3, maxLocals := 2, code := jdk_65_method_119_code, exceptionTable := #[], attributes := #[] }
def k32m1 : Method := { name := "copyOf", desc := "([Ljava/lang/Object;I)[Ljava/lang/Object;", sig := { parameters := [(.array (.object "java/lang/Object")), .int], returnType := some (.array (.object "java/lang/Object")) }, accessFlags := 9, code := some k32c1 }
def k32c2 : Code := { maxStack := 6, maxLocals := 4, code := jdk_65_method_120_code, exceptionTable := #[], attributes := #[] }
def k32m2 : Method := { name := "copyOf", desc := "([Ljava/lang/Object;ILjava/lang/Class;)[Ljava/lang/Object;", sig := { parameters := [(.array (.object "java/lang/Object")), .int, (.object "java/lang/Class")], returnType := some (.array (.object "java/lang/Object")) }, accessFlags := 9, code := some k32c2 }
/-- java/util/Arrays -/
def k32 : Class := { plain "java/util/Arrays" (some 0) with
  accessFlags := 49
  interfaces := #[]
  cf := some (fileOf pool32 14 #[.nestMembers #[975, 375, 113, 74]] #[{ accessFlags := 2, nameIndex := 5, descriptorIndex := 6, attributes := #[] }, { accessFlags := 9, nameIndex := 302, descriptorIndex := 860, attributes := #[] }, { accessFlags := 9, nameIndex := 302, descriptorIndex := 303, attributes := #[] }] 49 2 #[] #[{ accessFlags := 26, nameIndex := 715, descriptorIndex := 716, attributes := #[] }, { accessFlags := 26, nameIndex := 719, descriptorIndex := 716, attributes := #[] }, { accessFlags := 4120, nameIndex := 445, descriptorIndex := 117, attributes := #[] }])
  fields := #[{ name := "MIN_ARRAY_SORT_GRAN", type := .int, accessFlags := 26, slot := 0, constantValue := 0 }, { name := "INSERTIONSORT_THRESHOLD", type := .int, accessFlags := 26, slot := 1, constantValue := 0 }, { name := "$assertionsDisabled", type := .boolean, accessFlags := 4120, slot := 2, constantValue := 0 }]
  methods := #[k32m0, k32m1, k32m2]
  instanceTypes := #[]
  staticTypes := #[.int, .int, .boolean]
  resolved := Array.replicate 1029 none
  statics := none }

def pool33 : Array CpInfo := pool [(2, .class_ 4), (1, u "java/lang/Object"), (0, u "<init>"), (0, u "()V"), (1, .class_ 10), (1, u "java/lang/System"), (0, u "allowSecurityManager"), (0, u "I"), (16, u "cons"), (0, u "Ljava/io/Console;"), (77, .class_ 110), (1, u "java/lang/System$CallersHolder"), (43, u "initialErrStream"), (0, u "Ljava/io/PrintStream;"), (19, u "security"), (0, u "Ljava/lang/SecurityManager;"), (31, .class_ 209), (0, u "java/lang/System$1"), (7, u "props"), (0, u "Ljava/util/Properties;"), (2, u "lineSeparator"), (0, u "Ljava/lang/String;"), (96, .class_ 321), (1, u "java/lang/System$LoggerFinder"), (5, .class_ 328), (0, u "java/lang/System$Logger"), (67, u "err"), (2, u "out"), (91, u "notSupportedJnuEncoding"), (15, u "in"), (17, u "initialIn"), (0, u "Ljava/io/InputStream;"), (35, u "bootLayer"), (0, u "Ljava/lang/ModuleLayer;"), (99, .class_ 664), (0, u "java/lang/System$2"), (9, u "NEVER"), (2, u "MAYBE"), (49, u "arraycopy"), (0, u "(Ljava/lang/Object;ILjava/lang/Object;II)V"), (72, .class_ 802), (0, u "java/lang/System$Logger$Level")] 31

def k33m0 : Method := { name := "<init>", desc := "()V", sig := { parameters := [], returnType := none }, accessFlags := 2, code := none }
def k33m1 : Method := { name := "arraycopy", desc := "(Ljava/lang/Object;ILjava/lang/Object;II)V", sig := { parameters := [(.object "java/lang/Object"), .int, (.object "java/lang/Object"), .int, .int], returnType := none }, accessFlags := 265, code := none }
/-- java/lang/System -/
def k33 : Class := { plain "java/lang/System" (some 0) with
  accessFlags := 49
  interfaces := #[]
  cf := some (fileOf pool33 8 #[.nestMembers #[319, 327, 801, 108, 663, 208]] #[{ accessFlags := 2, nameIndex := 5, descriptorIndex := 6, attributes := #[] }, { accessFlags := 265, nameIndex := 727, descriptorIndex := 728, attributes := #[] }] 49 2 #[] #[{ accessFlags := 25, nameIndex := 507, descriptorIndex := 526, attributes := #[] }, { accessFlags := 25, nameIndex := 399, descriptorIndex := 155, attributes := #[] }, { accessFlags := 25, nameIndex := 396, descriptorIndex := 155, attributes := #[] }, { accessFlags := 10, nameIndex := 525, descriptorIndex := 526, attributes := #[] }, { accessFlags := 26, nameIndex := 674, descriptorIndex := 12, attributes := #[] }, { accessFlags := 26, nameIndex := 677, descriptorIndex := 12, attributes := #[] }, { accessFlags := 10, nameIndex := 11, descriptorIndex := 12, attributes := #[] }, { accessFlags := 74, nameIndex := 175, descriptorIndex := 176, attributes := #[] }, { accessFlags := 10, nameIndex := 491, descriptorIndex := 222, attributes := #[] }, { accessFlags := 74, nameIndex := 29, descriptorIndex := 30, attributes := #[] }, { accessFlags := 74, nameIndex := 154, descriptorIndex := 155, attributes := #[] }, { accessFlags := 10, nameIndex := 217, descriptorIndex := 218, attributes := #[] }, { accessFlags := 10, nameIndex := 221, descriptorIndex := 222, attributes := #[] }, { accessFlags := 8, nameIndex := 562, descriptorIndex := 563, attributes := #[] }])
  fields := #[{ name := "in", type := (.object "java/io/InputStream"), accessFlags := 25, slot := 0, constantValue := 0 }, { name := "out", type := (.object "java/io/PrintStream"), accessFlags := 25, slot := 1, constantValue := 0 }, { name := "err", type := (.object "java/io/PrintStream"), accessFlags := 25, slot := 2, constantValue := 0 }, { name := "initialIn", type := (.object "java/io/InputStream"), accessFlags := 10, slot := 3, constantValue := 0 }, { name := "NEVER", type := .int, accessFlags := 26, slot := 4, constantValue := 0 }, { name := "MAYBE", type := .int, accessFlags := 26, slot := 5, constantValue := 0 }, { name := "allowSecurityManager", type := .int, accessFlags := 10, slot := 6, constantValue := 0 }, { name := "security", type := (.object "java/lang/SecurityManager"), accessFlags := 74, slot := 7, constantValue := 0 }, { name := "notSupportedJnuEncoding", type := (.object "java/lang/String"), accessFlags := 10, slot := 8, constantValue := 0 }, { name := "cons", type := (.object "java/io/Console"), accessFlags := 74, slot := 9, constantValue := 0 }, { name := "initialErrStream", type := (.object "java/io/PrintStream"), accessFlags := 74, slot := 10, constantValue := 0 }, { name := "props", type := (.object "java/util/Properties"), accessFlags := 10, slot := 11, constantValue := 0 }, { name := "lineSeparator", type := (.object "java/lang/String"), accessFlags := 10, slot := 12, constantValue := 0 }, { name := "bootLayer", type := (.object "java/lang/ModuleLayer"), accessFlags := 8, slot := 13, constantValue := 0 }]
  methods := #[k33m0, k33m1]
  instanceTypes := #[]
  staticTypes := #[(.object "java/io/InputStream"), (.object "java/io/PrintStream"), (.object "java/io/PrintStream"), (.object "java/io/InputStream"), .int, .int, .int, (.object "java/lang/SecurityManager"), (.object "java/lang/String"), (.object "java/io/Console"), (.object "java/io/PrintStream"), (.object "java/util/Properties"), (.object "java/lang/String"), (.object "java/lang/ModuleLayer")]
  resolved := Array.replicate 834 none
  statics := none }

def pool34 : Array CpInfo := pool [(2, .class_ 4), (1, u "java/lang/Object"), (0, u "<init>"), (0, u "()V"), (35, .class_ 44), (1, u "java/util/Objects"), (0, u "requireNonNull"), (0, u "(Ljava/lang/Object;)Ljava/lang/Object;")] 137

def k34m0 : Method := { name := "<init>", desc := "()V", sig := { parameters := [], returnType := none }, accessFlags := 2, code := none }
def k34c1 : Code := { maxStack := 2, maxLocals := 1, code := jdk_31_method_10_code, exceptionTable := #[], attributes := #[] }
def k34m1 : Method := { name := "requireNonNull", desc := "(Ljava/lang/Object;)Ljava/lang/Object;", sig := { parameters := [(.object "java/lang/Object")], returnType := some (.object "java/lang/Object") }, accessFlags := 9, code := some k34c1 }
/-- java/util/Objects -/
def k34 : Class := { plain "java/util/Objects" (some 0) with
  accessFlags := 49
  interfaces := #[]
  cf := some (fileOf pool34 42 #[] #[{ accessFlags := 2, nameIndex := 5, descriptorIndex := 6, attributes := #[] }, { accessFlags := 9, nameIndex := 45, descriptorIndex := 46, attributes := #[] }] 49 2 #[] #[])
  fields := #[]
  methods := #[k34m0, k34m1]
  instanceTypes := #[]
  staticTypes := #[]
  resolved := Array.replicate 184 none
  statics := none }

def pool35 : Array CpInfo := pool [(1, u "java/lang/Class"), (0, .class_ 1), (0, u "java/lang/Object"), (0, .class_ 3)] 0

/-- java/lang/Class -/
def k35 : Class := { plain "java/lang/Class" (some 0) with
  accessFlags := 49
  interfaces := #[]
  cf := some (fileOf pool35 2 #[] #[] 49 4 #[] #[])
  fields := #[]
  methods := #[]
  instanceTypes := #[]
  staticTypes := #[]
  resolved := Array.replicate 5 none
  statics := none }

/-- the primitive byte -/
def k36 : Class := { plain "byte" none with kind := .primitive 'B', accessFlags := 0x411 }
/-- [B -/
def k37 : Class := { plain "[B" (some 0) with kind := .array 36 .byte, interfaces := #[9, 10], accessFlags := 1041 }

/-- the primitive int -/
def k38 : Class := { plain "int" none with kind := .primitive 'I', accessFlags := 0x411 }
/-- [I -/
def k39 : Class := { plain "[I" (some 0) with kind := .array 38 .int, interfaces := #[9, 10], accessFlags := 1041 }

/-- [Ljava/lang/Object; -/
def k40 : Class := { plain "[Ljava/lang/Object;" (some 0) with kind := .array 0 (.object "java/lang/Object"), interfaces := #[9, 10], accessFlags := 1041, mirror := some 5 }

def heap : Heap := #[{ cls := 11, slots := #[.long 0, .int 0, .ref 15, .ref 16], vm := .statics 11 },
  { cls := 16, slots := #[.ref 7, .ref 8, .ref 9, .ref 10, .ref 11, .null], vm := .statics 16 },
  { cls := 17, slots := #[.ref 13], vm := .statics 17 },
  { cls := 18, slots := #[.long 0, .int 0, .null, .ref 17, .ref 14, .null, .null, .null, .int 0, .int 1], vm := .statics 18 },
  { cls := 27, slots := #[.ref 12, .null, .null, .null, .null], vm := .statics 27 },
  { cls := 35, slots := #[], vm := .mirror 40 },
  { cls := 40, slots := #[], vm := .none },
  { cls := 16, slots := #[.null, .int 0, .int 0], vm := .none },
  { cls := 16, slots := #[.null, .int 1, .int 0], vm := .none },
  { cls := 16, slots := #[.null, .int 2, .int 0], vm := .none },
  { cls := 16, slots := #[.null, .int 3, .int 0], vm := .none },
  { cls := 16, slots := #[.null, .int 4, .int 0], vm := .none },
  { cls := 27, slots := #[.null, .int 0, .int 0], vm := .none },
  { cls := 17, slots := #[.null, .null], vm := .none },
  { cls := 22, slots := #[.ref 6, .int 0], vm := .none },
  { cls := 40, slots := #[], vm := .none },
  { cls := 40, slots := #[], vm := .none },
  { cls := 0, slots := #[], vm := .none }]
def classes : Array Class := #[k0, k1, k2, k3, k4, k5, k6, k7, k8, k9, k10, k11, k12, k13, k14, k15, k16, k17, k18, k19, k20, k21, k22, k23, k24, k25, k26, k27, k28, k29, k30, k31, k32, k33, k34, k35, k36, k37, k38, k39, k40]
def interned : List (Array UInt16 × Addr) := []
def slotsUsed : Nat := 48
def theMethod : MethodId := ⟨1, 1⟩
def args0 : Array Value := #[.int 5, .int 6, .int 7, .int 31]
def aboutOver (below : List Frame) : State where
  vm := { classes := classes, interned := interned.toArray }
  heap := heap
  slotsUsed := slotsUsed
  threads := #[{ frames := .invoking theMethod args0 :: below }]
def below0 : List Frame := [.native { method := ⟨0, 0⟩, args := #[] }]
def about1 : State := aboutOver below0
def p0 : Program := .bare "" "" ""
def e0 : Env := launch0.env 0 0 0
theorem w_frames : about1.frames = Frame.invoking theMethod args0 :: below0 := rfl
set_option maxRecDepth 65536 in
theorem w_args : argsFit about1.vm theMethod args0 = true := by decide +kernel
set_option maxRecDepth 65536 in
theorem w_heap : heapFits about1 = true := by decide +kernel
set_option maxRecDepth 65536 in
theorem w_runnable : about1.curStatus? = some .runnable := by decide +kernel
set_option maxRecDepth 65536 in
theorem w_alone : about1.alone = true := by decide +kernel
set_option maxRecDepth 65536 in
theorem w_named : about1.methodNamed? x = some theMethod := by decide +kernel
set_option maxRecDepth 65536 in
theorem w_hears : about1.hears theMethod below0 = true := by decide +kernel
set_option maxRecDepth 65536 in
theorem w_ripe : about1.ripe theMethod args0 below0 = true := by decide +kernel
theorem w_running : about1.status = .running := rfl
set_option maxRecDepth 65536 in
theorem w_room : about1.hasRoom e0.platform room_1 = true :=
  launch0.hasRoom_least _ room_1 (by decide +kernel) (by decide +kernel) (by decide +kernel) (by decide +kernel) (by decide +kernel) (by decide +kernel)
theorem allAtoms_all (ts : List Jvm.Cond) (a : Array Jvm.Value) (st : Jvm.State) : (allAtoms ts).before a st = ts.all (fun c => c.before a st) := by
  induction ts with
  | nil => rfl
  | cons c t ih =>
    show (Jvm.Cond.and c (allAtoms t)).before a st = _
    rw [Jvm.Cond.before_and, ih, List.all_cons]
def words1 : List Jvm.Cond := Jvm.Cond.code x code maxLocals ret :: tables_1
/-- a 'code' word, met by the world's own term for the bytes: nothing is compared byte by byte -/
theorem code_word {y : MethodName} {bytes : ByteArray} {mx : Nat} {rt : Option FieldType} {a : Array Value} {s : State} {m : MethodId} {meth : Method} {c : Code} (h1 : s.methodNamed? y = some m) (h2 : s.vm.method? m = some meth) (h3 : meth.code = some c) (h4 : c.code = bytes)
    (h5 : (c.maxLocals == mx && c.exceptionTable.isEmpty && decide (c.maxStack ≤ mostOperands) && decide (meth.sig.returnType = rt) && !meth.locks && decide (parseMethodDescriptor y.desc = some meth.sig)) = true) : (Jvm.Cond.code y bytes mx rt).before a s = true := by
  simp only [Bool.and_eq_true, beq_iff_eq, Bool.not_eq_true', decide_eq_true_eq] at h5
  obtain ⟨⟨⟨⟨⟨g1, g2⟩, g3⟩, g4⟩, g5⟩, g6⟩ := h5
  simp [Cond.before, Cond.holds, Cond.value, h1, h2, h3, h4, g1, g2, g3, g4, g5, g6]
def isCode : Jvm.Cond → Bool
  | .code _ _ _ _ => true
  | _ => false
theorem all_split {L : List Jvm.Cond} {P : Jvm.Cond → Bool} (h1 : L.all (fun c => isCode c || P c) = true) (h2 : ∀ c ∈ L.filter isCode, P c = true) : L.all P = true := by
  refine List.all_eq_true.mpr fun c hc => ?_
  have h := List.all_eq_true.mp h1 c hc
  rcases Bool.eq_false_or_eq_true (isCode c) with hi | hi
  · exact h2 c (List.mem_filter.mpr ⟨hc, hi⟩)
  · simpa [hi] using h
set_option maxRecDepth 65536 in
theorem w_c0 : (Jvm.Cond.code x code maxLocals ret).before args0 about1 = true := code_word (m := ⟨1, 1⟩) (meth := k1m1) (c := k1c1) (by decide +kernel) rfl rfl rfl (by decide +kernel)
set_option maxRecDepth 65536 in
theorem w_c1 : (Jvm.Cond.code ({ cls := "java/util/ArrayList", name := "<init>", desc := "()V" } : Jvm.MethodName) jdk_38_method_2_code (1 : Nat) (Option.none : Option Jvm.ClassFile.FieldType)).before args0 about1 = true := code_word (m := ⟨11, 0⟩) (meth := k11m0) (c := k11c0) (by decide +kernel) rfl rfl rfl (by decide +kernel)
set_option maxRecDepth 65536 in
theorem w_c2 : (Jvm.Cond.code ({ cls := "java/util/AbstractList", name := "<init>", desc := "()V" } : Jvm.MethodName) jdk_39_method_1_code (1 : Nat) (Option.none : Option Jvm.ClassFile.FieldType)).before args0 about1 = true := code_word (m := ⟨7, 0⟩) (meth := k7m0) (c := k7c0) (by decide +kernel) rfl rfl rfl (by decide +kernel)
set_option maxRecDepth 65536 in
theorem w_c3 : (Jvm.Cond.code ({ cls := "java/util/AbstractCollection", name := "<init>", desc := "()V" } : Jvm.MethodName) jdk_22_method_1_code (1 : Nat) (Option.none : Option Jvm.ClassFile.FieldType)).before args0 about1 = true := code_word (m := ⟨4, 0⟩) (meth := k4m0) (c := k4c0) (by decide +kernel) rfl rfl rfl (by decide +kernel)
set_option maxRecDepth 65536 in
theorem w_c4 : (Jvm.Cond.code ({ cls := "java/lang/Object", name := "<init>", desc := "()V" } : Jvm.MethodName) object_method_1_code (1 : Nat) (Option.none : Option Jvm.ClassFile.FieldType)).before args0 about1 = true := code_word (m := ⟨0, 0⟩) (meth := k0m0) (c := k0c0) (by decide +kernel) rfl rfl rfl (by decide +kernel)
set_option maxRecDepth 65536 in
theorem w_c5 : (Jvm.Cond.code ({ cls := "com/example/variaform/variaform/model/feature/GroupIsUpperUnboundedPinLaw", name := "kindOf", desc := "(I)Lcom/example/variaform/variaform/model/feature/Group$Kind;" } : Jvm.MethodName) method_3_code (1 : Nat) (Option.some (Jvm.ClassFile.FieldType.object "com/example/variaform/variaform/model/feature/Group$Kind"))).before args0 about1 = true := code_word (m := ⟨1, 2⟩) (meth := k1m2) (c := k1c2) (by decide +kernel) rfl rfl rfl (by decide +kernel)
set_option maxRecDepth 65536 in
theorem w_c6 : (Jvm.Cond.code ({ cls := "com/example/variaform/variaform/model/feature/Group", name := "<init>", desc := "(Lcom/example/variaform/variaform/model/feature/Group$Kind;Ljava/util/List;)V" } : Jvm.MethodName) prog_39_method_2_code (3 : Nat) (Option.none : Option Jvm.ClassFile.FieldType)).before args0 about1 = true := code_word (m := ⟨12, 1⟩) (meth := k12m1) (c := k12c1) (by decide +kernel) rfl rfl rfl (by decide +kernel)
set_option maxRecDepth 65536 in
theorem w_c7 : (Jvm.Cond.code ({ cls := "com/example/variaform/variaform/model/feature/Group", name := "<init>", desc := "(Lcom/example/variaform/variaform/model/feature/Group$Kind;IILjava/util/List;Lcom/example/variaform/variaform/model/feature/Comments;)V" } : Jvm.MethodName) prog_39_method_3_code (6 : Nat) (Option.none : Option Jvm.ClassFile.FieldType)).before args0 about1 = true := code_word (m := ⟨12, 2⟩) (meth := k12m2) (c := k12c2) (by decide +kernel) rfl rfl rfl (by decide +kernel)
set_option maxRecDepth 65536 in
theorem w_c8 : (Jvm.Cond.code ({ cls := "java/util/List", name := "copyOf", desc := "(Ljava/util/Collection;)Ljava/util/List;" } : Jvm.MethodName) jdk_40_method_48_code (1 : Nat) (Option.some (Jvm.ClassFile.FieldType.object "java/util/List"))).before args0 about1 = true := code_word (m := ⟨6, 3⟩) (meth := k6m3) (c := k6c3) (by decide +kernel) rfl rfl rfl (by decide +kernel)
set_option maxRecDepth 65536 in
theorem w_c9 : (Jvm.Cond.code ({ cls := "java/util/ImmutableCollections", name := "listCopy", desc := "(Ljava/util/Collection;)Ljava/util/List;" } : Jvm.MethodName) jdk_56_method_3_code (2 : Nat) (Option.some (Jvm.ClassFile.FieldType.object "java/util/List"))).before args0 about1 = true := code_word (m := ⟨18, 1⟩) (meth := k18m1) (c := k18c1) (by decide +kernel) rfl rfl rfl (by decide +kernel)
set_option maxRecDepth 65536 in
theorem w_c10 : (Jvm.Cond.code ({ cls := "java/util/ArrayList", name := "isEmpty", desc := "()Z" } : Jvm.MethodName) jdk_38_method_9_code (1 : Nat) (Option.some Jvm.ClassFile.FieldType.boolean)).before args0 about1 = true := code_word (m := ⟨11, 3⟩) (meth := k11m3) (c := k11c3) (by decide +kernel) rfl rfl rfl (by decide +kernel)
set_option maxRecDepth 65536 in
theorem w_c11 : (Jvm.Cond.code ({ cls := "java/util/List", name := "of", desc := "()Ljava/util/List;" } : Jvm.MethodName) jdk_40_method_36_code (0 : Nat) (Option.some (Jvm.ClassFile.FieldType.object "java/util/List"))).before args0 about1 = true := code_word (m := ⟨6, 1⟩) (meth := k6m1) (c := k6c1) (by decide +kernel) rfl rfl rfl (by decide +kernel)
set_option maxRecDepth 65536 in
theorem w_c12 : (Jvm.Cond.code ({ cls := "com/example/variaform/variaform/model/feature/Group", name := "isUpperUnbounded", desc := "()Z" } : Jvm.MethodName) prog_39_method_11_code (1 : Nat) (Option.some Jvm.ClassFile.FieldType.boolean)).before args0 about1 = true := code_word (m := ⟨12, 5⟩) (meth := k12m5) (c := k12c5) (by decide +kernel) rfl rfl rfl (by decide +kernel)
set_option maxRecDepth 65536 in
theorem w_c13 : (Jvm.Cond.code ({ cls := "com/example/variaform/variaform/model/feature/Group", name := "withChildren", desc := "(Ljava/util/List;)Lcom/example/variaform/variaform/model/feature/Group;" } : Jvm.MethodName) prog_39_method_6_code (2 : Nat) (Option.some (Jvm.ClassFile.FieldType.object "com/example/variaform/variaform/model/feature/Group"))).before args0 about1 = true := code_word (m := ⟨12, 4⟩) (meth := k12m4) (c := k12c4) (by decide +kernel) rfl rfl rfl (by decide +kernel)
set_option maxRecDepth 65536 in
theorem w_c14 : (Jvm.Cond.code ({ cls := "com/example/variaform/variaform/model/feature/Group", name := "atLeast", desc := "(ILjava/util/List;)Lcom/example/variaform/variaform/model/feature/Group;" } : Jvm.MethodName) prog_39_method_4_code (2 : Nat) (Option.some (Jvm.ClassFile.FieldType.object "com/example/variaform/variaform/model/feature/Group"))).before args0 about1 = true := code_word (m := ⟨12, 3⟩) (meth := k12m3) (c := k12c3) (by decide +kernel) rfl rfl rfl (by decide +kernel)
set_option maxRecDepth 65536 in
theorem w_c15 : (Jvm.Cond.code ({ cls := "com/example/variaform/variaform/model/feature/Feature", name := "<init>", desc := "(Ljava/lang/String;Ljava/util/List;)V" } : Jvm.MethodName) prog_35_method_1_code (3 : Nat) (Option.none : Option Jvm.ClassFile.FieldType)).before args0 about1 = true := code_word (m := ⟨23, 0⟩) (meth := k23m0) (c := k23c0) (by decide +kernel) rfl rfl rfl (by decide +kernel)
set_option maxRecDepth 65536 in
theorem w_c16 : (Jvm.Cond.code ({ cls := "com/example/variaform/variaform/model/feature/Feature", name := "<init>", desc := "(Ljava/lang/String;Lcom/example/variaform/variaform/model/feature/Feature$Type;Ljava/util/List;Ljava/util/List;)V" } : Jvm.MethodName) prog_35_method_2_code (5 : Nat) (Option.none : Option Jvm.ClassFile.FieldType)).before args0 about1 = true := code_word (m := ⟨23, 1⟩) (meth := k23m1) (c := k23c1) (by decide +kernel) rfl rfl rfl (by decide +kernel)
set_option maxRecDepth 65536 in
theorem w_c17 : (Jvm.Cond.code ({ cls := "com/example/variaform/variaform/model/feature/Feature", name := "<init>", desc := "(Ljava/lang/String;Lcom/example/variaform/variaform/model/feature/Feature$Type;Ljava/util/List;Ljava/util/List;Lcom/example/variaform/variaform/model/feature/Comments;)V" } : Jvm.MethodName) prog_35_method_3_code (10 : Nat) (Option.none : Option Jvm.ClassFile.FieldType)).before args0 about1 = true := code_word (m := ⟨23, 2⟩) (meth := k23m2) (c := k23c2) (by decide +kernel) rfl rfl rfl (by decide +kernel)
set_option maxRecDepth 65536 in
theorem w_c18 : (Jvm.Cond.code ({ cls := "java/util/ImmutableCollections$AbstractImmutableList", name := "iterator", desc := "()Ljava/util/Iterator;" } : Jvm.MethodName) jdk_46_method_10_code (1 : Nat) (Option.some (Jvm.ClassFile.FieldType.object "java/util/Iterator"))).before args0 about1 = true := code_word (m := ⟨20, 1⟩) (meth := k20m1) (c := k20c1) (by decide +kernel) rfl rfl rfl (by decide +kernel)
set_option maxRecDepth 65536 in
theorem w_c19 : (Jvm.Cond.code ({ cls := "java/util/ImmutableCollections$ListN", name := "size", desc := "()I" } : Jvm.MethodName) jdk_45_method_3_code (1 : Nat) (Option.some Jvm.ClassFile.FieldType.int)).before args0 about1 = true := code_word (m := ⟨22, 0⟩) (meth := k22m0) (c := k22c0) (by decide +kernel) rfl rfl rfl (by decide +kernel)
set_option maxRecDepth 65536 in
theorem w_c20 : (Jvm.Cond.code ({ cls := "java/util/ImmutableCollections$ListItr", name := "<init>", desc := "(Ljava/util/List;I)V" } : Jvm.MethodName) jdk_53_method_1_code (3 : Nat) (Option.none : Option Jvm.ClassFile.FieldType)).before args0 about1 = true := code_word (m := ⟨30, 0⟩) (meth := k30m0) (c := k30c0) (by decide +kernel) rfl rfl rfl (by decide +kernel)
set_option maxRecDepth 65536 in
theorem w_c21 : (Jvm.Cond.code ({ cls := "java/util/ImmutableCollections$ListItr", name := "hasNext", desc := "()Z" } : Jvm.MethodName) jdk_53_method_3_code (1 : Nat) (Option.some Jvm.ClassFile.FieldType.boolean)).before args0 about1 = true := code_word (m := ⟨30, 1⟩) (meth := k30m1) (c := k30c1) (by decide +kernel) rfl rfl rfl (by decide +kernel)
set_option maxRecDepth 65536 in
theorem w_c22 : (Jvm.Cond.code ({ cls := "java/util/ArrayList", name := "add", desc := "(Ljava/lang/Object;)Z" } : Jvm.MethodName) jdk_38_method_25_code (2 : Nat) (Option.some Jvm.ClassFile.FieldType.boolean)).before args0 about1 = true := code_word (m := ⟨11, 6⟩) (meth := k11m6) (c := k11c6) (by decide +kernel) rfl rfl rfl (by decide +kernel)
set_option maxRecDepth 65536 in
theorem w_c23 : (Jvm.Cond.code ({ cls := "java/util/ArrayList", name := "add", desc := "(Ljava/lang/Object;[Ljava/lang/Object;I)V" } : Jvm.MethodName) jdk_38_method_24_code (4 : Nat) (Option.none : Option Jvm.ClassFile.FieldType)).before args0 about1 = true := code_word (m := ⟨11, 5⟩) (meth := k11m5) (c := k11c5) (by decide +kernel) rfl rfl rfl (by decide +kernel)
set_option maxRecDepth 65536 in
theorem w_c24 : (Jvm.Cond.code ({ cls := "java/util/ArrayList", name := "grow", desc := "()[Ljava/lang/Object;" } : Jvm.MethodName) jdk_38_method_7_code (1 : Nat) (Option.some (Jvm.ClassFile.FieldType.array (Jvm.ClassFile.FieldType.object "java/lang/Object")))).before args0 about1 = true := code_word (m := ⟨11, 2⟩) (meth := k11m2) (c := k11c2) (by decide +kernel) rfl rfl rfl (by decide +kernel)
set_option maxRecDepth 65536 in
theorem w_c25 : (Jvm.Cond.code ({ cls := "java/util/ArrayList", name := "grow", desc := "(I)[Ljava/lang/Object;" } : Jvm.MethodName) jdk_38_method_6_code (4 : Nat) (Option.some (Jvm.ClassFile.FieldType.array (Jvm.ClassFile.FieldType.object "java/lang/Object")))).before args0 about1 = true := code_word (m := ⟨11, 1⟩) (meth := k11m1) (c := k11c1) (by decide +kernel) rfl rfl rfl (by decide +kernel)
set_option maxRecDepth 65536 in
theorem w_c26 : (Jvm.Cond.code ({ cls := "java/lang/Math", name := "max", desc := "(II)I" } : Jvm.MethodName) jdk_29_method_65_code (2 : Nat) (Option.some Jvm.ClassFile.FieldType.int)).before args0 about1 = true := code_word (m := ⟨31, 1⟩) (meth := k31m1) (c := k31c1) (by decide +kernel) rfl rfl rfl (by decide +kernel)
set_option maxRecDepth 65536 in
theorem w_c27 : (Jvm.Cond.code ({ cls := "java/util/ArrayList", name := "toArray", desc := "()[Ljava/lang/Object;" } : Jvm.MethodName) jdk_38_method_16_code (1 : Nat) (Option.some (Jvm.ClassFile.FieldType.array (Jvm.ClassFile.FieldType.object "java/lang/Object")))).before args0 about1 = true := code_word (m := ⟨11, 4⟩) (meth := k11m4) (c := k11c4) (by decide +kernel) rfl rfl rfl (by decide +kernel)
set_option maxRecDepth 65536 in
theorem w_c28 : (Jvm.Cond.code ({ cls := "java/util/Arrays", name := "copyOf", desc := "([Ljava/lang/Object;I)[Ljava/lang/Object;" } : Jvm.MethodName) jdk_65_method_119_code (2 : Nat) (Option.some (Jvm.ClassFile.FieldType.array (Jvm.ClassFile.FieldType.object "java/lang/Object")))).before args0 about1 = true := code_word (m := ⟨32, 1⟩) (meth := k32m1) (c := k32c1) (by decide +kernel) rfl rfl rfl (by decide +kernel)
set_option maxRecDepth 65536 in
theorem w_c29 : (Jvm.Cond.code ({ cls := "java/util/Arrays", name := "copyOf", desc := "([Ljava/lang/Object;ILjava/lang/Class;)[Ljava/lang/Object;" } : Jvm.MethodName) jdk_65_method_120_code (4 : Nat) (Option.some (Jvm.ClassFile.FieldType.array (Jvm.ClassFile.FieldType.object "java/lang/Object")))).before args0 about1 = true := code_word (m := ⟨32, 2⟩) (meth := k32m2) (c := k32c2) (by decide +kernel) rfl rfl rfl (by decide +kernel)
set_option maxRecDepth 65536 in
theorem w_c30 : (Jvm.Cond.code ({ cls := "java/lang/Math", name := "min", desc := "(II)I" } : Jvm.MethodName) jdk_29_method_69_code (2 : Nat) (Option.some Jvm.ClassFile.FieldType.int)).before args0 about1 = true := code_word (m := ⟨31, 2⟩) (meth := k31m2) (c := k31c2) (by decide +kernel) rfl rfl rfl (by decide +kernel)
set_option maxRecDepth 65536 in
theorem w_c31 : (Jvm.Cond.code ({ cls := "java/util/List", name := "of", desc := "([Ljava/lang/Object;)Ljava/util/List;" } : Jvm.MethodName) jdk_40_method_47_code (2 : Nat) (Option.some (Jvm.ClassFile.FieldType.object "java/util/List"))).before args0 about1 = true := code_word (m := ⟨6, 2⟩) (meth := k6m2) (c := k6c2) (by decide +kernel) rfl rfl rfl (by decide +kernel)
set_option maxRecDepth 65536 in
theorem w_c32 : (Jvm.Cond.code ({ cls := "java/util/ImmutableCollections$List12", name := "<init>", desc := "(Ljava/lang/Object;)V" } : Jvm.MethodName) jdk_44_method_1_code (2 : Nat) (Option.none : Option Jvm.ClassFile.FieldType)).before args0 about1 = true := code_word (m := ⟨21, 0⟩) (meth := k21m0) (c := k21c0) (by decide +kernel) rfl rfl rfl (by decide +kernel)
set_option maxRecDepth 65536 in
theorem w_c33 : (Jvm.Cond.code ({ cls := "java/util/ImmutableCollections$AbstractImmutableList", name := "<init>", desc := "()V" } : Jvm.MethodName) jdk_46_method_1_code (1 : Nat) (Option.none : Option Jvm.ClassFile.FieldType)).before args0 about1 = true := code_word (m := ⟨20, 0⟩) (meth := k20m0) (c := k20c0) (by decide +kernel) rfl rfl rfl (by decide +kernel)
set_option maxRecDepth 65536 in
theorem w_c34 : (Jvm.Cond.code ({ cls := "java/util/ImmutableCollections$AbstractImmutableCollection", name := "<init>", desc := "()V" } : Jvm.MethodName) jdk_47_method_1_code (1 : Nat) (Option.none : Option Jvm.ClassFile.FieldType)).before args0 about1 = true := code_word (m := ⟨19, 0⟩) (meth := k19m0) (c := k19c0) (by decide +kernel) rfl rfl rfl (by decide +kernel)
set_option maxRecDepth 65536 in
theorem w_c35 : (Jvm.Cond.code ({ cls := "java/util/Objects", name := "requireNonNull", desc := "(Ljava/lang/Object;)Ljava/lang/Object;" } : Jvm.MethodName) jdk_31_method_10_code (1 : Nat) (Option.some (Jvm.ClassFile.FieldType.object "java/lang/Object"))).before args0 about1 = true := code_word (m := ⟨34, 1⟩) (meth := k34m1) (c := k34c1) (by decide +kernel) rfl rfl rfl (by decide +kernel)
set_option maxRecDepth 65536 in
theorem w_c36 : (Jvm.Cond.code ({ cls := "com/example/variaform/variaform/model/feature/Group", name := "<init>", desc := "(IILjava/util/List;)V" } : Jvm.MethodName) prog_39_method_1_code (4 : Nat) (Option.none : Option Jvm.ClassFile.FieldType)).before args0 about1 = true := code_word (m := ⟨12, 0⟩) (meth := k12m0) (c := k12c0) (by decide +kernel) rfl rfl rfl (by decide +kernel)
def codes1 : List Jvm.Cond := [Jvm.Cond.code x code maxLocals ret, Jvm.Cond.code ({ cls := "java/util/ArrayList", name := "<init>", desc := "()V" } : Jvm.MethodName) jdk_38_method_2_code (1 : Nat) (Option.none : Option Jvm.ClassFile.FieldType), Jvm.Cond.code ({ cls := "java/util/AbstractList", name := "<init>", desc := "()V" } : Jvm.MethodName) jdk_39_method_1_code (1 : Nat) (Option.none : Option Jvm.ClassFile.FieldType), Jvm.Cond.code ({ cls := "java/util/AbstractCollection", name := "<init>", desc := "()V" } : Jvm.MethodName) jdk_22_method_1_code (1 : Nat) (Option.none : Option Jvm.ClassFile.FieldType), Jvm.Cond.code ({ cls := "java/lang/Object", name := "<init>", desc := "()V" } : Jvm.MethodName) object_method_1_code (1 : Nat) (Option.none : Option Jvm.ClassFile.FieldType), Jvm.Cond.code ({ cls := "com/example/variaform/variaform/model/feature/GroupIsUpperUnboundedPinLaw", name := "kindOf", desc := "(I)Lcom/example/variaform/variaform/model/feature/Group$Kind;" } : Jvm.MethodName) method_3_code (1 : Nat) (Option.some (Jvm.ClassFile.FieldType.object "com/example/variaform/variaform/model/feature/Group$Kind")), Jvm.Cond.code ({ cls := "com/example/variaform/variaform/model/feature/Group", name := "<init>", desc := "(Lcom/example/variaform/variaform/model/feature/Group$Kind;Ljava/util/List;)V" } : Jvm.MethodName) prog_39_method_2_code (3 : Nat) (Option.none : Option Jvm.ClassFile.FieldType), Jvm.Cond.code ({ cls := "com/example/variaform/variaform/model/feature/Group", name := "<init>", desc := "(Lcom/example/variaform/variaform/model/feature/Group$Kind;IILjava/util/List;Lcom/example/variaform/variaform/model/feature/Comments;)V" } : Jvm.MethodName) prog_39_method_3_code (6 : Nat) (Option.none : Option Jvm.ClassFile.FieldType), Jvm.Cond.code ({ cls := "java/util/List", name := "copyOf", desc := "(Ljava/util/Collection;)Ljava/util/List;" } : Jvm.MethodName) jdk_40_method_48_code (1 : Nat) (Option.some (Jvm.ClassFile.FieldType.object "java/util/List")), Jvm.Cond.code ({ cls := "java/util/ImmutableCollections", name := "listCopy", desc := "(Ljava/util/Collection;)Ljava/util/List;" } : Jvm.MethodName) jdk_56_method_3_code (2 : Nat) (Option.some (Jvm.ClassFile.FieldType.object "java/util/List")), Jvm.Cond.code ({ cls := "java/util/ArrayList", name := "isEmpty", desc := "()Z" } : Jvm.MethodName) jdk_38_method_9_code (1 : Nat) (Option.some Jvm.ClassFile.FieldType.boolean), Jvm.Cond.code ({ cls := "java/util/List", name := "of", desc := "()Ljava/util/List;" } : Jvm.MethodName) jdk_40_method_36_code (0 : Nat) (Option.some (Jvm.ClassFile.FieldType.object "java/util/List")), Jvm.Cond.code ({ cls := "com/example/variaform/variaform/model/feature/Group", name := "isUpperUnbounded", desc := "()Z" } : Jvm.MethodName) prog_39_method_11_code (1 : Nat) (Option.some Jvm.ClassFile.FieldType.boolean), Jvm.Cond.code ({ cls := "com/example/variaform/variaform/model/feature/Group", name := "withChildren", desc := "(Ljava/util/List;)Lcom/example/variaform/variaform/model/feature/Group;" } : Jvm.MethodName) prog_39_method_6_code (2 : Nat) (Option.some (Jvm.ClassFile.FieldType.object "com/example/variaform/variaform/model/feature/Group")), Jvm.Cond.code ({ cls := "com/example/variaform/variaform/model/feature/Group", name := "atLeast", desc := "(ILjava/util/List;)Lcom/example/variaform/variaform/model/feature/Group;" } : Jvm.MethodName) prog_39_method_4_code (2 : Nat) (Option.some (Jvm.ClassFile.FieldType.object "com/example/variaform/variaform/model/feature/Group")), Jvm.Cond.code ({ cls := "com/example/variaform/variaform/model/feature/Feature", name := "<init>", desc := "(Ljava/lang/String;Ljava/util/List;)V" } : Jvm.MethodName) prog_35_method_1_code (3 : Nat) (Option.none : Option Jvm.ClassFile.FieldType), Jvm.Cond.code ({ cls := "com/example/variaform/variaform/model/feature/Feature", name := "<init>", desc := "(Ljava/lang/String;Lcom/example/variaform/variaform/model/feature/Feature$Type;Ljava/util/List;Ljava/util/List;)V" } : Jvm.MethodName) prog_35_method_2_code (5 : Nat) (Option.none : Option Jvm.ClassFile.FieldType), Jvm.Cond.code ({ cls := "com/example/variaform/variaform/model/feature/Feature", name := "<init>", desc := "(Ljava/lang/String;Lcom/example/variaform/variaform/model/feature/Feature$Type;Ljava/util/List;Ljava/util/List;Lcom/example/variaform/variaform/model/feature/Comments;)V" } : Jvm.MethodName) prog_35_method_3_code (10 : Nat) (Option.none : Option Jvm.ClassFile.FieldType), Jvm.Cond.code ({ cls := "java/util/ImmutableCollections$AbstractImmutableList", name := "iterator", desc := "()Ljava/util/Iterator;" } : Jvm.MethodName) jdk_46_method_10_code (1 : Nat) (Option.some (Jvm.ClassFile.FieldType.object "java/util/Iterator")), Jvm.Cond.code ({ cls := "java/util/ImmutableCollections$ListN", name := "size", desc := "()I" } : Jvm.MethodName) jdk_45_method_3_code (1 : Nat) (Option.some Jvm.ClassFile.FieldType.int), Jvm.Cond.code ({ cls := "java/util/ImmutableCollections$ListItr", name := "<init>", desc := "(Ljava/util/List;I)V" } : Jvm.MethodName) jdk_53_method_1_code (3 : Nat) (Option.none : Option Jvm.ClassFile.FieldType), Jvm.Cond.code ({ cls := "java/util/ImmutableCollections$ListItr", name := "hasNext", desc := "()Z" } : Jvm.MethodName) jdk_53_method_3_code (1 : Nat) (Option.some Jvm.ClassFile.FieldType.boolean), Jvm.Cond.code ({ cls := "java/util/ArrayList", name := "add", desc := "(Ljava/lang/Object;)Z" } : Jvm.MethodName) jdk_38_method_25_code (2 : Nat) (Option.some Jvm.ClassFile.FieldType.boolean), Jvm.Cond.code ({ cls := "java/util/ArrayList", name := "add", desc := "(Ljava/lang/Object;[Ljava/lang/Object;I)V" } : Jvm.MethodName) jdk_38_method_24_code (4 : Nat) (Option.none : Option Jvm.ClassFile.FieldType), Jvm.Cond.code ({ cls := "java/util/ArrayList", name := "grow", desc := "()[Ljava/lang/Object;" } : Jvm.MethodName) jdk_38_method_7_code (1 : Nat) (Option.some (Jvm.ClassFile.FieldType.array (Jvm.ClassFile.FieldType.object "java/lang/Object"))), Jvm.Cond.code ({ cls := "java/util/ArrayList", name := "grow", desc := "(I)[Ljava/lang/Object;" } : Jvm.MethodName) jdk_38_method_6_code (4 : Nat) (Option.some (Jvm.ClassFile.FieldType.array (Jvm.ClassFile.FieldType.object "java/lang/Object"))), Jvm.Cond.code ({ cls := "java/lang/Math", name := "max", desc := "(II)I" } : Jvm.MethodName) jdk_29_method_65_code (2 : Nat) (Option.some Jvm.ClassFile.FieldType.int), Jvm.Cond.code ({ cls := "java/util/ArrayList", name := "toArray", desc := "()[Ljava/lang/Object;" } : Jvm.MethodName) jdk_38_method_16_code (1 : Nat) (Option.some (Jvm.ClassFile.FieldType.array (Jvm.ClassFile.FieldType.object "java/lang/Object"))), Jvm.Cond.code ({ cls := "java/util/Arrays", name := "copyOf", desc := "([Ljava/lang/Object;I)[Ljava/lang/Object;" } : Jvm.MethodName) jdk_65_method_119_code (2 : Nat) (Option.some (Jvm.ClassFile.FieldType.array (Jvm.ClassFile.FieldType.object "java/lang/Object"))), Jvm.Cond.code ({ cls := "java/util/Arrays", name := "copyOf", desc := "([Ljava/lang/Object;ILjava/lang/Class;)[Ljava/lang/Object;" } : Jvm.MethodName) jdk_65_method_120_code (4 : Nat) (Option.some (Jvm.ClassFile.FieldType.array (Jvm.ClassFile.FieldType.object "java/lang/Object"))), Jvm.Cond.code ({ cls := "java/lang/Math", name := "min", desc := "(II)I" } : Jvm.MethodName) jdk_29_method_69_code (2 : Nat) (Option.some Jvm.ClassFile.FieldType.int), Jvm.Cond.code ({ cls := "java/util/List", name := "of", desc := "([Ljava/lang/Object;)Ljava/util/List;" } : Jvm.MethodName) jdk_40_method_47_code (2 : Nat) (Option.some (Jvm.ClassFile.FieldType.object "java/util/List")), Jvm.Cond.code ({ cls := "java/util/ImmutableCollections$List12", name := "<init>", desc := "(Ljava/lang/Object;)V" } : Jvm.MethodName) jdk_44_method_1_code (2 : Nat) (Option.none : Option Jvm.ClassFile.FieldType), Jvm.Cond.code ({ cls := "java/util/ImmutableCollections$AbstractImmutableList", name := "<init>", desc := "()V" } : Jvm.MethodName) jdk_46_method_1_code (1 : Nat) (Option.none : Option Jvm.ClassFile.FieldType), Jvm.Cond.code ({ cls := "java/util/ImmutableCollections$AbstractImmutableCollection", name := "<init>", desc := "()V" } : Jvm.MethodName) jdk_47_method_1_code (1 : Nat) (Option.none : Option Jvm.ClassFile.FieldType), Jvm.Cond.code ({ cls := "java/util/Objects", name := "requireNonNull", desc := "(Ljava/lang/Object;)Ljava/lang/Object;" } : Jvm.MethodName) jdk_31_method_10_code (1 : Nat) (Option.some (Jvm.ClassFile.FieldType.object "java/lang/Object")), Jvm.Cond.code ({ cls := "com/example/variaform/variaform/model/feature/Group", name := "<init>", desc := "(IILjava/util/List;)V" } : Jvm.MethodName) prog_39_method_1_code (4 : Nat) (Option.none : Option Jvm.ClassFile.FieldType)]
set_option maxRecDepth 65536 in
theorem codes_eq : words1.filter isCode = codes1 := rfl
theorem w_codes : ∀ c ∈ words1.filter isCode, c.before args0 about1 = true := by
  rw [codes_eq]
  intro c hc
  simp only [codes1, List.mem_cons, List.not_mem_nil, or_false] at hc
  rcases hc with rfl | rfl | rfl | rfl | rfl | rfl | rfl | rfl | rfl | rfl | rfl | rfl | rfl | rfl | rfl | rfl | rfl | rfl | rfl | rfl | rfl | rfl | rfl | rfl | rfl | rfl | rfl | rfl | rfl | rfl | rfl | rfl | rfl | rfl | rfl | rfl | rfl
  · exact w_c0
  · exact w_c1
  · exact w_c2
  · exact w_c3
  · exact w_c4
  · exact w_c5
  · exact w_c6
  · exact w_c7
  · exact w_c8
  · exact w_c9
  · exact w_c10
  · exact w_c11
  · exact w_c12
  · exact w_c13
  · exact w_c14
  · exact w_c15
  · exact w_c16
  · exact w_c17
  · exact w_c18
  · exact w_c19
  · exact w_c20
  · exact w_c21
  · exact w_c22
  · exact w_c23
  · exact w_c24
  · exact w_c25
  · exact w_c26
  · exact w_c27
  · exact w_c28
  · exact w_c29
  · exact w_c30
  · exact w_c31
  · exact w_c32
  · exact w_c33
  · exact w_c34
  · exact w_c35
  · exact w_c36
set_option maxRecDepth 65536 in
theorem w_t1 : (words1.take 24).all (fun c => isCode c || c.before args0 about1) = true := by decide +kernel
set_option maxRecDepth 65536 in
theorem w_t2 : ((words1.drop 24).take 24).all (fun c => isCode c || c.before args0 about1) = true := by decide +kernel
set_option maxRecDepth 65536 in
theorem w_t3 : (((words1.drop 24).drop 24).take 24).all (fun c => isCode c || c.before args0 about1) = true := by decide +kernel
set_option maxRecDepth 65536 in
theorem w_t4 : ((((words1.drop 24).drop 24).drop 24).take 24).all (fun c => isCode c || c.before args0 about1) = true := by decide +kernel
set_option maxRecDepth 65536 in
theorem w_t5 : (((((words1.drop 24).drop 24).drop 24).drop 24).take 24).all (fun c => isCode c || c.before args0 about1) = true := by decide +kernel
set_option maxRecDepth 65536 in
theorem w_t6 : ((((((words1.drop 24).drop 24).drop 24).drop 24).drop 24).take 24).all (fun c => isCode c || c.before args0 about1) = true := by decide +kernel
set_option maxRecDepth 65536 in
theorem w_t7 : (((((((words1.drop 24).drop 24).drop 24).drop 24).drop 24).drop 24).take 24).all (fun c => isCode c || c.before args0 about1) = true := by decide +kernel
set_option maxRecDepth 65536 in
theorem w_t8 : ((((((((words1.drop 24).drop 24).drop 24).drop 24).drop 24).drop 24).drop 24).take 24).all (fun c => isCode c || c.before args0 about1) = true := by decide +kernel
set_option maxRecDepth 65536 in
theorem w_t9 : (((((((((words1.drop 24).drop 24).drop 24).drop 24).drop 24).drop 24).drop 24).drop 24).take 24).all (fun c => isCode c || c.before args0 about1) = true := by decide +kernel
set_option maxRecDepth 65536 in
theorem w_t10 : ((((((((((words1.drop 24).drop 24).drop 24).drop 24).drop 24).drop 24).drop 24).drop 24).drop 24).take 24).all (fun c => isCode c || c.before args0 about1) = true := by decide +kernel
set_option maxRecDepth 65536 in
theorem w_t11 : (((((((((((words1.drop 24).drop 24).drop 24).drop 24).drop 24).drop 24).drop 24).drop 24).drop 24).drop 24).take 24).all (fun c => isCode c || c.before args0 about1) = true := by decide +kernel
set_option maxRecDepth 65536 in
theorem w_t12 : ((((((((((((words1.drop 24).drop 24).drop 24).drop 24).drop 24).drop 24).drop 24).drop 24).drop 24).drop 24).drop 24).take 24).all (fun c => isCode c || c.before args0 about1) = true := by decide +kernel
set_option maxRecDepth 65536 in
theorem w_t13 : ((((((((((((words1.drop 24).drop 24).drop 24).drop 24).drop 24).drop 24).drop 24).drop 24).drop 24).drop 24).drop 24).drop 24).all (fun c => isCode c || c.before args0 about1) = true := by decide +kernel
theorem w_tables : (allAtoms (Jvm.Cond.code x code maxLocals ret :: tables_1)).before args0 about1 = true := by
  rw [allAtoms_all]
  show words1.all (fun c => c.before args0 about1) = true
  refine all_split ?_ w_codes
  rw [← List.take_append_drop 24 words1, List.all_append, w_t1, ← List.take_append_drop 24 (words1.drop 24), List.all_append, w_t2, ← List.take_append_drop 24 ((words1.drop 24).drop 24), List.all_append, w_t3, ← List.take_append_drop 24 (((words1.drop 24).drop 24).drop 24), List.all_append, w_t4, ← List.take_append_drop 24 ((((words1.drop 24).drop 24).drop 24).drop 24), List.all_append, w_t5, ← List.take_append_drop 24 (((((words1.drop 24).drop 24).drop 24).drop 24).drop 24), List.all_append, w_t6, ← List.take_append_drop 24 ((((((words1.drop 24).drop 24).drop 24).drop 24).drop 24).drop 24), List.all_append, w_t7, ← List.take_append_drop 24 (((((((words1.drop 24).drop 24).drop 24).drop 24).drop 24).drop 24).drop 24), List.all_append, w_t8, ← List.take_append_drop 24 ((((((((words1.drop 24).drop 24).drop 24).drop 24).drop 24).drop 24).drop 24).drop 24), List.all_append, w_t9, ← List.take_append_drop 24 (((((((((words1.drop 24).drop 24).drop 24).drop 24).drop 24).drop 24).drop 24).drop 24).drop 24), List.all_append, w_t10, ← List.take_append_drop 24 ((((((((((words1.drop 24).drop 24).drop 24).drop 24).drop 24).drop 24).drop 24).drop 24).drop 24).drop 24), List.all_append, w_t11, ← List.take_append_drop 24 (((((((((((words1.drop 24).drop 24).drop 24).drop 24).drop 24).drop 24).drop 24).drop 24).drop 24).drop 24).drop 24), List.all_append, w_t12, w_t13]
  rfl
set_option maxRecDepth 65536 in
theorem w_rest : rest_1_c.before args0 about1 = true := by decide +kernel
set_option maxRecDepth 65536 in
theorem w_case : (Jvm.Cond.and given_1 narrow_1).before args0 about1 = true := by decide +kernel
theorem w_applies : (headSpec (Jvm.Cond.code x code maxLocals ret :: tables_1) room_1).applies x e0.platform about1 = true :=
  (Spec.applies_iff w_frames).mpr ⟨w_running, w_runnable, w_alone, w_named, w_hears, w_ripe, w_room, w_tables⟩
theorem atStart : AtStart classFile x code maxLocals ret World_1 tables_1 room_1 Calls_1 rest_1 Pre_1 launch0 p0 e0 about1 theMethod args0 below0 :=
  ⟨lists_1, trivial, launch0.admits_env _ _ _, launch0.least_env, fairChoices_fair.cas, fairChoices_fair.clock, w_frames, w_args, w_heap, w_applies, ⟨⟨40, k40, 5, by decide +kernel, rfl, rfl, _, rfl, rfl⟩, trivial⟩, w_rest, w_case⟩
end start1
theorem witness_1 : WitnessClaimed_1 := ⟨start1.p0, start1.e0, start1.about1, start1.theMethod, start1.args0, start1.below0, start1.atStart⟩
end Jvm.Pilot.@@N@@
